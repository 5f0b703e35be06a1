import JvmDerived
import JvmDerived.Pilot.@@N@@Statement
import JvmDerived.Pilot.@@N@@Code
set_option linter.unusedVariables false
set_option linter.unusedSimpArgs false
namespace Jvm.RoadKit
open Sem ClassFile Op Lib Jvm.Stand Jvm.Free Jvm.LawKit
section OwnGo
/-- from the state T with the frame g on top the run comes to a state of which K holds -/
def own_Go (tb : Tables) (e : Env) (below : List Frame) (K : State → Prop) (T : State) (g : JFrame) : Prop := ∃ t, Steps tb e below (T.setTop g) t ∧ K t
/-- the invocation has ended by a return, with what Q says of the value, the heap and the written places -/
def own_Fin (below : List Frame) (s : State) (Q : Option Value → Heap → List Loc → Prop) (k n : Nat) (t : State) : Prop := ∃ o, t.status = .running ∧ Ended t below o ∧ ∃ v L, o = .returned v ∧ Q v t.heap L ∧ FrameEnd s o t L k n
variable {p : Program} {l : Launch} {e : Env} {R : Room} {s : State} {m : MethodId} {args : Array Value} {below : List Frame} {meth : Method} {c : Code} {T : State} {locs : List Loc} {cells slots : Nat}
variable {K : State → Prop} {T' : State} {g g' : JFrame} {tb : Tables} {Q : Option Value → Heap → List Loc → Prop} {k n : Nat}
theorem own_st (h : ∀ t, Steps tb e below (T'.setTop g') t → Steps tb e below (T.setTop g) t) (q : own_Go tb e below K T' g') : own_Go tb e below K T g := by
  obtain ⟨t, h1, h2⟩ := q
  exact ⟨t, h _ h1, h2⟩
theorem own_tr (h : Steps tb e below (T.setTop g) (T'.setTop g')) (q : own_Go tb e below K T' g') : own_Go tb e below K T g := by
  obtain ⟨t, h1, h2⟩ := q
  exact ⟨t, h.trans h1, h2⟩
theorem own_in (h : g = g') (q : own_Go tb e below K T g') : own_Go tb e below K T g := h ▸ q
theorem own_out (q : own_Go tb e below (own_Fin below s Q k n) T g) : ∃ s₂ o, Steps tb e below (T.setTop g) s₂ ∧ s₂.status = .running ∧ Ended s₂ below o ∧ ∃ v L, o = .returned v ∧ Q v s₂.heap L ∧ FrameEnd s o s₂ L k n := by
  obtain ⟨t, h1, o, h2, h3, h4⟩ := q
  exact ⟨t, o, h1, h2, h3, h4⟩
theorem own_leave (X : Stand p l e R s m args below meth c T locs cells slots) (hlk : meth.locks = false) {v : Option Value} (hv : meth.sig.returnType = none → v = none) (hq : Q v T.heap locs) (hk : cells ≤ k) (hn : slots ≤ n)
    (st : ∀ fs, (∀ (f : JFrame) (acts : List Action), f.method = m → f.locked = none → f.entered = [] → (doReturn e (T.setTop f) acts v).1 = T.setFrames fs) → Steps p.tables e below (T.setTop g) (T.setFrames fs)) :
    own_Go p.tables e below (own_Fin below s Q k n) T g := by
  obtain ⟨fs, hr, hrun, hended, hW, hsame⟩ := X.leave (v := v) hv hlk
  exact ⟨_, st fs hr, _, hrun, hended, _, _, rfl, hq, ⟨_, rfl⟩, hW, hsame.mono hk hn⟩
variable {pc : Nat} {Ls : Array Slot} {rest : List Value}
theorem own_retV (X : Stand p l e R s m args below meth c T locs cells slots) (hx : p.tables.exec = Jvm.exec) (hlk : meth.locks = false) (hret : meth.sig.returnType = none) (hd : decode c.code pc = .ok (.return_, 1)) (hq : Q none T.heap locs) (hk : cells ≤ k) (hn : slots ≤ n) :
    own_Go p.tables e below (own_Fin below s Q k n) T (mkF m pc Ls []) :=
  own_leave X hlk (fun _ => rfl) hq hk hn fun _ hr => X.returnOut hx hret hd hr
theorem own_retW (X : Stand p l e R s m args below meth c T locs cells slots) (hx : p.tables.exec = Jvm.exec) (hlk : meth.locks = false) {w : Value} {t : FieldType} {i : Instr} (hret : meth.sig.returnType = some t) (hn' : narrow t w = w)
    (hi : (i = .ireturn ∧ (t = .int ∨ t = .boolean ∨ t = .byte ∨ t = .char ∨ t = .short) ∧ ∃ z, w = .int z) ∨ (i = .lreturn ∧ t = .long ∧ ∃ z, w = .long z) ∨ (i = .dreturn ∧ t = .double ∧ ∃ z, w = .double z) ∨ (i = .freturn ∧ t = .float ∧ ∃ z, w = .float z) ∨ (i = .areturn ∧ t.isReference = true ∧ w.isRef = true))
    (hd : decode c.code pc = .ok (i, 1)) (hq : Q (some w) T.heap locs) (hk : cells ≤ k) (hn : slots ≤ n) :
    own_Go p.tables e below (own_Fin below s Q k n) T (mkF m pc Ls (w :: rest)) :=
  own_leave X hlk (fun h => by rw [hret] at h; cases h) hq hk hn fun _ hr => retOut X hx hret hn' hi hd hr
theorem own_retI (X : Stand p l e R s m args below meth c T locs cells slots) (hx : p.tables.exec = Jvm.exec) (hlk : meth.locks = false) {z : Int32} (hret : meth.sig.returnType = some .int) (hd : decode c.code pc = .ok (.ireturn, 1)) (hq : Q (some (.int z)) T.heap locs) (hk : cells ≤ k) (hn : slots ≤ n) :
    own_Go p.tables e below (own_Fin below s Q k n) T (mkF m pc Ls (.int z :: rest)) :=
  own_retW X hx hlk hret rfl (Or.inl ⟨rfl, Or.inl rfl, _, rfl⟩) hd hq hk hn
theorem own_retJ (X : Stand p l e R s m args below meth c T locs cells slots) (hx : p.tables.exec = Jvm.exec) (hlk : meth.locks = false) {z : Int64} (hret : meth.sig.returnType = some .long) (hd : decode c.code pc = .ok (.lreturn, 1)) (hq : Q (some (.long z)) T.heap locs) (hk : cells ≤ k) (hn : slots ≤ n) :
    own_Go p.tables e below (own_Fin below s Q k n) T (mkF m pc Ls (.long z :: rest)) :=
  own_retW X hx hlk hret rfl (Or.inr (Or.inl ⟨rfl, rfl, _, rfl⟩)) hd hq hk hn
theorem own_retR (X : Stand p l e R s m args below meth c T locs cells slots) (hx : p.tables.exec = Jvm.exec) (hlk : meth.locks = false) {w : Value} {t : FieldType} (hret : meth.sig.returnType = some t) (ht : t.isReference = true) (hw : w.isRef = true) (hn' : narrow t w = w) (hd : decode c.code pc = .ok (.areturn, 1)) (hq : Q (some w) T.heap locs) (hk : cells ≤ k) (hn : slots ≤ n) :
    own_Go p.tables e below (own_Fin below s Q k n) T (mkF m pc Ls (w :: rest)) :=
  own_retW X hx hlk hret hn' (Or.inr (Or.inr (Or.inr (Or.inr ⟨rfl, ht, hw⟩)))) hd hq hk hn
theorem own_retN (X : Stand p l e R s m args below meth c T locs cells slots) (hx : p.tables.exec = Jvm.exec) (hlk : meth.locks = false) {z : Int32} {t : FieldType} (hret : meth.sig.returnType = some t) (ht : t = .boolean ∨ t = .byte ∨ t = .char ∨ t = .short) (hd : decode c.code pc = .ok (.ireturn, 1)) (hq : Q (some (.int (nar t z))) T.heap locs) (hk : cells ≤ k) (hn : slots ≤ n) :
    own_Go p.tables e below (own_Fin below s Q k n) T (mkF m pc Ls (.int z :: rest)) :=
  own_leave X hlk (fun h => by rw [hret] at h; cases h) hq hk hn fun _ hr => retN X hx hret ht hd hr
/-- the same, where String constants may have been resolved -/
def own_FinW (below : List Frame) (s : State) (Q : Option Value → Heap → List Loc → Prop) (k n : Nat) (t : State) : Prop := ∃ o, t.status = .running ∧ Ended t below o ∧ ∃ v L, o = .returned v ∧ Q v t.heap L ∧ ReturnedEndW s o t L k n
theorem own_outW (q : own_Go tb e below (own_FinW below s Q k n) T g) : ∃ s₂ o, Steps tb e below (T.setTop g) s₂ ∧ s₂.status = .running ∧ Ended s₂ below o ∧ ∃ v L, o = .returned v ∧ Q v s₂.heap L ∧ ReturnedEndW s o s₂ L k n := by
  obtain ⟨t, h1, o, h2, h3, h4⟩ := q
  exact ⟨t, o, h1, h2, h3, h4⟩
theorem own_leaveW {vm0 : Vm} {k0 : Nat} (X : Stand p l e R (s.setVm vm0) m args below meth c T locs cells slots) (hS : s.Since vm0 k0) (hk0 : k0 ≤ T.heap.size) (hlk : meth.locks = false) {v : Option Value} (hv : meth.sig.returnType = none → v = none) (hq : Q v T.heap locs) (hk : cells ≤ k) (hn : slots ≤ n)
    (st : ∀ fs, (∀ (f : JFrame) (acts : List Action), f.method = m → f.locked = none → f.entered = [] → (doReturn e (T.setTop f) acts v).1 = T.setFrames fs) → Steps p.tables e below (T.setTop g) (T.setFrames fs)) :
    own_Go p.tables e below (own_FinW below s Q k n) T g := by
  obtain ⟨fs, hr, hrun, hended, h1, h2, h3, h4⟩ := X.leaveW hS hk0 (v := v) hv hlk
  exact ⟨_, st fs hr, _, hrun, hended, _, _, rfl, hq, h1, h2, h3, h4.mono hk hn⟩
theorem own_retVW {vm0 : Vm} {k0 : Nat} (X : Stand p l e R (s.setVm vm0) m args below meth c T locs cells slots) (hS : s.Since vm0 k0) (hk0 : k0 ≤ T.heap.size) (hx : p.tables.exec = Jvm.exec) (hlk : meth.locks = false) (hret : meth.sig.returnType = none) (hd : decode c.code pc = .ok (.return_, 1)) (hq : Q none T.heap locs) (hk : cells ≤ k) (hn : slots ≤ n) :
    own_Go p.tables e below (own_FinW below s Q k n) T (mkF m pc Ls []) :=
  own_leaveW X hS hk0 hlk (fun _ => rfl) hq hk hn fun _ hr => X.returnOut hx hret hd hr
theorem own_retWW {vm0 : Vm} {k0 : Nat} (X : Stand p l e R (s.setVm vm0) m args below meth c T locs cells slots) (hS : s.Since vm0 k0) (hk0 : k0 ≤ T.heap.size) (hx : p.tables.exec = Jvm.exec) (hlk : meth.locks = false) {w : Value} {t : FieldType} {i : Instr} (hret : meth.sig.returnType = some t) (hn' : narrow t w = w)
    (hi : (i = .ireturn ∧ (t = .int ∨ t = .boolean ∨ t = .byte ∨ t = .char ∨ t = .short) ∧ ∃ z, w = .int z) ∨ (i = .lreturn ∧ t = .long ∧ ∃ z, w = .long z) ∨ (i = .dreturn ∧ t = .double ∧ ∃ z, w = .double z) ∨ (i = .freturn ∧ t = .float ∧ ∃ z, w = .float z) ∨ (i = .areturn ∧ t.isReference = true ∧ w.isRef = true))
    (hd : decode c.code pc = .ok (i, 1)) (hq : Q (some w) T.heap locs) (hk : cells ≤ k) (hn : slots ≤ n) :
    own_Go p.tables e below (own_FinW below s Q k n) T (mkF m pc Ls (w :: rest)) :=
  own_leaveW X hS hk0 hlk (fun h => by rw [hret] at h; cases h) hq hk hn fun _ hr => retOut X hx hret hn' hi hd hr
theorem own_retNW {vm0 : Vm} {k0 : Nat} (X : Stand p l e R (s.setVm vm0) m args below meth c T locs cells slots) (hS : s.Since vm0 k0) (hk0 : k0 ≤ T.heap.size) (hx : p.tables.exec = Jvm.exec) (hlk : meth.locks = false) {z : Int32} {t : FieldType} (hret : meth.sig.returnType = some t) (ht : t = .boolean ∨ t = .byte ∨ t = .char ∨ t = .short) (hd : decode c.code pc = .ok (.ireturn, 1)) (hq : Q (some (.int (nar t z))) T.heap locs) (hk : cells ≤ k) (hn : slots ≤ n) :
    own_Go p.tables e below (own_FinW below s Q k n) T (mkF m pc Ls (.int z :: rest)) :=
  own_leaveW X hS hk0 hlk (fun h => by rw [hret] at h; cases h) hq hk hn fun _ hr => retN X hx hret ht hd hr
theorem own_wz {Z : State} {vm0 vm1 : Vm} {k1 : Nat} (hZ : Z.Warmed39 vm0) (hs : (s.setVm vm0).Since vm1 k1) : Z.Warmed39 (s.setVm vm1).vm := State.Warmed39.trans (t := s.setVm vm0) hZ hs.1
theorem own_wo {vm0 vm1 : Vm} {k1 : Nat} {own : String} {q : ClassId} (h : (s.setVm vm0).vm.findClass own = some q) (hs : (s.setVm vm0).Since vm1 k1) : (s.setVm vm1).vm.findClass own = some q := by
  rw [show (s.setVm vm1).vm = vm1 from rfl, hs.1.alike.findClass]; exact h
theorem own_sta_keep {Z : State} {h h' : Heap} {C f d : String} {v : Value} {ws : List Addr} (F : Sta Z h C f d v) (K : Keep h h' ws) (hs : ∀ x ∈ ws, ∀ cl : Cell, h[x]? = some cl → cl.vm.isStatics = false) : Sta Z h' C f d v := by
  obtain ⟨cf, i, k, f', st, cell, h1, h2, h3, h4, h5, h6, h7⟩ := F
  refine ⟨cf, i, k, f', st, cell, h1, h2, h3, h4, K.2.1 _ _ h5 fun q => ?_, h6, h7⟩
  rw [hs st q cell h5] at h6
  cases h6
theorem own_getD_int (es : List Int32) (i : Nat) : (es.map Value.int).getD i (.int 0) = .int (es.getD i 0) := by
  induction es generalizing i with
  | nil => rfl
  | cons a t ih => cases i with
    | zero => rfl
    | succ j => simpa using ih j
theorem own_getD_long (es : List Int64) (i : Nat) : (es.map Value.long).getD i (.long 0) = .long (es.getD i 0) := by
  induction es generalizing i with
  | nil => rfl
  | cons a t ih => cases i with
    | zero => rfl
    | succ j => simpa using ih j
theorem own_eq_int {args : Array Value} {s : State} {t : Term} {k : Int32} (h : (Cond.eq t (.int k)).value args s none s [] = some true) : t.eval args s none [] s = some (.int k) := by
  obtain ⟨x, y, e1, e2, hk, hk'⟩ := cmp_v (Or.inl h)
  have e3 : y = .int k := by simpa [Term.eval] using e2.symm
  subst e3
  cases x with
  | int z => simp [Cond.value, e1, e2] at h; rw [e1, h]
  | _ => simp [Kin] at hk'
end OwnGo
end Jvm.RoadKit
namespace Jvm.Pilot.@@N@@
open Jvm Jvm.ClassFile Sem Op Lib Jvm.Free Jvm.Stand Jvm.LawKit Jvm.RoadKit Bundle Jvm.Pilot.@@N@@.Jvm.D
/-! body 1: Room.<init> -/
theorem d1_0 : decode prog_41_method_1_code 0 = .ok (.aload_n 0, 1) := by decide +kernel
theorem d1_1 : decode prog_41_method_1_code 1 = .ok (.invokespecial 1, 3) := by decide +kernel
theorem d1_4 : decode prog_41_method_1_code 4 = .ok (.aload_n 0, 1) := by decide +kernel
theorem d1_5 : decode prog_41_method_1_code 5 = .ok (.aload_n 1, 1) := by decide +kernel
theorem d1_6 : decode prog_41_method_1_code 6 = .ok (.putfield 7, 3) := by decide +kernel
theorem d1_9 : decode prog_41_method_1_code 9 = .ok (.aload_n 0, 1) := by decide +kernel
theorem d1_10 : decode prog_41_method_1_code 10 = .ok (.aload_n 2, 1) := by decide +kernel
theorem d1_11 : decode prog_41_method_1_code 11 = .ok (.putfield 13, 3) := by decide +kernel
theorem d1_14 : decode prog_41_method_1_code 14 = .ok (.return_, 1) := by decide +kernel
theorem pn_com_example_hot_pool_hotpool_pool_Room : plainName "com/example/hot_pool/hotpool/pool/Room" = true := by first | (simp [plainName, overriddenIn]; done) | decide +kernel
theorem ef_1 (m : MethodId) (x0 : Addr) : entryFrame m #[(.ref x0), .null, .null] 3 = mkF m 0 #[.val (.ref x0), .val .null, .val .null] [] := by first | (simp [entryFrame, mkF, argsToLocals, Value.category]; done) | rfl
def Q1 (Z : State) (r0 : Addr) (h0 : Heap) (n0 : Nat) (v : Option Value) (h : Heap) (L : List Loc) : Prop := v = none ∧ Fr n0 L ∧ Keep h0 h [r0] ∧ Fld Z h r0 "com/example/hot_pool/hotpool/pool/Room" "settings" "Lcom/example/hot_pool/hotpool/config/PoolSettings;" .null ∧ Fld Z h r0 "com/example/hot_pool/hotpool/pool/Room" "own" "Lcom/example/hot_pool/hotpool/config/Credentials;" .null ∧ Fld Z h r0 "com/example/hot_pool/hotpool/pool/Room" "closing" "I" (.int (0 : Int32)) ∧ Fld Z h r0 "com/example/hot_pool/hotpool/pool/Room" "taken" "I" (.int (0 : Int32)) ∧ Fld Z h r0 "com/example/hot_pool/hotpool/pool/Room" "others" "I" (.int (0 : Int32))
set_option maxRecDepth 65536 in
set_option maxHeartbeats 40000000 in
theorem rm1 (l : Launch) (Z : State) (a0 : Array Value) (hw : ∀ d ∈ tables_1, d.before a0 Z = true) (ws : List Jvm.Cond) (r0 : Addr) (h0 : Heap) (n0 : Nat) (Z0 : n0 ≤ h0.size) (E_r0 : Exa Z h0 r0 "com/example/hot_pool/hotpool/pool/Room") (F_settings_r0 : Fld Z h0 r0 "com/example/hot_pool/hotpool/pool/Room" "settings" "Lcom/example/hot_pool/hotpool/config/PoolSettings;" .null) (F_own_r0 : Fld Z h0 r0 "com/example/hot_pool/hotpool/pool/Room" "own" "Lcom/example/hot_pool/hotpool/config/Credentials;" .null) (F_closing_r0 : Fld Z h0 r0 "com/example/hot_pool/hotpool/pool/Room" "closing" "I" (.int (0 : Int32))) (F_taken_r0 : Fld Z h0 r0 "com/example/hot_pool/hotpool/pool/Room" "taken" "I" (.int (0 : Int32))) (F_others_r0 : Fld Z h0 r0 "com/example/hot_pool/hotpool/pool/Room" "others" "I" (.int (0 : Int32))) (g_r0 : n0 ≤ r0) :
    MetFree l (⟨"com/example/hot_pool/hotpool/pool/Room", "<init>", "(Lcom/example/hot_pool/hotpool/config/PoolSettings;Lcom/example/hot_pool/hotpool/config/Credentials;)V"⟩ : MethodName) (head1 (Jvm.Cond.code (⟨"com/example/hot_pool/hotpool/pool/Room", "<init>", "(Lcom/example/hot_pool/hotpool/config/PoolSettings;Lcom/example/hot_pool/hotpool/config/Credentials;)V"⟩ : MethodName) prog_41_method_1_code 3 none :: ws) ({ frames := 1, cells := 0, slots := 0, locals := 12 } : Room)) (fun a U => a = #[(.ref r0), .null, .null] ∧ Z.Warmed39 U.vm ∧ U.heap = h0) (fun _ _ _ _ _ => True) (fun _ U o U' => ∃ v L, o = .returned v ∧ Q1 Z r0 h0 n0 v U'.heap L ∧ FrameEnd U o U' L ({ frames := 1, cells := 0, slots := 0, locals := 12 } : Room).cells ({ frames := 1, cells := 0, slots := 0, locals := 12 } : Room).slots) := by
  refine MetFree.of_bodySF (plainFor_of_name pn_com_example_hot_pool_hotpool_pool_Room) hisR ?_
  intro p e s m args below meth c s₁ Bd hml0 hP hK
  obtain ⟨rfl, hZ, hh⟩ := hP
  have hx := Bd.exec
  have hby := Bd.bytes
  have hlk := Bd.notSynchronized
  have hrt := Bd.returns
  have hml : c.maxLocals = 3 := hml0
  have hown : s.vm.findClass "com/example/hot_pool/hotpool/pool/Room" = some m.cls := findClass_of_methodNamed Bd.named
  have hnm := (name_of_methodNamed Bd.named Bd.method).1
  have X0 : Stand p l e ({ frames := 1, cells := 0, slots := 0, locals := 12 } : Room) s m #[(.ref r0), .null, .null] below meth c s₁ [] 0 0 := Stand.of_body Bd
  have e0 : s₁.heap = h0 := by rw [← hh, Bd.state]; rfl
  have N0 := Fr.nil n0
  have K0 := Keep.refl h0 [r0]
  refine own_out (Q := Q1 Z r0 h0 n0) ?_
  refine own_in (ef_1 m r0) ?_
  show own_Go _ _ _ _ s₁ (mkF m 0 #[.val (.ref r0), .val .null, .val .null] [])
  refine own_st (fun t k => XS.aloadN X0.here hx rfl (hb hby d1_0) rfl rfl k) ?_
  show own_Go _ _ _ _ s₁ (mkF m 1 #[.val (.ref r0), .val .null, .val .null] [(.ref r0)])
  obtain ⟨T1, X1, e1, st1⟩ := initO X0 hx hZ hown (hw _ (List.mem_of_getElem? (i := 6) rfl)) (hw _ (List.mem_of_getElem? (i := 7) rfl)) (hw _ (List.mem_of_getElem? (i := 8) rfl)) e0 (g := (mkF m 1 #[.val (.ref r0), .val .null, .val .null] [(.ref r0)])) rfl (by rw [hml]; rfl) rfl (hb hby d1_1) (by decide) (W := 0) (by show 2 * 0 + _ ≤ _; exact Nat.le_of_eq rfl) (by decide)
  refine own_st st1 ?_
  show own_Go _ _ _ _ T1 (mkF m 4 #[.val (.ref r0), .val .null, .val .null] [])
  refine own_st (fun t k => XS.aloadN X1.here hx rfl (hb hby d1_4) rfl rfl k) ?_
  show own_Go _ _ _ _ T1 (mkF m 5 #[.val (.ref r0), .val .null, .val .null] [(.ref r0)])
  refine own_st (fun t k => XS.aloadN X1.here hx rfl (hb hby d1_5) rfl rfl k) ?_
  show own_Go _ _ _ _ T1 (mkF m 6 #[.val (.ref r0), .val .null, .val .null] [.null, (.ref r0)])
  obtain ⟨T2, h2, X2, e2, W2, st2⟩ := putF X1 hx hZ hown (host := "") (Or.inl (hw _ (List.mem_of_getElem? (i := 9) rfl))) Via.refl e1 F_settings_r0 E_r0 (Or.inr ⟨(hw _ (List.mem_of_getElem? (i := 10) rfl)), rfl, hnm⟩) (hw _ (List.mem_of_getElem? (i := 1) rfl)) (ty := (.object "com/example/hot_pool/hotpool/config/PoolSettings")) (by decide) rfl rfl (g := (mkF m 6 #[.val (.ref r0), .val .null, .val .null] [.null, (.ref r0)])) rfl rfl (hb hby d1_6)
  have F2 := F_settings_r0.same W2
  have N2 := Fr.snoc X2 N0 g_r0
  refine own_st st2 ?_
  show own_Go _ _ _ _ T2 (mkF m 9 #[.val (.ref r0), .val .null, .val .null] [])
  refine own_st (fun t k => XS.aloadN X2.here hx rfl (hb hby d1_9) rfl rfl k) ?_
  show own_Go _ _ _ _ T2 (mkF m 10 #[.val (.ref r0), .val .null, .val .null] [(.ref r0)])
  refine own_st (fun t k => XS.aloadN X2.here hx rfl (hb hby d1_10) rfl rfl k) ?_
  show own_Go _ _ _ _ T2 (mkF m 11 #[.val (.ref r0), .val .null, .val .null] [.null, (.ref r0)])
  have F_own_r0_3 := (F_own_r0.other W2 (Or.inr (slot_ne (Or.inr (hw _ (List.mem_of_getElem? (i := 12) rfl))) (Or.inr (hw _ (List.mem_of_getElem? (i := 10) rfl))) (by decide) (t := (.object "com/example/hot_pool/hotpool/config/Credentials")) (t' := (.object "com/example/hot_pool/hotpool/config/PoolSettings")) (by decide) (by decide))))
  have E_r0_4 := (E_r0.wr W2)
  have K0_5 := (K0.wr W2 (Or.inl (List.mem_of_getElem? (i := 0) rfl)))
  obtain ⟨T6, h6, X6, e6, W6, st6⟩ := putF X2 hx hZ hown (host := "") (Or.inl (hw _ (List.mem_of_getElem? (i := 11) rfl))) Via.refl e2 F_own_r0_3 E_r0_4 (Or.inr ⟨(hw _ (List.mem_of_getElem? (i := 12) rfl)), rfl, hnm⟩) (hw _ (List.mem_of_getElem? (i := 1) rfl)) (ty := (.object "com/example/hot_pool/hotpool/config/Credentials")) (by decide) rfl rfl (g := (mkF m 11 #[.val (.ref r0), .val .null, .val .null] [.null, (.ref r0)])) rfl rfl (hb hby d1_11)
  have F6 := F_own_r0_3.same W6
  have N6 := Fr.snoc X6 N2 g_r0
  refine own_st st6 ?_
  show own_Go _ _ _ _ T6 (mkF m 14 #[.val (.ref r0), .val .null, .val .null] [])
  have K0_7 := (K0_5.wr W6 (Or.inl (List.mem_of_getElem? (i := 0) rfl)))
  have F2_settings_8 := (F2.other W6 (Or.inr (slot_ne (Or.inr (hw _ (List.mem_of_getElem? (i := 10) rfl))) (Or.inr (hw _ (List.mem_of_getElem? (i := 12) rfl))) (by decide) (t := (.object "com/example/hot_pool/hotpool/config/PoolSettings")) (t' := (.object "com/example/hot_pool/hotpool/config/Credentials")) (by decide) (by decide))))
  have F_closing_r0_9 := ((F_closing_r0.other W2 (Or.inr (slot_ne (Or.inl (hw _ (List.mem_of_getElem? (i := 19) rfl))) (Or.inr (hw _ (List.mem_of_getElem? (i := 10) rfl))) (by decide) (t := .int) (t' := (.object "com/example/hot_pool/hotpool/config/PoolSettings")) (by decide) (by decide)))).other W6 (Or.inr (slot_ne (Or.inl (hw _ (List.mem_of_getElem? (i := 19) rfl))) (Or.inr (hw _ (List.mem_of_getElem? (i := 12) rfl))) (by decide) (t := .int) (t' := (.object "com/example/hot_pool/hotpool/config/Credentials")) (by decide) (by decide))))
  have F_taken_r0_10 := ((F_taken_r0.other W2 (Or.inr (slot_ne (Or.inl (hw _ (List.mem_of_getElem? (i := 21) rfl))) (Or.inr (hw _ (List.mem_of_getElem? (i := 10) rfl))) (by decide) (t := .int) (t' := (.object "com/example/hot_pool/hotpool/config/PoolSettings")) (by decide) (by decide)))).other W6 (Or.inr (slot_ne (Or.inl (hw _ (List.mem_of_getElem? (i := 21) rfl))) (Or.inr (hw _ (List.mem_of_getElem? (i := 12) rfl))) (by decide) (t := .int) (t' := (.object "com/example/hot_pool/hotpool/config/Credentials")) (by decide) (by decide))))
  have F_others_r0_11 := ((F_others_r0.other W2 (Or.inr (slot_ne (Or.inl (hw _ (List.mem_of_getElem? (i := 38) rfl))) (Or.inr (hw _ (List.mem_of_getElem? (i := 10) rfl))) (by decide) (t := .int) (t' := (.object "com/example/hot_pool/hotpool/config/PoolSettings")) (by decide) (by decide)))).other W6 (Or.inr (slot_ne (Or.inl (hw _ (List.mem_of_getElem? (i := 38) rfl))) (Or.inr (hw _ (List.mem_of_getElem? (i := 12) rfl))) (by decide) (t := .int) (t' := (.object "com/example/hot_pool/hotpool/config/Credentials")) (by decide) (by decide))))
  exact own_retV X6 hx hlk hrt (hb hby d1_14) (by rw [e6]; exact ⟨rfl, N6, K0_7, F2_settings_8, F6, F_closing_r0_9, F_taken_r0_10, F_others_r0_11⟩) (by decide) (by decide)
/-! body 3: Room.freeClosed -/
theorem d3_0 : decode prog_41_method_6_code 0 = .ok (.aload_n 0, 1) := by decide +kernel
theorem d3_1 : decode prog_41_method_6_code 1 = .ok (.dup, 1) := by decide +kernel
theorem d3_2 : decode prog_41_method_6_code 2 = .ok (.getfield 46, 3) := by decide +kernel
theorem d3_5 : decode prog_41_method_6_code 5 = .ok (.iconst 1, 1) := by decide +kernel
theorem d3_6 : decode prog_41_method_6_code 6 = .ok (.isub, 1) := by decide +kernel
theorem d3_7 : decode prog_41_method_6_code 7 = .ok (.putfield 46, 3) := by decide +kernel
theorem d3_10 : decode prog_41_method_6_code 10 = .ok (.aload_n 0, 1) := by decide +kernel
theorem d3_11 : decode prog_41_method_6_code 11 = .ok (.dup, 1) := by decide +kernel
theorem d3_12 : decode prog_41_method_6_code 12 = .ok (.getfield 21, 3) := by decide +kernel
theorem d3_15 : decode prog_41_method_6_code 15 = .ok (.iconst 1, 1) := by decide +kernel
theorem d3_16 : decode prog_41_method_6_code 16 = .ok (.isub, 1) := by decide +kernel
theorem d3_17 : decode prog_41_method_6_code 17 = .ok (.putfield 21, 3) := by decide +kernel
theorem d3_20 : decode prog_41_method_6_code 20 = .ok (.return_, 1) := by decide +kernel
theorem ef_3 (m : MethodId) (x0 : Addr) : entryFrame m #[(.ref x0)] 1 = mkF m 0 #[.val (.ref x0)] [] := by first | (simp [entryFrame, mkF, argsToLocals, Value.category]; done) | rfl
def Q3 (Z : State) (r0 : Addr) (cl : Int32) (ta : Int32) (ot : Int32) (h0 : Heap) (n0 : Nat) (v : Option Value) (h : Heap) (L : List Loc) : Prop := v = none ∧ Fr n0 L ∧ Keep h0 h [r0] ∧ Fld Z h r0 "com/example/hot_pool/hotpool/pool/Room" "closing" "I" (.int (cl - (1 : Int32))) ∧ Fld Z h r0 "com/example/hot_pool/hotpool/pool/Room" "taken" "I" (.int (ta - (1 : Int32))) ∧ Fld Z h r0 "com/example/hot_pool/hotpool/pool/Room" "others" "I" (.int ot)
set_option maxRecDepth 65536 in
set_option maxHeartbeats 40000000 in
theorem rm3 (l : Launch) (Z : State) (a0 : Array Value) (hw : ∀ d ∈ tables_1, d.before a0 Z = true) (ws : List Jvm.Cond) (r0 : Addr) (cl : Int32) (ta : Int32) (ot : Int32) (h0 : Heap) (n0 : Nat) (Z0 : n0 ≤ h0.size) (E_r0 : Exa Z h0 r0 "com/example/hot_pool/hotpool/pool/Room") (F_closing_r0 : Fld Z h0 r0 "com/example/hot_pool/hotpool/pool/Room" "closing" "I" (.int cl)) (F_taken_r0 : Fld Z h0 r0 "com/example/hot_pool/hotpool/pool/Room" "taken" "I" (.int ta)) (F_others_r0 : Fld Z h0 r0 "com/example/hot_pool/hotpool/pool/Room" "others" "I" (.int ot)) (g_r0 : n0 ≤ r0) :
    MetFree l (⟨"com/example/hot_pool/hotpool/pool/Room", "freeClosed", "()V"⟩ : MethodName) (head1 (Jvm.Cond.code (⟨"com/example/hot_pool/hotpool/pool/Room", "freeClosed", "()V"⟩ : MethodName) prog_41_method_6_code 1 none :: ws) ({ frames := 0, cells := 0, slots := 0, locals := 0 } : Room)) (fun a U => a = #[(.ref r0)] ∧ Z.Warmed39 U.vm ∧ U.heap = h0) (fun _ _ _ _ _ => True) (fun _ U o U' => ∃ v L, o = .returned v ∧ Q3 Z r0 cl ta ot h0 n0 v U'.heap L ∧ FrameEnd U o U' L ({ frames := 0, cells := 0, slots := 0, locals := 0 } : Room).cells ({ frames := 0, cells := 0, slots := 0, locals := 0 } : Room).slots) := by
  refine MetFree.of_bodySF (plainFor_of_name pn_com_example_hot_pool_hotpool_pool_Room) hisR ?_
  intro p e s m args below meth c s₁ Bd hml0 hP hK
  obtain ⟨rfl, hZ, hh⟩ := hP
  have hx := Bd.exec
  have hby := Bd.bytes
  have hlk := Bd.notSynchronized
  have hrt := Bd.returns
  have hml : c.maxLocals = 1 := hml0
  have hown : s.vm.findClass "com/example/hot_pool/hotpool/pool/Room" = some m.cls := findClass_of_methodNamed Bd.named
  have hnm := (name_of_methodNamed Bd.named Bd.method).1
  have X0 : Stand p l e ({ frames := 0, cells := 0, slots := 0, locals := 0 } : Room) s m #[(.ref r0)] below meth c s₁ [] 0 0 := Stand.of_body Bd
  have e0 : s₁.heap = h0 := by rw [← hh, Bd.state]; rfl
  have N0 := Fr.nil n0
  have K0 := Keep.refl h0 [r0]
  refine own_out (Q := Q3 Z r0 cl ta ot h0 n0) ?_
  refine own_in (ef_3 m r0) ?_
  show own_Go _ _ _ _ s₁ (mkF m 0 #[.val (.ref r0)] [])
  refine own_st (fun t k => XS.aloadN X0.here hx rfl (hb hby d3_0) rfl rfl k) ?_
  show own_Go _ _ _ _ s₁ (mkF m 1 #[.val (.ref r0)] [(.ref r0)])
  refine own_st (fun t k => XS.dup X0.here hx rfl (hb hby d3_1) rfl rfl k) ?_
  show own_Go _ _ _ _ s₁ (mkF m 2 #[.val (.ref r0)] [(.ref r0), (.ref r0)])
  obtain ⟨T1, X1, e1, st1⟩ := getF X0 hx hZ hown (host := "") (Or.inl (hw _ (List.mem_of_getElem? (i := 18) rfl))) Via.refl e0 F_closing_r0 (g := (mkF m 2 #[.val (.ref r0)] [(.ref r0), (.ref r0)])) rfl rfl (hb hby d3_2)
  refine own_st st1 ?_
  show own_Go _ _ _ _ T1 (mkF m 5 #[.val (.ref r0)] [(.int cl), (.ref r0)])
  refine own_st (fun t k => XS.iconst X1.here hx rfl (hb hby d3_5) k) ?_
  show own_Go _ _ _ _ T1 (mkF m 6 #[.val (.ref r0)] [(.int (1 : Int32)), (.int cl), (.ref r0)])
  refine own_st (fun t k => XS.isub X1.here hx rfl (hb hby d3_6) rfl k) ?_
  show own_Go _ _ _ _ T1 (mkF m 7 #[.val (.ref r0)] [(.int (cl - (1 : Int32))), (.ref r0)])
  obtain ⟨T2, h2, X2, e2, W2, st2⟩ := putF X1 hx hZ hown (host := "") (Or.inl (hw _ (List.mem_of_getElem? (i := 18) rfl))) Via.refl e1 F_closing_r0 E_r0 (Or.inl (hw _ (List.mem_of_getElem? (i := 19) rfl))) (hw _ (List.mem_of_getElem? (i := 1) rfl)) (ty := .int) (by decide) rfl rfl (g := (mkF m 7 #[.val (.ref r0)] [(.int (cl - (1 : Int32))), (.ref r0)])) rfl rfl (hb hby d3_7)
  have F2 := F_closing_r0.same W2
  have N2 := Fr.snoc X2 N0 g_r0
  refine own_st st2 ?_
  show own_Go _ _ _ _ T2 (mkF m 10 #[.val (.ref r0)] [])
  refine own_st (fun t k => XS.aloadN X2.here hx rfl (hb hby d3_10) rfl rfl k) ?_
  show own_Go _ _ _ _ T2 (mkF m 11 #[.val (.ref r0)] [(.ref r0)])
  refine own_st (fun t k => XS.dup X2.here hx rfl (hb hby d3_11) rfl rfl k) ?_
  show own_Go _ _ _ _ T2 (mkF m 12 #[.val (.ref r0)] [(.ref r0), (.ref r0)])
  have F_taken_r0_3 := (F_taken_r0.other W2 (Or.inr (slot_ne (Or.inl (hw _ (List.mem_of_getElem? (i := 21) rfl))) (Or.inl (hw _ (List.mem_of_getElem? (i := 19) rfl))) (by decide) (t := .int) (t' := .int) (by decide) (by decide))))
  obtain ⟨T4, X4, e4, st4⟩ := getF X2 hx hZ hown (host := "") (Or.inl (hw _ (List.mem_of_getElem? (i := 20) rfl))) Via.refl e2 F_taken_r0_3 (g := (mkF m 12 #[.val (.ref r0)] [(.ref r0), (.ref r0)])) rfl rfl (hb hby d3_12)
  refine own_st st4 ?_
  show own_Go _ _ _ _ T4 (mkF m 15 #[.val (.ref r0)] [(.int ta), (.ref r0)])
  refine own_st (fun t k => XS.iconst X4.here hx rfl (hb hby d3_15) k) ?_
  show own_Go _ _ _ _ T4 (mkF m 16 #[.val (.ref r0)] [(.int (1 : Int32)), (.int ta), (.ref r0)])
  refine own_st (fun t k => XS.isub X4.here hx rfl (hb hby d3_16) rfl k) ?_
  show own_Go _ _ _ _ T4 (mkF m 17 #[.val (.ref r0)] [(.int (ta - (1 : Int32))), (.ref r0)])
  have E_r0_5 := (E_r0.wr W2)
  have K0_6 := (K0.wr W2 (Or.inl (List.mem_of_getElem? (i := 0) rfl)))
  obtain ⟨T7, h7, X7, e7, W7, st7⟩ := putF X4 hx hZ hown (host := "") (Or.inl (hw _ (List.mem_of_getElem? (i := 20) rfl))) Via.refl e4 F_taken_r0_3 E_r0_5 (Or.inl (hw _ (List.mem_of_getElem? (i := 21) rfl))) (hw _ (List.mem_of_getElem? (i := 1) rfl)) (ty := .int) (by decide) rfl rfl (g := (mkF m 17 #[.val (.ref r0)] [(.int (ta - (1 : Int32))), (.ref r0)])) rfl rfl (hb hby d3_17)
  have F7 := F_taken_r0_3.same W7
  have N7 := Fr.snoc X7 N2 g_r0
  refine own_st st7 ?_
  show own_Go _ _ _ _ T7 (mkF m 20 #[.val (.ref r0)] [])
  have K0_8 := (K0_6.wr W7 (Or.inl (List.mem_of_getElem? (i := 0) rfl)))
  have F2_closing_9 := (F2.other W7 (Or.inr (slot_ne (Or.inl (hw _ (List.mem_of_getElem? (i := 19) rfl))) (Or.inl (hw _ (List.mem_of_getElem? (i := 21) rfl))) (by decide) (t := .int) (t' := .int) (by decide) (by decide))))
  have F_others_r0_10 := ((F_others_r0.other W2 (Or.inr (slot_ne (Or.inl (hw _ (List.mem_of_getElem? (i := 38) rfl))) (Or.inl (hw _ (List.mem_of_getElem? (i := 19) rfl))) (by decide) (t := .int) (t' := .int) (by decide) (by decide)))).other W7 (Or.inr (slot_ne (Or.inl (hw _ (List.mem_of_getElem? (i := 38) rfl))) (Or.inl (hw _ (List.mem_of_getElem? (i := 21) rfl))) (by decide) (t := .int) (t' := .int) (by decide) (by decide))))
  exact own_retV X7 hx hlk hrt (hb hby d3_20) (by rw [e7]; exact ⟨rfl, N7, K0_8, F2_closing_9, F7, F_others_r0_10⟩) (by decide) (by decide)
/-! body 4: Room.taken -/
theorem d4_0 : decode prog_41_method_11_code 0 = .ok (.aload_n 0, 1) := by decide +kernel
theorem d4_1 : decode prog_41_method_11_code 1 = .ok (.getfield 21, 3) := by decide +kernel
theorem d4_4 : decode prog_41_method_11_code 4 = .ok (.ireturn, 1) := by decide +kernel
theorem ef_4 (m : MethodId) (x0 : Addr) : entryFrame m #[(.ref x0)] 1 = mkF m 0 #[.val (.ref x0)] [] := by first | (simp [entryFrame, mkF, argsToLocals, Value.category]; done) | rfl
def Q4 (Z : State) (r0 : Addr) (ta : Int32) (h0 : Heap) (n0 : Nat) (v : Option Value) (h : Heap) (L : List Loc) : Prop := v = some (.int ta) ∧ Fr n0 L ∧ h = h0
set_option maxRecDepth 65536 in
set_option maxHeartbeats 40000000 in
theorem rm4 (l : Launch) (Z : State) (a0 : Array Value) (hw : ∀ d ∈ tables_1, d.before a0 Z = true) (ws : List Jvm.Cond) (r0 : Addr) (ta : Int32) (h0 : Heap) (n0 : Nat) (Z0 : n0 ≤ h0.size) (F_taken_r0 : Fld Z h0 r0 "com/example/hot_pool/hotpool/pool/Room" "taken" "I" (.int ta)) :
    MetFree l (⟨"com/example/hot_pool/hotpool/pool/Room", "taken", "()I"⟩ : MethodName) (head1 (Jvm.Cond.code (⟨"com/example/hot_pool/hotpool/pool/Room", "taken", "()I"⟩ : MethodName) prog_41_method_11_code 1 (some .int) :: ws) ({ frames := 0, cells := 0, slots := 0, locals := 0 } : Room)) (fun a U => a = #[(.ref r0)] ∧ Z.Warmed39 U.vm ∧ U.heap = h0) (fun _ _ _ _ _ => True) (fun _ U o U' => ∃ v L, o = .returned v ∧ Q4 Z r0 ta h0 n0 v U'.heap L ∧ FrameEnd U o U' L ({ frames := 0, cells := 0, slots := 0, locals := 0 } : Room).cells ({ frames := 0, cells := 0, slots := 0, locals := 0 } : Room).slots) := by
  refine MetFree.of_bodySF (plainFor_of_name pn_com_example_hot_pool_hotpool_pool_Room) hisR ?_
  intro p e s m args below meth c s₁ Bd hml0 hP hK
  obtain ⟨rfl, hZ, hh⟩ := hP
  have hx := Bd.exec
  have hby := Bd.bytes
  have hlk := Bd.notSynchronized
  have hrt := Bd.returns
  have hml : c.maxLocals = 1 := hml0
  have hown : s.vm.findClass "com/example/hot_pool/hotpool/pool/Room" = some m.cls := findClass_of_methodNamed Bd.named
  have hnm := (name_of_methodNamed Bd.named Bd.method).1
  have X0 : Stand p l e ({ frames := 0, cells := 0, slots := 0, locals := 0 } : Room) s m #[(.ref r0)] below meth c s₁ [] 0 0 := Stand.of_body Bd
  have e0 : s₁.heap = h0 := by rw [← hh, Bd.state]; rfl
  have N0 := Fr.nil n0
  have K0 := Keep.refl h0 []
  refine own_out (Q := Q4 Z r0 ta h0 n0) ?_
  refine own_in (ef_4 m r0) ?_
  show own_Go _ _ _ _ s₁ (mkF m 0 #[.val (.ref r0)] [])
  refine own_st (fun t k => XS.aloadN X0.here hx rfl (hb hby d4_0) rfl rfl k) ?_
  show own_Go _ _ _ _ s₁ (mkF m 1 #[.val (.ref r0)] [(.ref r0)])
  obtain ⟨T1, X1, e1, st1⟩ := getF X0 hx hZ hown (host := "") (Or.inl (hw _ (List.mem_of_getElem? (i := 20) rfl))) Via.refl e0 F_taken_r0 (g := (mkF m 1 #[.val (.ref r0)] [(.ref r0)])) rfl rfl (hb hby d4_1)
  refine own_st st1 ?_
  show own_Go _ _ _ _ T1 (mkF m 4 #[.val (.ref r0)] [(.int ta)])
  exact own_retI X1 hx hlk hrt (hb hby d4_4) ⟨rfl, N0, e1⟩ (by decide) (by decide)
/-! body 5: Room.holding -/
theorem d5_0 : decode prog_41_method_9_code 0 = .ok (.aload_n 0, 1) := by decide +kernel
theorem d5_1 : decode prog_41_method_9_code 1 = .ok (.getfield 21, 3) := by decide +kernel
theorem d5_4 : decode prog_41_method_9_code 4 = .ok (.aload_n 0, 1) := by decide +kernel
theorem d5_5 : decode prog_41_method_9_code 5 = .ok (.getfield 46, 3) := by decide +kernel
theorem d5_8 : decode prog_41_method_9_code 8 = .ok (.isub, 1) := by decide +kernel
theorem d5_9 : decode prog_41_method_9_code 9 = .ok (.ireturn, 1) := by decide +kernel
theorem ef_5 (m : MethodId) (x0 : Addr) : entryFrame m #[(.ref x0)] 1 = mkF m 0 #[.val (.ref x0)] [] := by first | (simp [entryFrame, mkF, argsToLocals, Value.category]; done) | rfl
def Q5 (Z : State) (r0 : Addr) (cl : Int32) (ta : Int32) (h0 : Heap) (n0 : Nat) (v : Option Value) (h : Heap) (L : List Loc) : Prop := v = some (.int (ta - cl)) ∧ Fr n0 L ∧ h = h0
set_option maxRecDepth 65536 in
set_option maxHeartbeats 40000000 in
theorem rm5 (l : Launch) (Z : State) (a0 : Array Value) (hw : ∀ d ∈ tables_1, d.before a0 Z = true) (ws : List Jvm.Cond) (r0 : Addr) (cl : Int32) (ta : Int32) (h0 : Heap) (n0 : Nat) (Z0 : n0 ≤ h0.size) (F_closing_r0 : Fld Z h0 r0 "com/example/hot_pool/hotpool/pool/Room" "closing" "I" (.int cl)) (F_taken_r0 : Fld Z h0 r0 "com/example/hot_pool/hotpool/pool/Room" "taken" "I" (.int ta)) :
    MetFree l (⟨"com/example/hot_pool/hotpool/pool/Room", "holding", "()I"⟩ : MethodName) (head1 (Jvm.Cond.code (⟨"com/example/hot_pool/hotpool/pool/Room", "holding", "()I"⟩ : MethodName) prog_41_method_9_code 1 (some .int) :: ws) ({ frames := 0, cells := 0, slots := 0, locals := 0 } : Room)) (fun a U => a = #[(.ref r0)] ∧ Z.Warmed39 U.vm ∧ U.heap = h0) (fun _ _ _ _ _ => True) (fun _ U o U' => ∃ v L, o = .returned v ∧ Q5 Z r0 cl ta h0 n0 v U'.heap L ∧ FrameEnd U o U' L ({ frames := 0, cells := 0, slots := 0, locals := 0 } : Room).cells ({ frames := 0, cells := 0, slots := 0, locals := 0 } : Room).slots) := by
  refine MetFree.of_bodySF (plainFor_of_name pn_com_example_hot_pool_hotpool_pool_Room) hisR ?_
  intro p e s m args below meth c s₁ Bd hml0 hP hK
  obtain ⟨rfl, hZ, hh⟩ := hP
  have hx := Bd.exec
  have hby := Bd.bytes
  have hlk := Bd.notSynchronized
  have hrt := Bd.returns
  have hml : c.maxLocals = 1 := hml0
  have hown : s.vm.findClass "com/example/hot_pool/hotpool/pool/Room" = some m.cls := findClass_of_methodNamed Bd.named
  have hnm := (name_of_methodNamed Bd.named Bd.method).1
  have X0 : Stand p l e ({ frames := 0, cells := 0, slots := 0, locals := 0 } : Room) s m #[(.ref r0)] below meth c s₁ [] 0 0 := Stand.of_body Bd
  have e0 : s₁.heap = h0 := by rw [← hh, Bd.state]; rfl
  have N0 := Fr.nil n0
  have K0 := Keep.refl h0 []
  refine own_out (Q := Q5 Z r0 cl ta h0 n0) ?_
  refine own_in (ef_5 m r0) ?_
  show own_Go _ _ _ _ s₁ (mkF m 0 #[.val (.ref r0)] [])
  refine own_st (fun t k => XS.aloadN X0.here hx rfl (hb hby d5_0) rfl rfl k) ?_
  show own_Go _ _ _ _ s₁ (mkF m 1 #[.val (.ref r0)] [(.ref r0)])
  obtain ⟨T1, X1, e1, st1⟩ := getF X0 hx hZ hown (host := "") (Or.inl (hw _ (List.mem_of_getElem? (i := 20) rfl))) Via.refl e0 F_taken_r0 (g := (mkF m 1 #[.val (.ref r0)] [(.ref r0)])) rfl rfl (hb hby d5_1)
  refine own_st st1 ?_
  show own_Go _ _ _ _ T1 (mkF m 4 #[.val (.ref r0)] [(.int ta)])
  refine own_st (fun t k => XS.aloadN X1.here hx rfl (hb hby d5_4) rfl rfl k) ?_
  show own_Go _ _ _ _ T1 (mkF m 5 #[.val (.ref r0)] [(.ref r0), (.int ta)])
  obtain ⟨T2, X2, e2, st2⟩ := getF X1 hx hZ hown (host := "") (Or.inl (hw _ (List.mem_of_getElem? (i := 18) rfl))) Via.refl e1 F_closing_r0 (g := (mkF m 5 #[.val (.ref r0)] [(.ref r0), (.int ta)])) rfl rfl (hb hby d5_5)
  refine own_st st2 ?_
  show own_Go _ _ _ _ T2 (mkF m 8 #[.val (.ref r0)] [(.int cl), (.int ta)])
  refine own_st (fun t k => XS.isub X2.here hx rfl (hb hby d5_8) rfl k) ?_
  show own_Go _ _ _ _ T2 (mkF m 9 #[.val (.ref r0)] [(.int (ta - cl))])
  exact own_retI X2 hx hlk hrt (hb hby d5_9) ⟨rfl, N0, e2⟩ (by decide) (by decide)
/-! body 6: Room.holdingOwn -/
theorem d6_0 : decode prog_41_method_10_code 0 = .ok (.aload_n 0, 1) := by decide +kernel
theorem d6_1 : decode prog_41_method_10_code 1 = .ok (.getfield 21, 3) := by decide +kernel
theorem d6_4 : decode prog_41_method_10_code 4 = .ok (.aload_n 0, 1) := by decide +kernel
theorem d6_5 : decode prog_41_method_10_code 5 = .ok (.getfield 46, 3) := by decide +kernel
theorem d6_8 : decode prog_41_method_10_code 8 = .ok (.isub, 1) := by decide +kernel
theorem d6_9 : decode prog_41_method_10_code 9 = .ok (.aload_n 0, 1) := by decide +kernel
theorem d6_10 : decode prog_41_method_10_code 10 = .ok (.getfield 54, 3) := by decide +kernel
theorem d6_13 : decode prog_41_method_10_code 13 = .ok (.isub, 1) := by decide +kernel
theorem d6_14 : decode prog_41_method_10_code 14 = .ok (.ireturn, 1) := by decide +kernel
theorem ef_6 (m : MethodId) (x0 : Addr) : entryFrame m #[(.ref x0)] 1 = mkF m 0 #[.val (.ref x0)] [] := by first | (simp [entryFrame, mkF, argsToLocals, Value.category]; done) | rfl
def Q6 (Z : State) (r0 : Addr) (cl : Int32) (ta : Int32) (ot : Int32) (h0 : Heap) (n0 : Nat) (v : Option Value) (h : Heap) (L : List Loc) : Prop := v = some (.int ((ta - cl) - ot)) ∧ Fr n0 L ∧ h = h0
set_option maxRecDepth 65536 in
set_option maxHeartbeats 40000000 in
theorem rm6 (l : Launch) (Z : State) (a0 : Array Value) (hw : ∀ d ∈ tables_1, d.before a0 Z = true) (ws : List Jvm.Cond) (r0 : Addr) (cl : Int32) (ta : Int32) (ot : Int32) (h0 : Heap) (n0 : Nat) (Z0 : n0 ≤ h0.size) (F_closing_r0 : Fld Z h0 r0 "com/example/hot_pool/hotpool/pool/Room" "closing" "I" (.int cl)) (F_taken_r0 : Fld Z h0 r0 "com/example/hot_pool/hotpool/pool/Room" "taken" "I" (.int ta)) (F_others_r0 : Fld Z h0 r0 "com/example/hot_pool/hotpool/pool/Room" "others" "I" (.int ot)) :
    MetFree l (⟨"com/example/hot_pool/hotpool/pool/Room", "holdingOwn", "()I"⟩ : MethodName) (head1 (Jvm.Cond.code (⟨"com/example/hot_pool/hotpool/pool/Room", "holdingOwn", "()I"⟩ : MethodName) prog_41_method_10_code 1 (some .int) :: ws) ({ frames := 0, cells := 0, slots := 0, locals := 0 } : Room)) (fun a U => a = #[(.ref r0)] ∧ Z.Warmed39 U.vm ∧ U.heap = h0) (fun _ _ _ _ _ => True) (fun _ U o U' => ∃ v L, o = .returned v ∧ Q6 Z r0 cl ta ot h0 n0 v U'.heap L ∧ FrameEnd U o U' L ({ frames := 0, cells := 0, slots := 0, locals := 0 } : Room).cells ({ frames := 0, cells := 0, slots := 0, locals := 0 } : Room).slots) := by
  refine MetFree.of_bodySF (plainFor_of_name pn_com_example_hot_pool_hotpool_pool_Room) hisR ?_
  intro p e s m args below meth c s₁ Bd hml0 hP hK
  obtain ⟨rfl, hZ, hh⟩ := hP
  have hx := Bd.exec
  have hby := Bd.bytes
  have hlk := Bd.notSynchronized
  have hrt := Bd.returns
  have hml : c.maxLocals = 1 := hml0
  have hown : s.vm.findClass "com/example/hot_pool/hotpool/pool/Room" = some m.cls := findClass_of_methodNamed Bd.named
  have hnm := (name_of_methodNamed Bd.named Bd.method).1
  have X0 : Stand p l e ({ frames := 0, cells := 0, slots := 0, locals := 0 } : Room) s m #[(.ref r0)] below meth c s₁ [] 0 0 := Stand.of_body Bd
  have e0 : s₁.heap = h0 := by rw [← hh, Bd.state]; rfl
  have N0 := Fr.nil n0
  have K0 := Keep.refl h0 []
  refine own_out (Q := Q6 Z r0 cl ta ot h0 n0) ?_
  refine own_in (ef_6 m r0) ?_
  show own_Go _ _ _ _ s₁ (mkF m 0 #[.val (.ref r0)] [])
  refine own_st (fun t k => XS.aloadN X0.here hx rfl (hb hby d6_0) rfl rfl k) ?_
  show own_Go _ _ _ _ s₁ (mkF m 1 #[.val (.ref r0)] [(.ref r0)])
  obtain ⟨T1, X1, e1, st1⟩ := getF X0 hx hZ hown (host := "") (Or.inl (hw _ (List.mem_of_getElem? (i := 20) rfl))) Via.refl e0 F_taken_r0 (g := (mkF m 1 #[.val (.ref r0)] [(.ref r0)])) rfl rfl (hb hby d6_1)
  refine own_st st1 ?_
  show own_Go _ _ _ _ T1 (mkF m 4 #[.val (.ref r0)] [(.int ta)])
  refine own_st (fun t k => XS.aloadN X1.here hx rfl (hb hby d6_4) rfl rfl k) ?_
  show own_Go _ _ _ _ T1 (mkF m 5 #[.val (.ref r0)] [(.ref r0), (.int ta)])
  obtain ⟨T2, X2, e2, st2⟩ := getF X1 hx hZ hown (host := "") (Or.inl (hw _ (List.mem_of_getElem? (i := 18) rfl))) Via.refl e1 F_closing_r0 (g := (mkF m 5 #[.val (.ref r0)] [(.ref r0), (.int ta)])) rfl rfl (hb hby d6_5)
  refine own_st st2 ?_
  show own_Go _ _ _ _ T2 (mkF m 8 #[.val (.ref r0)] [(.int cl), (.int ta)])
  refine own_st (fun t k => XS.isub X2.here hx rfl (hb hby d6_8) rfl k) ?_
  show own_Go _ _ _ _ T2 (mkF m 9 #[.val (.ref r0)] [(.int (ta - cl))])
  refine own_st (fun t k => XS.aloadN X2.here hx rfl (hb hby d6_9) rfl rfl k) ?_
  show own_Go _ _ _ _ T2 (mkF m 10 #[.val (.ref r0)] [(.ref r0), (.int (ta - cl))])
  obtain ⟨T3, X3, e3, st3⟩ := getF X2 hx hZ hown (host := "") (Or.inl (hw _ (List.mem_of_getElem? (i := 37) rfl))) Via.refl e2 F_others_r0 (g := (mkF m 10 #[.val (.ref r0)] [(.ref r0), (.int (ta - cl))])) rfl rfl (hb hby d6_10)
  refine own_st st3 ?_
  show own_Go _ _ _ _ T3 (mkF m 13 #[.val (.ref r0)] [(.int ot), (.int (ta - cl))])
  refine own_st (fun t k => XS.isub X3.here hx rfl (hb hby d6_13) rfl k) ?_
  show own_Go _ _ _ _ T3 (mkF m 14 #[.val (.ref r0)] [(.int ((ta - cl) - ot))])
  exact own_retI X3 hx hlk hrt (hb hby d6_14) ⟨rfl, N0, e3⟩ (by decide) (by decide)
theorem own_n (a : Int32) : (a &&& (3 : Int32)) = 0 ∨ (a &&& (3 : Int32)) = 1 ∨ (a &&& (3 : Int32)) = 2 ∨ (a &&& (3 : Int32)) = 3 := by
  have h := c_mask a (3 : Int32) 2 (by decide) (by decide)
  have e : ∀ k : Int32, (a &&& (3 : Int32)) = k ↔ (a &&& (3 : Int32)).toInt = k.toInt := fun k => Int32.toInt_inj.symm
  rw [e, e, e, e, h]
  simp only [Int32.reduceToInt]
  omega

theorem pd_572933 : parseMethodDescriptor "(Lcom/example/hot_pool/hotpool/config/PoolSettings;Lcom/example/hot_pool/hotpool/config/Credentials;)V" = some ⟨[(.object "com/example/hot_pool/hotpool/config/PoolSettings"), (.object "com/example/hot_pool/hotpool/config/Credentials")], none⟩ := by decide +kernel
theorem pd__28_29V : parseMethodDescriptor "()V" = some ⟨[], none⟩ := by decide +kernel
theorem pd__28_29I : parseMethodDescriptor "()I" = some ⟨[], some .int⟩ := by decide +kernel
/-! body 0: RoomFreeClosedPinLaw.law -/
theorem pn_com_example_hot_pool_hotpool_pool_RoomFreeClosedPinLaw : plainName "com/example/hot_pool/hotpool/pool/RoomFreeClosedPinLaw" = true := by first | (simp [plainName, overriddenIn]; done) | decide +kernel
theorem ef_0 (m : MethodId) (x0 : Int32) : entryFrame m #[(.int x0)] maxLocals = mkF m 0 #[.val (.int x0), .unset, .unset, .unset] [] := by first | (simp [entryFrame, mkF, argsToLocals, Value.category, maxLocals]; done) | rfl
def Q0 (Z : State) (p0 : Int32) (h0 : Heap) (n0 : Nat) (v : Option Value) (h : Heap) (L : List Loc) : Prop := v = some (.int (1 : Int32)) ∧ Fr n0 L
set_option maxRecDepth 65536 in
set_option maxHeartbeats 40000000 in
theorem rm0 (l : Launch) (Z : State) (a0 : Array Value) (hw : ∀ d ∈ tables_1, d.before a0 Z = true) (ws : List Jvm.Cond) (p0 : Int32) (h0 : Heap) (n0 : Nat) (Z0 : n0 ≤ h0.size) :
    MetFree l x (head1 (Jvm.Cond.code x code maxLocals ret :: ws) room_1) (fun a U => a = #[(.int p0)] ∧ Z.Warmed39 U.vm ∧ U.heap = h0) (fun _ _ _ _ _ => True) (fun _ U o U' => ∃ v L, o = .returned v ∧ Q0 Z p0 h0 n0 v U'.heap L ∧ FrameEnd U o U' L 1 6) := by
  refine MetFree.of_bodySF (plainFor_of_name pn_com_example_hot_pool_hotpool_pool_RoomFreeClosedPinLaw) hisR ?_
  intro p e s m args below meth c s₁ Bd hml0 hP hK
  obtain ⟨rfl, hZ, hh⟩ := hP
  have hx := Bd.exec
  have hby := Bd.bytes
  have hlk := Bd.notSynchronized
  have hrt := Bd.returns
  have hml : c.maxLocals = 4 := hml0
  have hown : s.vm.findClass "com/example/hot_pool/hotpool/pool/RoomFreeClosedPinLaw" = some m.cls := findClass_of_methodNamed Bd.named
  have hnm := (name_of_methodNamed Bd.named Bd.method).1
  have X0 : Stand p l e room_1 s m #[(.int p0)] below meth c s₁ [] 0 0 := Stand.of_body Bd
  have e0 : s₁.heap = h0 := by rw [← hh, Bd.state]; rfl
  have N0 := Fr.nil n0
  have K0 := Keep.refl h0 []
  refine own_out (Q := Q0 Z p0 h0 n0) ?_
  refine own_in (ef_0 m p0) ?_
  show own_Go _ _ _ _ s₁ (mkF m 0 #[.val (.int p0), .unset, .unset, .unset] [])
  refine own_st (fun t k => XS.iloadN X0.here hx rfl (hb hby at_0) rfl k) ?_
  show own_Go _ _ _ _ s₁ (mkF m 1 #[.val (.int p0), .unset, .unset, .unset] [(.int p0)])
  refine own_st (fun t k => XS.iconst X0.here hx rfl (hb hby at_1) k) ?_
  show own_Go _ _ _ _ s₁ (mkF m 2 #[.val (.int p0), .unset, .unset, .unset] [(.int (3 : Int32)), (.int p0)])
  refine own_st (fun t k => XS.iand X0.here hx rfl (hb hby at_2) rfl k) ?_
  show own_Go _ _ _ _ s₁ (mkF m 3 #[.val (.int p0), .unset, .unset, .unset] [(.int (p0 &&& (3 : Int32)))])
  refine own_st (fun t k => XS.istoreN X0.here hx rfl (hb hby at_3) rfl (l' := #[.val (.int p0), .val (.int (p0 &&& (3 : Int32))), .unset, .unset]) rfl k) ?_
  show own_Go _ _ _ _ s₁ (mkF m 4 #[.val (.int p0), .val (.int (p0 &&& (3 : Int32))), .unset, .unset] [])
  rcases own_n p0 with hn | hn | hn | hn
  ·
    rw [hn]
    show own_Go _ _ _ _ s₁ (mkF m 4 #[.val (.int p0), .val (.int (0 : Int32)), .unset, .unset] [])
    obtain ⟨T1, h1, X1, e1, E1, A1, D1, -, st1⟩ := newO X0 hx hZ hown (hw _ (List.mem_of_getElem? (i := 0) rfl)) (hw _ (List.mem_of_getElem? (i := 1) rfl)) (hw _ (List.mem_of_getElem? (i := 2) rfl)) e0 (g := (mkF m 4 #[.val (.int p0), .val (.int (0 : Int32)), .unset, .unset] [])) rfl (hb hby at_4) (by decide) (by decide)
    obtain ⟨b1, g1⟩ : ∃ z, z = h0.size := ⟨_, rfl⟩
    rw [← g1] at A1 D1 st1
    have sz_b1 : h0.size ≤ b1 := Nat.le_trans K0.1 (Nat.le_of_eq g1.symm)
    have g_b1 : n0 ≤ b1 := Nat.le_trans Z0 sz_b1
    have F1_settings : Fld Z h1 b1 "com/example/hot_pool/hotpool/pool/Room" "settings" "Lcom/example/hot_pool/hotpool/config/PoolSettings;" .null := D1 (Or.inr (hw _ (List.mem_of_getElem? (i := 10) rfl))) (ty := (.object "com/example/hot_pool/hotpool/config/PoolSettings")) (by decide)
    have F1_own : Fld Z h1 b1 "com/example/hot_pool/hotpool/pool/Room" "own" "Lcom/example/hot_pool/hotpool/config/Credentials;" .null := D1 (Or.inr (hw _ (List.mem_of_getElem? (i := 12) rfl))) (ty := (.object "com/example/hot_pool/hotpool/config/Credentials")) (by decide)
    have F1_closing : Fld Z h1 b1 "com/example/hot_pool/hotpool/pool/Room" "closing" "I" (.int (0 : Int32)) := D1 (Or.inl (hw _ (List.mem_of_getElem? (i := 19) rfl))) (ty := .int) (by decide)
    have F1_taken : Fld Z h1 b1 "com/example/hot_pool/hotpool/pool/Room" "taken" "I" (.int (0 : Int32)) := D1 (Or.inl (hw _ (List.mem_of_getElem? (i := 21) rfl))) (ty := .int) (by decide)
    have F1_others : Fld Z h1 b1 "com/example/hot_pool/hotpool/pool/Room" "others" "I" (.int (0 : Int32)) := D1 (Or.inl (hw _ (List.mem_of_getElem? (i := 38) rfl))) (ty := .int) (by decide)
    refine own_st st1 ?_
    show own_Go _ _ _ _ T1 (mkF m 7 #[.val (.int p0), .val (.int (0 : Int32)), .unset, .unset] [(.ref b1)])
    refine own_st (fun t k => XS.dup X1.here hx rfl (hb hby at_7) rfl rfl k) ?_
    show own_Go _ _ _ _ T1 (mkF m 8 #[.val (.int p0), .val (.int (0 : Int32)), .unset, .unset] [(.ref b1), (.ref b1)])
    refine own_st (fun t k => XS.aconstNull X1.here hx rfl (hb hby at_8) k) ?_
    show own_Go _ _ _ _ T1 (mkF m 9 #[.val (.int p0), .val (.int (0 : Int32)), .unset, .unset] [.null, (.ref b1), (.ref b1)])
    refine own_st (fun t k => XS.aconstNull X1.here hx rfl (hb hby at_9) k) ?_
    show own_Go _ _ _ _ T1 (mkF m 10 #[.val (.int p0), .val (.int (0 : Int32)), .unset, .unset] [.null, .null, (.ref b1), (.ref b1)])
    have K0_3 := (K0.ext E1)
    obtain ⟨_, _, ⟨T2, L2, k2, n2⟩, -, X2, ⟨Lc2, hQ2, l2, y2, z2⟩, st2⟩ := X1.specialBack hx (y := (⟨"com/example/hot_pool/hotpool/pool/Room", "<init>", "(Lcom/example/hot_pool/hotpool/config/PoolSettings;Lcom/example/hot_pool/hotpool/config/Credentials;)V"⟩ : MethodName)) rfl hown (mvT hZ (hw _ (List.mem_of_getElem? (i := 3) rfl))) (mvT hZ (hw _ (List.mem_of_getElem? (i := 4) rfl))) (mvT hZ (hw _ (List.mem_of_getElem? (i := 5) rfl))) (by decide) (backOf (W := 1) (rm1 l Z a0 hw [] b1  h1 n0 (Nat.le_trans Z0 K0_3.1) A1 F1_settings F1_own F1_closing F1_taken F1_others g_b1) hZ (hw _ (List.mem_of_getElem? (i := 5) rfl)) (hw _ (List.mem_of_getElem? (i := 2) rfl)) (by decide) (by decide)) (g := (mkF m 10 #[.val (.int p0), .val (.int (0 : Int32)), .unset, .unset] [.null, .null, (.ref b1), (.ref b1)])) rfl (by rw [hml]; rfl) (Steps.refl _) (a := b1) (argsL := [.null, .null]) (rest := [(.ref b1)]) (lenOf pd_572933 rfl) rfl (by show 2 * 0 + _ ≤ _; exact Nat.le_of_eq rfl) (hb hby at_10) (fun _ _ => ⟨rfl, e1, (by decide : 1 + 0 ≤ _), (by decide : 6 + 0 ≤ _)⟩)
    dsimp only [Pt.U, Pt.locs, Pt.cells, Pt.slots] at X2 l2 y2 z2 st2 hQ2
    subst l2 y2 z2
    obtain ⟨rfl, N2q, K2, G2_0, G2_1, G2_2, G2_3, G2_4⟩ := hQ2
    have N2 := Fr.app N0 N2q
    refine own_tr st2 ?_
    show own_Go _ _ _ _ T2 (mkF m 13 #[.val (.int p0), .val (.int (0 : Int32)), .unset, .unset] [(.ref b1)])
    refine own_st (fun t k => XS.astoreN X2.here hx rfl (hb hby at_13) rfl rfl (l' := #[.val (.int p0), .val (.int (0 : Int32)), .val (.ref b1), .unset]) rfl k) ?_
    show own_Go _ _ _ _ T2 (mkF m 14 #[.val (.int p0), .val (.int (0 : Int32)), .val (.ref b1), .unset] [])
    refine own_st (fun t k => XS.iloadN X2.here hx rfl (hb hby at_14) rfl k) ?_
    show own_Go _ _ _ _ T2 (mkF m 15 #[.val (.int p0), .val (.int (0 : Int32)), .val (.ref b1), .unset] [(.int (0 : Int32))])
    refine own_st (fun t k => XS.iconst X2.here hx rfl (hb hby at_15) k) ?_
    show own_Go _ _ _ _ T2 (mkF m 16 #[.val (.int p0), .val (.int (0 : Int32)), .val (.ref b1), .unset] [(.int (1 : Int32)), (.int (0 : Int32))])
    refine own_st (fun t k => XS.icmpYes X2.here hx rfl (pc0 := 16) (pc' := 23) rfl (hb hby at_16) rfl (tlt (by decide : (0 : Int32) < (1 : Int32))).1 (by decide) (by decide) k) ?_
    show own_Go _ _ _ _ T2 (mkF m 23 #[.val (.int p0), .val (.int (0 : Int32)), .val (.ref b1), .unset] [])
    refine own_st (fun t k => XS.iloadN X2.here hx rfl (hb hby at_23) rfl k) ?_
    show own_Go _ _ _ _ T2 (mkF m 24 #[.val (.int p0), .val (.int (0 : Int32)), .val (.ref b1), .unset] [(.int (0 : Int32))])
    refine own_st (fun t k => XS.iconst X2.here hx rfl (hb hby at_24) k) ?_
    show own_Go _ _ _ _ T2 (mkF m 25 #[.val (.int p0), .val (.int (0 : Int32)), .val (.ref b1), .unset] [(.int (2 : Int32)), (.int (0 : Int32))])
    refine own_st (fun t k => XS.icmpYes X2.here hx rfl (pc0 := 25) (pc' := 32) rfl (hb hby at_25) rfl (tlt (by decide : (0 : Int32) < (2 : Int32))).1 (by decide) (by decide) k) ?_
    show own_Go _ _ _ _ T2 (mkF m 32 #[.val (.int p0), .val (.int (0 : Int32)), .val (.ref b1), .unset] [])
    refine own_st (fun t k => XS.iloadN X2.here hx rfl (hb hby at_32) rfl k) ?_
    show own_Go _ _ _ _ T2 (mkF m 33 #[.val (.int p0), .val (.int (0 : Int32)), .val (.ref b1), .unset] [(.int (0 : Int32))])
    refine own_st (fun t k => XS.iconst X2.here hx rfl (hb hby at_33) k) ?_
    show own_Go _ _ _ _ T2 (mkF m 34 #[.val (.int p0), .val (.int (0 : Int32)), .val (.ref b1), .unset] [(.int (3 : Int32)), (.int (0 : Int32))])
    refine own_st (fun t k => XS.icmpYes X2.here hx rfl (pc0 := 34) (pc' := 41) rfl (hb hby at_34) rfl (tlt (by decide : (0 : Int32) < (3 : Int32))).1 (by decide) (by decide) k) ?_
    show own_Go _ _ _ _ T2 (mkF m 41 #[.val (.int p0), .val (.int (0 : Int32)), .val (.ref b1), .unset] [])
    refine own_st (fun t k => XS.aloadN X2.here hx rfl (hb hby at_41) rfl rfl k) ?_
    show own_Go _ _ _ _ T2 (mkF m 42 #[.val (.int p0), .val (.int (0 : Int32)), .val (.ref b1), .unset] [(.ref b1)])
    have A1_4 := (A1.keep K2)
    have K0_6 := (K0_3.trans K2 (allS ((Or.inr sz_b1)) all0))
    obtain ⟨cq5, kq5, q5a, q5b, q5c⟩ := isOf hZ rfl A1_4
    obtain ⟨_, _, ⟨T5, L5, k5, n5⟩, -, X5, ⟨Lc5, hQ5, l5, y5, z5⟩, st5⟩ := X2.virtualBack hx (y := (⟨"com/example/hot_pool/hotpool/pool/Room", "freeClosed", "()V"⟩ : MethodName)) (z := (⟨"com/example/hot_pool/hotpool/pool/Room", "freeClosed", "()V"⟩ : MethodName)) hown (mvT hZ (hw _ (List.mem_of_getElem? (i := 13) rfl))) (mvT hZ (hw _ (List.mem_of_getElem? (i := 14) rfl))) (notFace_of_selects (args := #[]) (mvT hZ (hw _ (List.mem_of_getElem? (i := 16) rfl)))) (mvT hZ (hw _ (List.mem_of_getElem? (i := 16) rfl))) (mvT hZ (hw _ (List.mem_of_getElem? (i := 15) rfl))) (by decide) (backOf (W := 0) (rm3 l Z a0 hw [] b1 (0 : Int32) (0 : Int32) (0 : Int32)  T2.heap n0 (Nat.le_trans Z0 K0_6.1) A1_4 G2_2 G2_3 G2_4 g_b1) hZ (hw _ (List.mem_of_getElem? (i := 17) rfl)) (hw _ (List.mem_of_getElem? (i := 2) rfl)) (by decide) (by decide)) q5a q5c (g := (mkF m 42 #[.val (.int p0), .val (.int (0 : Int32)), .val (.ref b1), .unset] [(.ref b1)])) rfl (by rw [hml]; rfl) (Steps.refl _) (argsL := []) (rest := []) (lenOf pd__28_29V rfl) rfl (by show 2 * 0 + _ ≤ _; exact Nat.le_of_eq rfl) (hb hby at_42) (fun _ _ => ⟨rfl, rfl, (by decide : 1 + 0 ≤ _), (by decide : 6 + 0 ≤ _)⟩)
    dsimp only [Pt.U, Pt.locs, Pt.cells, Pt.slots] at X5 l5 y5 z5 st5 hQ5
    subst l5 y5 z5
    obtain ⟨rfl, N5q, K5, G5_0, G5_1, G5_2⟩ := hQ5
    have N5 := Fr.app N2 N5q
    refine own_tr st5 ?_
    show own_Go _ _ _ _ T5 (mkF m 45 #[.val (.int p0), .val (.int (0 : Int32)), .val (.ref b1), .unset] [])
    refine own_st (fun t k => XS.iloadN X5.here hx rfl (hb hby at_45) rfl k) ?_
    show own_Go _ _ _ _ T5 (mkF m 46 #[.val (.int p0), .val (.int (0 : Int32)), .val (.ref b1), .unset] [(.int (0 : Int32))])
    refine own_st (fun t k => XS.iconst X5.here hx rfl (hb hby at_46) k) ?_
    show own_Go _ _ _ _ T5 (mkF m 47 #[.val (.int p0), .val (.int (0 : Int32)), .val (.ref b1), .unset] [(.int (1 : Int32)), (.int (0 : Int32))])
    refine own_st (fun t k => XS.iadd X5.here hx rfl (hb hby at_47) rfl k) ?_
    show own_Go _ _ _ _ T5 (mkF m 48 #[.val (.int p0), .val (.int (0 : Int32)), .val (.ref b1), .unset] [(.int ((0 : Int32) + (1 : Int32)))])
    refine own_st (fun t k => XS.ineg X5.here hx rfl (hb hby at_48) rfl k) ?_
    show own_Go _ _ _ _ T5 (mkF m 49 #[.val (.int p0), .val (.int (0 : Int32)), .val (.ref b1), .unset] [(.int (-((0 : Int32) + (1 : Int32))))])
    refine own_st (fun t k => XS.istoreN X5.here hx rfl (hb hby at_49) rfl (l' := #[.val (.int p0), .val (.int (0 : Int32)), .val (.ref b1), .val (.int (-((0 : Int32) + (1 : Int32))))]) rfl k) ?_
    show own_Go _ _ _ _ T5 (mkF m 50 #[.val (.int p0), .val (.int (0 : Int32)), .val (.ref b1), .val (.int (-((0 : Int32) + (1 : Int32))))] [])
    refine own_st (fun t k => XS.aloadN X5.here hx rfl (hb hby at_50) rfl rfl k) ?_
    show own_Go _ _ _ _ T5 (mkF m 51 #[.val (.int p0), .val (.int (0 : Int32)), .val (.ref b1), .val (.int (-((0 : Int32) + (1 : Int32))))] [(.ref b1)])
    have K0_8 := (K0_6.trans K5 (allS ((Or.inr sz_b1)) all0))
    have A1_9 := (A1_4.keep K5)
    obtain ⟨cq7, kq7, q7a, q7b, q7c⟩ := isOf hZ rfl A1_9
    obtain ⟨_, _, ⟨T7, L7, k7, n7⟩, -, X7, ⟨Lc7, hQ7, l7, y7, z7⟩, st7⟩ := X5.virtualBack hx (y := (⟨"com/example/hot_pool/hotpool/pool/Room", "taken", "()I"⟩ : MethodName)) (z := (⟨"com/example/hot_pool/hotpool/pool/Room", "taken", "()I"⟩ : MethodName)) hown (mvT hZ (hw _ (List.mem_of_getElem? (i := 22) rfl))) (mvT hZ (hw _ (List.mem_of_getElem? (i := 23) rfl))) (notFace_of_selects (args := #[]) (mvT hZ (hw _ (List.mem_of_getElem? (i := 25) rfl)))) (mvT hZ (hw _ (List.mem_of_getElem? (i := 25) rfl))) (mvT hZ (hw _ (List.mem_of_getElem? (i := 24) rfl))) (by decide) (backOf (W := 0) (rm4 l Z a0 hw [] b1 ((0 : Int32) - (1 : Int32))  T5.heap n0 (Nat.le_trans Z0 K0_8.1) G5_1) hZ (hw _ (List.mem_of_getElem? (i := 26) rfl)) (hw _ (List.mem_of_getElem? (i := 2) rfl)) (by decide) (by decide)) q7a q7c (g := (mkF m 51 #[.val (.int p0), .val (.int (0 : Int32)), .val (.ref b1), .val (.int (-((0 : Int32) + (1 : Int32))))] [(.ref b1)])) rfl (by rw [hml]; rfl) (Steps.refl _) (argsL := []) (rest := []) (lenOf pd__28_29I rfl) rfl (by show 2 * 0 + _ ≤ _; exact Nat.le_of_eq rfl) (hb hby at_51) (fun _ _ => ⟨rfl, rfl, (by decide : 1 + 0 ≤ _), (by decide : 6 + 0 ≤ _)⟩)
    dsimp only [Pt.U, Pt.locs, Pt.cells, Pt.slots] at X7 l7 y7 z7 st7 hQ7
    subst l7 y7 z7
    obtain ⟨rfl, N7q, e7⟩ := hQ7
    have N7 := Fr.app N5 N7q
    refine own_tr st7 ?_
    show own_Go _ _ _ _ T7 (mkF m 54 #[.val (.int p0), .val (.int (0 : Int32)), .val (.ref b1), .val (.int (-((0 : Int32) + (1 : Int32))))] [(.int ((0 : Int32) - (1 : Int32)))])
    refine own_st (fun t k => XS.iloadN X7.here hx rfl (hb hby at_54) rfl k) ?_
    show own_Go _ _ _ _ T7 (mkF m 55 #[.val (.int p0), .val (.int (0 : Int32)), .val (.ref b1), .val (.int (-((0 : Int32) + (1 : Int32))))] [(.int (-((0 : Int32) + (1 : Int32)))), (.int ((0 : Int32) - (1 : Int32)))])
    refine own_st (fun t k => XS.icmpNo X7.here hx rfl (hb hby at_55) rfl (teq (by decide : ((0 : Int32) - (1 : Int32)) = (-((0 : Int32) + (1 : Int32))))).2 k) ?_
    show own_Go _ _ _ _ T7 (mkF m 58 #[.val (.int p0), .val (.int (0 : Int32)), .val (.ref b1), .val (.int (-((0 : Int32) + (1 : Int32))))] [])
    refine own_st (fun t k => XS.aloadN X7.here hx rfl (hb hby at_58) rfl rfl k) ?_
    show own_Go _ _ _ _ T7 (mkF m 59 #[.val (.int p0), .val (.int (0 : Int32)), .val (.ref b1), .val (.int (-((0 : Int32) + (1 : Int32))))] [(.ref b1)])
    obtain ⟨cq10, kq10, q10a, q10b, q10c⟩ := isOf hZ e7 A1_9
    obtain ⟨_, _, ⟨T10, L10, k10, n10⟩, -, X10, ⟨Lc10, hQ10, l10, y10, z10⟩, st10⟩ := X7.virtualBack hx (y := (⟨"com/example/hot_pool/hotpool/pool/Room", "holding", "()I"⟩ : MethodName)) (z := (⟨"com/example/hot_pool/hotpool/pool/Room", "holding", "()I"⟩ : MethodName)) hown (mvT hZ (hw _ (List.mem_of_getElem? (i := 27) rfl))) (mvT hZ (hw _ (List.mem_of_getElem? (i := 28) rfl))) (notFace_of_selects (args := #[]) (mvT hZ (hw _ (List.mem_of_getElem? (i := 30) rfl)))) (mvT hZ (hw _ (List.mem_of_getElem? (i := 30) rfl))) (mvT hZ (hw _ (List.mem_of_getElem? (i := 29) rfl))) (by decide) (backOf (W := 0) (rm5 l Z a0 hw [] b1 ((0 : Int32) - (1 : Int32)) ((0 : Int32) - (1 : Int32))  T5.heap n0 (Nat.le_trans Z0 K0_8.1) G5_0 G5_1) hZ (hw _ (List.mem_of_getElem? (i := 31) rfl)) (hw _ (List.mem_of_getElem? (i := 2) rfl)) (by decide) (by decide)) q10a q10c (g := (mkF m 59 #[.val (.int p0), .val (.int (0 : Int32)), .val (.ref b1), .val (.int (-((0 : Int32) + (1 : Int32))))] [(.ref b1)])) rfl (by rw [hml]; rfl) (Steps.refl _) (argsL := []) (rest := []) (lenOf pd__28_29I rfl) rfl (by show 2 * 0 + _ ≤ _; exact Nat.le_of_eq rfl) (hb hby at_59) (fun _ _ => ⟨rfl, e7, (by decide : 1 + 0 ≤ _), (by decide : 6 + 0 ≤ _)⟩)
    dsimp only [Pt.U, Pt.locs, Pt.cells, Pt.slots] at X10 l10 y10 z10 st10 hQ10
    subst l10 y10 z10
    obtain ⟨rfl, N10q, e10⟩ := hQ10
    have N10 := Fr.app N7 N10q
    refine own_tr st10 ?_
    show own_Go _ _ _ _ T10 (mkF m 62 #[.val (.int p0), .val (.int (0 : Int32)), .val (.ref b1), .val (.int (-((0 : Int32) + (1 : Int32))))] [(.int (((0 : Int32) - (1 : Int32)) - ((0 : Int32) - (1 : Int32))))])
    refine own_st (fun t k => XS.ifNo X10.here hx rfl (hb hby at_62) rfl ((if0 _ _).trans (teq (by decide : (((0 : Int32) - (1 : Int32)) - ((0 : Int32) - (1 : Int32))) = (0 : Int32))).2) k) ?_
    show own_Go _ _ _ _ T10 (mkF m 65 #[.val (.int p0), .val (.int (0 : Int32)), .val (.ref b1), .val (.int (-((0 : Int32) + (1 : Int32))))] [])
    refine own_st (fun t k => XS.aloadN X10.here hx rfl (hb hby at_65) rfl rfl k) ?_
    show own_Go _ _ _ _ T10 (mkF m 66 #[.val (.int p0), .val (.int (0 : Int32)), .val (.ref b1), .val (.int (-((0 : Int32) + (1 : Int32))))] [(.ref b1)])
    obtain ⟨cq11, kq11, q11a, q11b, q11c⟩ := isOf hZ e10 A1_9
    obtain ⟨_, _, ⟨T11, L11, k11, n11⟩, -, X11, ⟨Lc11, hQ11, l11, y11, z11⟩, st11⟩ := X10.virtualBack hx (y := (⟨"com/example/hot_pool/hotpool/pool/Room", "holdingOwn", "()I"⟩ : MethodName)) (z := (⟨"com/example/hot_pool/hotpool/pool/Room", "holdingOwn", "()I"⟩ : MethodName)) hown (mvT hZ (hw _ (List.mem_of_getElem? (i := 32) rfl))) (mvT hZ (hw _ (List.mem_of_getElem? (i := 33) rfl))) (notFace_of_selects (args := #[]) (mvT hZ (hw _ (List.mem_of_getElem? (i := 35) rfl)))) (mvT hZ (hw _ (List.mem_of_getElem? (i := 35) rfl))) (mvT hZ (hw _ (List.mem_of_getElem? (i := 34) rfl))) (by decide) (backOf (W := 0) (rm6 l Z a0 hw [] b1 ((0 : Int32) - (1 : Int32)) ((0 : Int32) - (1 : Int32)) (0 : Int32)  T5.heap n0 (Nat.le_trans Z0 K0_8.1) G5_0 G5_1 G5_2) hZ (hw _ (List.mem_of_getElem? (i := 36) rfl)) (hw _ (List.mem_of_getElem? (i := 2) rfl)) (by decide) (by decide)) q11a q11c (g := (mkF m 66 #[.val (.int p0), .val (.int (0 : Int32)), .val (.ref b1), .val (.int (-((0 : Int32) + (1 : Int32))))] [(.ref b1)])) rfl (by rw [hml]; rfl) (Steps.refl _) (argsL := []) (rest := []) (lenOf pd__28_29I rfl) rfl (by show 2 * 0 + _ ≤ _; exact Nat.le_of_eq rfl) (hb hby at_66) (fun _ _ => ⟨rfl, e10, (by decide : 1 + 0 ≤ _), (by decide : 6 + 0 ≤ _)⟩)
    dsimp only [Pt.U, Pt.locs, Pt.cells, Pt.slots] at X11 l11 y11 z11 st11 hQ11
    subst l11 y11 z11
    obtain ⟨rfl, N11q, e11⟩ := hQ11
    have N11 := Fr.app N10 N11q
    refine own_tr st11 ?_
    show own_Go _ _ _ _ T11 (mkF m 69 #[.val (.int p0), .val (.int (0 : Int32)), .val (.ref b1), .val (.int (-((0 : Int32) + (1 : Int32))))] [(.int ((((0 : Int32) - (1 : Int32)) - ((0 : Int32) - (1 : Int32))) - (0 : Int32)))])
    refine own_st (fun t k => XS.ifNo X11.here hx rfl (hb hby at_69) rfl ((if0 _ _).trans (teq (by decide : ((((0 : Int32) - (1 : Int32)) - ((0 : Int32) - (1 : Int32))) - (0 : Int32)) = (0 : Int32))).2) k) ?_
    show own_Go _ _ _ _ T11 (mkF m 72 #[.val (.int p0), .val (.int (0 : Int32)), .val (.ref b1), .val (.int (-((0 : Int32) + (1 : Int32))))] [])
    refine own_st (fun t k => XS.iconst X11.here hx rfl (hb hby at_72) k) ?_
    show own_Go _ _ _ _ T11 (mkF m 73 #[.val (.int p0), .val (.int (0 : Int32)), .val (.ref b1), .val (.int (-((0 : Int32) + (1 : Int32))))] [(.int (1 : Int32))])
    refine own_st (fun t k => XS.goto X11.here hx rfl (pc0 := 73) (pc' := 77) rfl (hb hby at_73) (by decide) (by decide) k) ?_
    show own_Go _ _ _ _ T11 (mkF m 77 #[.val (.int p0), .val (.int (0 : Int32)), .val (.ref b1), .val (.int (-((0 : Int32) + (1 : Int32))))] [(.int (1 : Int32))])
    exact own_retN X11 hx hlk (t := .boolean) hrt (by simp) (hb hby at_77) ⟨rfl, N11⟩ (by decide) (by decide)
  ·
    rw [hn]
    show own_Go _ _ _ _ s₁ (mkF m 4 #[.val (.int p0), .val (.int (1 : Int32)), .unset, .unset] [])
    obtain ⟨T12, h12, X12, e12, E12, A12, D12, -, st12⟩ := newO X0 hx hZ hown (hw _ (List.mem_of_getElem? (i := 0) rfl)) (hw _ (List.mem_of_getElem? (i := 1) rfl)) (hw _ (List.mem_of_getElem? (i := 2) rfl)) e0 (g := (mkF m 4 #[.val (.int p0), .val (.int (1 : Int32)), .unset, .unset] [])) rfl (hb hby at_4) (by decide) (by decide)
    obtain ⟨b12, g12⟩ : ∃ z, z = h0.size := ⟨_, rfl⟩
    rw [← g12] at A12 D12 st12
    have sz_b12 : h0.size ≤ b12 := Nat.le_trans K0.1 (Nat.le_of_eq g12.symm)
    have g_b12 : n0 ≤ b12 := Nat.le_trans Z0 sz_b12
    have F12_settings : Fld Z h12 b12 "com/example/hot_pool/hotpool/pool/Room" "settings" "Lcom/example/hot_pool/hotpool/config/PoolSettings;" .null := D12 (Or.inr (hw _ (List.mem_of_getElem? (i := 10) rfl))) (ty := (.object "com/example/hot_pool/hotpool/config/PoolSettings")) (by decide)
    have F12_own : Fld Z h12 b12 "com/example/hot_pool/hotpool/pool/Room" "own" "Lcom/example/hot_pool/hotpool/config/Credentials;" .null := D12 (Or.inr (hw _ (List.mem_of_getElem? (i := 12) rfl))) (ty := (.object "com/example/hot_pool/hotpool/config/Credentials")) (by decide)
    have F12_closing : Fld Z h12 b12 "com/example/hot_pool/hotpool/pool/Room" "closing" "I" (.int (0 : Int32)) := D12 (Or.inl (hw _ (List.mem_of_getElem? (i := 19) rfl))) (ty := .int) (by decide)
    have F12_taken : Fld Z h12 b12 "com/example/hot_pool/hotpool/pool/Room" "taken" "I" (.int (0 : Int32)) := D12 (Or.inl (hw _ (List.mem_of_getElem? (i := 21) rfl))) (ty := .int) (by decide)
    have F12_others : Fld Z h12 b12 "com/example/hot_pool/hotpool/pool/Room" "others" "I" (.int (0 : Int32)) := D12 (Or.inl (hw _ (List.mem_of_getElem? (i := 38) rfl))) (ty := .int) (by decide)
    refine own_st st12 ?_
    show own_Go _ _ _ _ T12 (mkF m 7 #[.val (.int p0), .val (.int (1 : Int32)), .unset, .unset] [(.ref b12)])
    refine own_st (fun t k => XS.dup X12.here hx rfl (hb hby at_7) rfl rfl k) ?_
    show own_Go _ _ _ _ T12 (mkF m 8 #[.val (.int p0), .val (.int (1 : Int32)), .unset, .unset] [(.ref b12), (.ref b12)])
    refine own_st (fun t k => XS.aconstNull X12.here hx rfl (hb hby at_8) k) ?_
    show own_Go _ _ _ _ T12 (mkF m 9 #[.val (.int p0), .val (.int (1 : Int32)), .unset, .unset] [.null, (.ref b12), (.ref b12)])
    refine own_st (fun t k => XS.aconstNull X12.here hx rfl (hb hby at_9) k) ?_
    show own_Go _ _ _ _ T12 (mkF m 10 #[.val (.int p0), .val (.int (1 : Int32)), .unset, .unset] [.null, .null, (.ref b12), (.ref b12)])
    have K0_14 := (K0.ext E12)
    obtain ⟨_, _, ⟨T13, L13, k13, n13⟩, -, X13, ⟨Lc13, hQ13, l13, y13, z13⟩, st13⟩ := X12.specialBack hx (y := (⟨"com/example/hot_pool/hotpool/pool/Room", "<init>", "(Lcom/example/hot_pool/hotpool/config/PoolSettings;Lcom/example/hot_pool/hotpool/config/Credentials;)V"⟩ : MethodName)) rfl hown (mvT hZ (hw _ (List.mem_of_getElem? (i := 3) rfl))) (mvT hZ (hw _ (List.mem_of_getElem? (i := 4) rfl))) (mvT hZ (hw _ (List.mem_of_getElem? (i := 5) rfl))) (by decide) (backOf (W := 1) (rm1 l Z a0 hw [] b12  h12 n0 (Nat.le_trans Z0 K0_14.1) A12 F12_settings F12_own F12_closing F12_taken F12_others g_b12) hZ (hw _ (List.mem_of_getElem? (i := 5) rfl)) (hw _ (List.mem_of_getElem? (i := 2) rfl)) (by decide) (by decide)) (g := (mkF m 10 #[.val (.int p0), .val (.int (1 : Int32)), .unset, .unset] [.null, .null, (.ref b12), (.ref b12)])) rfl (by rw [hml]; rfl) (Steps.refl _) (a := b12) (argsL := [.null, .null]) (rest := [(.ref b12)]) (lenOf pd_572933 rfl) rfl (by show 2 * 0 + _ ≤ _; exact Nat.le_of_eq rfl) (hb hby at_10) (fun _ _ => ⟨rfl, e12, (by decide : 1 + 0 ≤ _), (by decide : 6 + 0 ≤ _)⟩)
    dsimp only [Pt.U, Pt.locs, Pt.cells, Pt.slots] at X13 l13 y13 z13 st13 hQ13
    subst l13 y13 z13
    obtain ⟨rfl, N13q, K13, G13_0, G13_1, G13_2, G13_3, G13_4⟩ := hQ13
    have N13 := Fr.app N0 N13q
    refine own_tr st13 ?_
    show own_Go _ _ _ _ T13 (mkF m 13 #[.val (.int p0), .val (.int (1 : Int32)), .unset, .unset] [(.ref b12)])
    refine own_st (fun t k => XS.astoreN X13.here hx rfl (hb hby at_13) rfl rfl (l' := #[.val (.int p0), .val (.int (1 : Int32)), .val (.ref b12), .unset]) rfl k) ?_
    show own_Go _ _ _ _ T13 (mkF m 14 #[.val (.int p0), .val (.int (1 : Int32)), .val (.ref b12), .unset] [])
    refine own_st (fun t k => XS.iloadN X13.here hx rfl (hb hby at_14) rfl k) ?_
    show own_Go _ _ _ _ T13 (mkF m 15 #[.val (.int p0), .val (.int (1 : Int32)), .val (.ref b12), .unset] [(.int (1 : Int32))])
    refine own_st (fun t k => XS.iconst X13.here hx rfl (hb hby at_15) k) ?_
    show own_Go _ _ _ _ T13 (mkF m 16 #[.val (.int p0), .val (.int (1 : Int32)), .val (.ref b12), .unset] [(.int (1 : Int32)), (.int (1 : Int32))])
    refine own_st (fun t k => XS.icmpNo X13.here hx rfl (hb hby at_16) rfl (flt (by decide : ¬ ((1 : Int32) < (1 : Int32)))).1 k) ?_
    show own_Go _ _ _ _ T13 (mkF m 19 #[.val (.int p0), .val (.int (1 : Int32)), .val (.ref b12), .unset] [])
    refine own_st (fun t k => XS.aloadN X13.here hx rfl (hb hby at_19) rfl rfl k) ?_
    show own_Go _ _ _ _ T13 (mkF m 20 #[.val (.int p0), .val (.int (1 : Int32)), .val (.ref b12), .unset] [(.ref b12)])
    have A12_15 := (A12.keep K13)
    have K0_17 := (K0_14.trans K13 (allS ((Or.inr sz_b12)) all0))
    obtain ⟨cq16, kq16, q16a, q16b, q16c⟩ := isOf hZ rfl A12_15
    obtain ⟨_, _, ⟨T16, L16, k16, n16⟩, -, X16, ⟨Lc16, hQ16, l16, y16, z16⟩, st16⟩ := X13.virtualBack hx (y := (⟨"com/example/hot_pool/hotpool/pool/Room", "freeClosed", "()V"⟩ : MethodName)) (z := (⟨"com/example/hot_pool/hotpool/pool/Room", "freeClosed", "()V"⟩ : MethodName)) hown (mvT hZ (hw _ (List.mem_of_getElem? (i := 13) rfl))) (mvT hZ (hw _ (List.mem_of_getElem? (i := 14) rfl))) (notFace_of_selects (args := #[]) (mvT hZ (hw _ (List.mem_of_getElem? (i := 16) rfl)))) (mvT hZ (hw _ (List.mem_of_getElem? (i := 16) rfl))) (mvT hZ (hw _ (List.mem_of_getElem? (i := 15) rfl))) (by decide) (backOf (W := 0) (rm3 l Z a0 hw [] b12 (0 : Int32) (0 : Int32) (0 : Int32)  T13.heap n0 (Nat.le_trans Z0 K0_17.1) A12_15 G13_2 G13_3 G13_4 g_b12) hZ (hw _ (List.mem_of_getElem? (i := 17) rfl)) (hw _ (List.mem_of_getElem? (i := 2) rfl)) (by decide) (by decide)) q16a q16c (g := (mkF m 20 #[.val (.int p0), .val (.int (1 : Int32)), .val (.ref b12), .unset] [(.ref b12)])) rfl (by rw [hml]; rfl) (Steps.refl _) (argsL := []) (rest := []) (lenOf pd__28_29V rfl) rfl (by show 2 * 0 + _ ≤ _; exact Nat.le_of_eq rfl) (hb hby at_20) (fun _ _ => ⟨rfl, rfl, (by decide : 1 + 0 ≤ _), (by decide : 6 + 0 ≤ _)⟩)
    dsimp only [Pt.U, Pt.locs, Pt.cells, Pt.slots] at X16 l16 y16 z16 st16 hQ16
    subst l16 y16 z16
    obtain ⟨rfl, N16q, K16, G16_0, G16_1, G16_2⟩ := hQ16
    have N16 := Fr.app N13 N16q
    refine own_tr st16 ?_
    show own_Go _ _ _ _ T16 (mkF m 23 #[.val (.int p0), .val (.int (1 : Int32)), .val (.ref b12), .unset] [])
    refine own_st (fun t k => XS.iloadN X16.here hx rfl (hb hby at_23) rfl k) ?_
    show own_Go _ _ _ _ T16 (mkF m 24 #[.val (.int p0), .val (.int (1 : Int32)), .val (.ref b12), .unset] [(.int (1 : Int32))])
    refine own_st (fun t k => XS.iconst X16.here hx rfl (hb hby at_24) k) ?_
    show own_Go _ _ _ _ T16 (mkF m 25 #[.val (.int p0), .val (.int (1 : Int32)), .val (.ref b12), .unset] [(.int (2 : Int32)), (.int (1 : Int32))])
    refine own_st (fun t k => XS.icmpYes X16.here hx rfl (pc0 := 25) (pc' := 32) rfl (hb hby at_25) rfl (tlt (by decide : (1 : Int32) < (2 : Int32))).1 (by decide) (by decide) k) ?_
    show own_Go _ _ _ _ T16 (mkF m 32 #[.val (.int p0), .val (.int (1 : Int32)), .val (.ref b12), .unset] [])
    refine own_st (fun t k => XS.iloadN X16.here hx rfl (hb hby at_32) rfl k) ?_
    show own_Go _ _ _ _ T16 (mkF m 33 #[.val (.int p0), .val (.int (1 : Int32)), .val (.ref b12), .unset] [(.int (1 : Int32))])
    refine own_st (fun t k => XS.iconst X16.here hx rfl (hb hby at_33) k) ?_
    show own_Go _ _ _ _ T16 (mkF m 34 #[.val (.int p0), .val (.int (1 : Int32)), .val (.ref b12), .unset] [(.int (3 : Int32)), (.int (1 : Int32))])
    refine own_st (fun t k => XS.icmpYes X16.here hx rfl (pc0 := 34) (pc' := 41) rfl (hb hby at_34) rfl (tlt (by decide : (1 : Int32) < (3 : Int32))).1 (by decide) (by decide) k) ?_
    show own_Go _ _ _ _ T16 (mkF m 41 #[.val (.int p0), .val (.int (1 : Int32)), .val (.ref b12), .unset] [])
    refine own_st (fun t k => XS.aloadN X16.here hx rfl (hb hby at_41) rfl rfl k) ?_
    show own_Go _ _ _ _ T16 (mkF m 42 #[.val (.int p0), .val (.int (1 : Int32)), .val (.ref b12), .unset] [(.ref b12)])
    have A12_18 := (A12_15.keep K16)
    have K0_20 := (K0_17.trans K16 (allS ((Or.inr sz_b12)) all0))
    obtain ⟨cq19, kq19, q19a, q19b, q19c⟩ := isOf hZ rfl A12_18
    obtain ⟨_, _, ⟨T19, L19, k19, n19⟩, -, X19, ⟨Lc19, hQ19, l19, y19, z19⟩, st19⟩ := X16.virtualBack hx (y := (⟨"com/example/hot_pool/hotpool/pool/Room", "freeClosed", "()V"⟩ : MethodName)) (z := (⟨"com/example/hot_pool/hotpool/pool/Room", "freeClosed", "()V"⟩ : MethodName)) hown (mvT hZ (hw _ (List.mem_of_getElem? (i := 13) rfl))) (mvT hZ (hw _ (List.mem_of_getElem? (i := 14) rfl))) (notFace_of_selects (args := #[]) (mvT hZ (hw _ (List.mem_of_getElem? (i := 16) rfl)))) (mvT hZ (hw _ (List.mem_of_getElem? (i := 16) rfl))) (mvT hZ (hw _ (List.mem_of_getElem? (i := 15) rfl))) (by decide) (backOf (W := 0) (rm3 l Z a0 hw [] b12 ((0 : Int32) - (1 : Int32)) ((0 : Int32) - (1 : Int32)) (0 : Int32)  T16.heap n0 (Nat.le_trans Z0 K0_20.1) A12_18 G16_0 G16_1 G16_2 g_b12) hZ (hw _ (List.mem_of_getElem? (i := 17) rfl)) (hw _ (List.mem_of_getElem? (i := 2) rfl)) (by decide) (by decide)) q19a q19c (g := (mkF m 42 #[.val (.int p0), .val (.int (1 : Int32)), .val (.ref b12), .unset] [(.ref b12)])) rfl (by rw [hml]; rfl) (Steps.refl _) (argsL := []) (rest := []) (lenOf pd__28_29V rfl) rfl (by show 2 * 0 + _ ≤ _; exact Nat.le_of_eq rfl) (hb hby at_42) (fun _ _ => ⟨rfl, rfl, (by decide : 1 + 0 ≤ _), (by decide : 6 + 0 ≤ _)⟩)
    dsimp only [Pt.U, Pt.locs, Pt.cells, Pt.slots] at X19 l19 y19 z19 st19 hQ19
    subst l19 y19 z19
    obtain ⟨rfl, N19q, K19, G19_0, G19_1, G19_2⟩ := hQ19
    have N19 := Fr.app N16 N19q
    refine own_tr st19 ?_
    show own_Go _ _ _ _ T19 (mkF m 45 #[.val (.int p0), .val (.int (1 : Int32)), .val (.ref b12), .unset] [])
    refine own_st (fun t k => XS.iloadN X19.here hx rfl (hb hby at_45) rfl k) ?_
    show own_Go _ _ _ _ T19 (mkF m 46 #[.val (.int p0), .val (.int (1 : Int32)), .val (.ref b12), .unset] [(.int (1 : Int32))])
    refine own_st (fun t k => XS.iconst X19.here hx rfl (hb hby at_46) k) ?_
    show own_Go _ _ _ _ T19 (mkF m 47 #[.val (.int p0), .val (.int (1 : Int32)), .val (.ref b12), .unset] [(.int (1 : Int32)), (.int (1 : Int32))])
    refine own_st (fun t k => XS.iadd X19.here hx rfl (hb hby at_47) rfl k) ?_
    show own_Go _ _ _ _ T19 (mkF m 48 #[.val (.int p0), .val (.int (1 : Int32)), .val (.ref b12), .unset] [(.int ((1 : Int32) + (1 : Int32)))])
    refine own_st (fun t k => XS.ineg X19.here hx rfl (hb hby at_48) rfl k) ?_
    show own_Go _ _ _ _ T19 (mkF m 49 #[.val (.int p0), .val (.int (1 : Int32)), .val (.ref b12), .unset] [(.int (-((1 : Int32) + (1 : Int32))))])
    refine own_st (fun t k => XS.istoreN X19.here hx rfl (hb hby at_49) rfl (l' := #[.val (.int p0), .val (.int (1 : Int32)), .val (.ref b12), .val (.int (-((1 : Int32) + (1 : Int32))))]) rfl k) ?_
    show own_Go _ _ _ _ T19 (mkF m 50 #[.val (.int p0), .val (.int (1 : Int32)), .val (.ref b12), .val (.int (-((1 : Int32) + (1 : Int32))))] [])
    refine own_st (fun t k => XS.aloadN X19.here hx rfl (hb hby at_50) rfl rfl k) ?_
    show own_Go _ _ _ _ T19 (mkF m 51 #[.val (.int p0), .val (.int (1 : Int32)), .val (.ref b12), .val (.int (-((1 : Int32) + (1 : Int32))))] [(.ref b12)])
    have K0_22 := (K0_20.trans K19 (allS ((Or.inr sz_b12)) all0))
    have A12_23 := (A12_18.keep K19)
    obtain ⟨cq21, kq21, q21a, q21b, q21c⟩ := isOf hZ rfl A12_23
    obtain ⟨_, _, ⟨T21, L21, k21, n21⟩, -, X21, ⟨Lc21, hQ21, l21, y21, z21⟩, st21⟩ := X19.virtualBack hx (y := (⟨"com/example/hot_pool/hotpool/pool/Room", "taken", "()I"⟩ : MethodName)) (z := (⟨"com/example/hot_pool/hotpool/pool/Room", "taken", "()I"⟩ : MethodName)) hown (mvT hZ (hw _ (List.mem_of_getElem? (i := 22) rfl))) (mvT hZ (hw _ (List.mem_of_getElem? (i := 23) rfl))) (notFace_of_selects (args := #[]) (mvT hZ (hw _ (List.mem_of_getElem? (i := 25) rfl)))) (mvT hZ (hw _ (List.mem_of_getElem? (i := 25) rfl))) (mvT hZ (hw _ (List.mem_of_getElem? (i := 24) rfl))) (by decide) (backOf (W := 0) (rm4 l Z a0 hw [] b12 (((0 : Int32) - (1 : Int32)) - (1 : Int32))  T19.heap n0 (Nat.le_trans Z0 K0_22.1) G19_1) hZ (hw _ (List.mem_of_getElem? (i := 26) rfl)) (hw _ (List.mem_of_getElem? (i := 2) rfl)) (by decide) (by decide)) q21a q21c (g := (mkF m 51 #[.val (.int p0), .val (.int (1 : Int32)), .val (.ref b12), .val (.int (-((1 : Int32) + (1 : Int32))))] [(.ref b12)])) rfl (by rw [hml]; rfl) (Steps.refl _) (argsL := []) (rest := []) (lenOf pd__28_29I rfl) rfl (by show 2 * 0 + _ ≤ _; exact Nat.le_of_eq rfl) (hb hby at_51) (fun _ _ => ⟨rfl, rfl, (by decide : 1 + 0 ≤ _), (by decide : 6 + 0 ≤ _)⟩)
    dsimp only [Pt.U, Pt.locs, Pt.cells, Pt.slots] at X21 l21 y21 z21 st21 hQ21
    subst l21 y21 z21
    obtain ⟨rfl, N21q, e21⟩ := hQ21
    have N21 := Fr.app N19 N21q
    refine own_tr st21 ?_
    show own_Go _ _ _ _ T21 (mkF m 54 #[.val (.int p0), .val (.int (1 : Int32)), .val (.ref b12), .val (.int (-((1 : Int32) + (1 : Int32))))] [(.int (((0 : Int32) - (1 : Int32)) - (1 : Int32)))])
    refine own_st (fun t k => XS.iloadN X21.here hx rfl (hb hby at_54) rfl k) ?_
    show own_Go _ _ _ _ T21 (mkF m 55 #[.val (.int p0), .val (.int (1 : Int32)), .val (.ref b12), .val (.int (-((1 : Int32) + (1 : Int32))))] [(.int (-((1 : Int32) + (1 : Int32)))), (.int (((0 : Int32) - (1 : Int32)) - (1 : Int32)))])
    refine own_st (fun t k => XS.icmpNo X21.here hx rfl (hb hby at_55) rfl (teq (by decide : (((0 : Int32) - (1 : Int32)) - (1 : Int32)) = (-((1 : Int32) + (1 : Int32))))).2 k) ?_
    show own_Go _ _ _ _ T21 (mkF m 58 #[.val (.int p0), .val (.int (1 : Int32)), .val (.ref b12), .val (.int (-((1 : Int32) + (1 : Int32))))] [])
    refine own_st (fun t k => XS.aloadN X21.here hx rfl (hb hby at_58) rfl rfl k) ?_
    show own_Go _ _ _ _ T21 (mkF m 59 #[.val (.int p0), .val (.int (1 : Int32)), .val (.ref b12), .val (.int (-((1 : Int32) + (1 : Int32))))] [(.ref b12)])
    obtain ⟨cq24, kq24, q24a, q24b, q24c⟩ := isOf hZ e21 A12_23
    obtain ⟨_, _, ⟨T24, L24, k24, n24⟩, -, X24, ⟨Lc24, hQ24, l24, y24, z24⟩, st24⟩ := X21.virtualBack hx (y := (⟨"com/example/hot_pool/hotpool/pool/Room", "holding", "()I"⟩ : MethodName)) (z := (⟨"com/example/hot_pool/hotpool/pool/Room", "holding", "()I"⟩ : MethodName)) hown (mvT hZ (hw _ (List.mem_of_getElem? (i := 27) rfl))) (mvT hZ (hw _ (List.mem_of_getElem? (i := 28) rfl))) (notFace_of_selects (args := #[]) (mvT hZ (hw _ (List.mem_of_getElem? (i := 30) rfl)))) (mvT hZ (hw _ (List.mem_of_getElem? (i := 30) rfl))) (mvT hZ (hw _ (List.mem_of_getElem? (i := 29) rfl))) (by decide) (backOf (W := 0) (rm5 l Z a0 hw [] b12 (((0 : Int32) - (1 : Int32)) - (1 : Int32)) (((0 : Int32) - (1 : Int32)) - (1 : Int32))  T19.heap n0 (Nat.le_trans Z0 K0_22.1) G19_0 G19_1) hZ (hw _ (List.mem_of_getElem? (i := 31) rfl)) (hw _ (List.mem_of_getElem? (i := 2) rfl)) (by decide) (by decide)) q24a q24c (g := (mkF m 59 #[.val (.int p0), .val (.int (1 : Int32)), .val (.ref b12), .val (.int (-((1 : Int32) + (1 : Int32))))] [(.ref b12)])) rfl (by rw [hml]; rfl) (Steps.refl _) (argsL := []) (rest := []) (lenOf pd__28_29I rfl) rfl (by show 2 * 0 + _ ≤ _; exact Nat.le_of_eq rfl) (hb hby at_59) (fun _ _ => ⟨rfl, e21, (by decide : 1 + 0 ≤ _), (by decide : 6 + 0 ≤ _)⟩)
    dsimp only [Pt.U, Pt.locs, Pt.cells, Pt.slots] at X24 l24 y24 z24 st24 hQ24
    subst l24 y24 z24
    obtain ⟨rfl, N24q, e24⟩ := hQ24
    have N24 := Fr.app N21 N24q
    refine own_tr st24 ?_
    show own_Go _ _ _ _ T24 (mkF m 62 #[.val (.int p0), .val (.int (1 : Int32)), .val (.ref b12), .val (.int (-((1 : Int32) + (1 : Int32))))] [(.int ((((0 : Int32) - (1 : Int32)) - (1 : Int32)) - (((0 : Int32) - (1 : Int32)) - (1 : Int32))))])
    refine own_st (fun t k => XS.ifNo X24.here hx rfl (hb hby at_62) rfl ((if0 _ _).trans (teq (by decide : ((((0 : Int32) - (1 : Int32)) - (1 : Int32)) - (((0 : Int32) - (1 : Int32)) - (1 : Int32))) = (0 : Int32))).2) k) ?_
    show own_Go _ _ _ _ T24 (mkF m 65 #[.val (.int p0), .val (.int (1 : Int32)), .val (.ref b12), .val (.int (-((1 : Int32) + (1 : Int32))))] [])
    refine own_st (fun t k => XS.aloadN X24.here hx rfl (hb hby at_65) rfl rfl k) ?_
    show own_Go _ _ _ _ T24 (mkF m 66 #[.val (.int p0), .val (.int (1 : Int32)), .val (.ref b12), .val (.int (-((1 : Int32) + (1 : Int32))))] [(.ref b12)])
    obtain ⟨cq25, kq25, q25a, q25b, q25c⟩ := isOf hZ e24 A12_23
    obtain ⟨_, _, ⟨T25, L25, k25, n25⟩, -, X25, ⟨Lc25, hQ25, l25, y25, z25⟩, st25⟩ := X24.virtualBack hx (y := (⟨"com/example/hot_pool/hotpool/pool/Room", "holdingOwn", "()I"⟩ : MethodName)) (z := (⟨"com/example/hot_pool/hotpool/pool/Room", "holdingOwn", "()I"⟩ : MethodName)) hown (mvT hZ (hw _ (List.mem_of_getElem? (i := 32) rfl))) (mvT hZ (hw _ (List.mem_of_getElem? (i := 33) rfl))) (notFace_of_selects (args := #[]) (mvT hZ (hw _ (List.mem_of_getElem? (i := 35) rfl)))) (mvT hZ (hw _ (List.mem_of_getElem? (i := 35) rfl))) (mvT hZ (hw _ (List.mem_of_getElem? (i := 34) rfl))) (by decide) (backOf (W := 0) (rm6 l Z a0 hw [] b12 (((0 : Int32) - (1 : Int32)) - (1 : Int32)) (((0 : Int32) - (1 : Int32)) - (1 : Int32)) (0 : Int32)  T19.heap n0 (Nat.le_trans Z0 K0_22.1) G19_0 G19_1 G19_2) hZ (hw _ (List.mem_of_getElem? (i := 36) rfl)) (hw _ (List.mem_of_getElem? (i := 2) rfl)) (by decide) (by decide)) q25a q25c (g := (mkF m 66 #[.val (.int p0), .val (.int (1 : Int32)), .val (.ref b12), .val (.int (-((1 : Int32) + (1 : Int32))))] [(.ref b12)])) rfl (by rw [hml]; rfl) (Steps.refl _) (argsL := []) (rest := []) (lenOf pd__28_29I rfl) rfl (by show 2 * 0 + _ ≤ _; exact Nat.le_of_eq rfl) (hb hby at_66) (fun _ _ => ⟨rfl, e24, (by decide : 1 + 0 ≤ _), (by decide : 6 + 0 ≤ _)⟩)
    dsimp only [Pt.U, Pt.locs, Pt.cells, Pt.slots] at X25 l25 y25 z25 st25 hQ25
    subst l25 y25 z25
    obtain ⟨rfl, N25q, e25⟩ := hQ25
    have N25 := Fr.app N24 N25q
    refine own_tr st25 ?_
    show own_Go _ _ _ _ T25 (mkF m 69 #[.val (.int p0), .val (.int (1 : Int32)), .val (.ref b12), .val (.int (-((1 : Int32) + (1 : Int32))))] [(.int (((((0 : Int32) - (1 : Int32)) - (1 : Int32)) - (((0 : Int32) - (1 : Int32)) - (1 : Int32))) - (0 : Int32)))])
    refine own_st (fun t k => XS.ifNo X25.here hx rfl (hb hby at_69) rfl ((if0 _ _).trans (teq (by decide : (((((0 : Int32) - (1 : Int32)) - (1 : Int32)) - (((0 : Int32) - (1 : Int32)) - (1 : Int32))) - (0 : Int32)) = (0 : Int32))).2) k) ?_
    show own_Go _ _ _ _ T25 (mkF m 72 #[.val (.int p0), .val (.int (1 : Int32)), .val (.ref b12), .val (.int (-((1 : Int32) + (1 : Int32))))] [])
    refine own_st (fun t k => XS.iconst X25.here hx rfl (hb hby at_72) k) ?_
    show own_Go _ _ _ _ T25 (mkF m 73 #[.val (.int p0), .val (.int (1 : Int32)), .val (.ref b12), .val (.int (-((1 : Int32) + (1 : Int32))))] [(.int (1 : Int32))])
    refine own_st (fun t k => XS.goto X25.here hx rfl (pc0 := 73) (pc' := 77) rfl (hb hby at_73) (by decide) (by decide) k) ?_
    show own_Go _ _ _ _ T25 (mkF m 77 #[.val (.int p0), .val (.int (1 : Int32)), .val (.ref b12), .val (.int (-((1 : Int32) + (1 : Int32))))] [(.int (1 : Int32))])
    exact own_retN X25 hx hlk (t := .boolean) hrt (by simp) (hb hby at_77) ⟨rfl, N25⟩ (by decide) (by decide)
  ·
    rw [hn]
    show own_Go _ _ _ _ s₁ (mkF m 4 #[.val (.int p0), .val (.int (2 : Int32)), .unset, .unset] [])
    obtain ⟨T26, h26, X26, e26, E26, A26, D26, -, st26⟩ := newO X0 hx hZ hown (hw _ (List.mem_of_getElem? (i := 0) rfl)) (hw _ (List.mem_of_getElem? (i := 1) rfl)) (hw _ (List.mem_of_getElem? (i := 2) rfl)) e0 (g := (mkF m 4 #[.val (.int p0), .val (.int (2 : Int32)), .unset, .unset] [])) rfl (hb hby at_4) (by decide) (by decide)
    obtain ⟨b26, g26⟩ : ∃ z, z = h0.size := ⟨_, rfl⟩
    rw [← g26] at A26 D26 st26
    have sz_b26 : h0.size ≤ b26 := Nat.le_trans K0.1 (Nat.le_of_eq g26.symm)
    have g_b26 : n0 ≤ b26 := Nat.le_trans Z0 sz_b26
    have F26_settings : Fld Z h26 b26 "com/example/hot_pool/hotpool/pool/Room" "settings" "Lcom/example/hot_pool/hotpool/config/PoolSettings;" .null := D26 (Or.inr (hw _ (List.mem_of_getElem? (i := 10) rfl))) (ty := (.object "com/example/hot_pool/hotpool/config/PoolSettings")) (by decide)
    have F26_own : Fld Z h26 b26 "com/example/hot_pool/hotpool/pool/Room" "own" "Lcom/example/hot_pool/hotpool/config/Credentials;" .null := D26 (Or.inr (hw _ (List.mem_of_getElem? (i := 12) rfl))) (ty := (.object "com/example/hot_pool/hotpool/config/Credentials")) (by decide)
    have F26_closing : Fld Z h26 b26 "com/example/hot_pool/hotpool/pool/Room" "closing" "I" (.int (0 : Int32)) := D26 (Or.inl (hw _ (List.mem_of_getElem? (i := 19) rfl))) (ty := .int) (by decide)
    have F26_taken : Fld Z h26 b26 "com/example/hot_pool/hotpool/pool/Room" "taken" "I" (.int (0 : Int32)) := D26 (Or.inl (hw _ (List.mem_of_getElem? (i := 21) rfl))) (ty := .int) (by decide)
    have F26_others : Fld Z h26 b26 "com/example/hot_pool/hotpool/pool/Room" "others" "I" (.int (0 : Int32)) := D26 (Or.inl (hw _ (List.mem_of_getElem? (i := 38) rfl))) (ty := .int) (by decide)
    refine own_st st26 ?_
    show own_Go _ _ _ _ T26 (mkF m 7 #[.val (.int p0), .val (.int (2 : Int32)), .unset, .unset] [(.ref b26)])
    refine own_st (fun t k => XS.dup X26.here hx rfl (hb hby at_7) rfl rfl k) ?_
    show own_Go _ _ _ _ T26 (mkF m 8 #[.val (.int p0), .val (.int (2 : Int32)), .unset, .unset] [(.ref b26), (.ref b26)])
    refine own_st (fun t k => XS.aconstNull X26.here hx rfl (hb hby at_8) k) ?_
    show own_Go _ _ _ _ T26 (mkF m 9 #[.val (.int p0), .val (.int (2 : Int32)), .unset, .unset] [.null, (.ref b26), (.ref b26)])
    refine own_st (fun t k => XS.aconstNull X26.here hx rfl (hb hby at_9) k) ?_
    show own_Go _ _ _ _ T26 (mkF m 10 #[.val (.int p0), .val (.int (2 : Int32)), .unset, .unset] [.null, .null, (.ref b26), (.ref b26)])
    have K0_28 := (K0.ext E26)
    obtain ⟨_, _, ⟨T27, L27, k27, n27⟩, -, X27, ⟨Lc27, hQ27, l27, y27, z27⟩, st27⟩ := X26.specialBack hx (y := (⟨"com/example/hot_pool/hotpool/pool/Room", "<init>", "(Lcom/example/hot_pool/hotpool/config/PoolSettings;Lcom/example/hot_pool/hotpool/config/Credentials;)V"⟩ : MethodName)) rfl hown (mvT hZ (hw _ (List.mem_of_getElem? (i := 3) rfl))) (mvT hZ (hw _ (List.mem_of_getElem? (i := 4) rfl))) (mvT hZ (hw _ (List.mem_of_getElem? (i := 5) rfl))) (by decide) (backOf (W := 1) (rm1 l Z a0 hw [] b26  h26 n0 (Nat.le_trans Z0 K0_28.1) A26 F26_settings F26_own F26_closing F26_taken F26_others g_b26) hZ (hw _ (List.mem_of_getElem? (i := 5) rfl)) (hw _ (List.mem_of_getElem? (i := 2) rfl)) (by decide) (by decide)) (g := (mkF m 10 #[.val (.int p0), .val (.int (2 : Int32)), .unset, .unset] [.null, .null, (.ref b26), (.ref b26)])) rfl (by rw [hml]; rfl) (Steps.refl _) (a := b26) (argsL := [.null, .null]) (rest := [(.ref b26)]) (lenOf pd_572933 rfl) rfl (by show 2 * 0 + _ ≤ _; exact Nat.le_of_eq rfl) (hb hby at_10) (fun _ _ => ⟨rfl, e26, (by decide : 1 + 0 ≤ _), (by decide : 6 + 0 ≤ _)⟩)
    dsimp only [Pt.U, Pt.locs, Pt.cells, Pt.slots] at X27 l27 y27 z27 st27 hQ27
    subst l27 y27 z27
    obtain ⟨rfl, N27q, K27, G27_0, G27_1, G27_2, G27_3, G27_4⟩ := hQ27
    have N27 := Fr.app N0 N27q
    refine own_tr st27 ?_
    show own_Go _ _ _ _ T27 (mkF m 13 #[.val (.int p0), .val (.int (2 : Int32)), .unset, .unset] [(.ref b26)])
    refine own_st (fun t k => XS.astoreN X27.here hx rfl (hb hby at_13) rfl rfl (l' := #[.val (.int p0), .val (.int (2 : Int32)), .val (.ref b26), .unset]) rfl k) ?_
    show own_Go _ _ _ _ T27 (mkF m 14 #[.val (.int p0), .val (.int (2 : Int32)), .val (.ref b26), .unset] [])
    refine own_st (fun t k => XS.iloadN X27.here hx rfl (hb hby at_14) rfl k) ?_
    show own_Go _ _ _ _ T27 (mkF m 15 #[.val (.int p0), .val (.int (2 : Int32)), .val (.ref b26), .unset] [(.int (2 : Int32))])
    refine own_st (fun t k => XS.iconst X27.here hx rfl (hb hby at_15) k) ?_
    show own_Go _ _ _ _ T27 (mkF m 16 #[.val (.int p0), .val (.int (2 : Int32)), .val (.ref b26), .unset] [(.int (1 : Int32)), (.int (2 : Int32))])
    refine own_st (fun t k => XS.icmpNo X27.here hx rfl (hb hby at_16) rfl (flt (by decide : ¬ ((2 : Int32) < (1 : Int32)))).1 k) ?_
    show own_Go _ _ _ _ T27 (mkF m 19 #[.val (.int p0), .val (.int (2 : Int32)), .val (.ref b26), .unset] [])
    refine own_st (fun t k => XS.aloadN X27.here hx rfl (hb hby at_19) rfl rfl k) ?_
    show own_Go _ _ _ _ T27 (mkF m 20 #[.val (.int p0), .val (.int (2 : Int32)), .val (.ref b26), .unset] [(.ref b26)])
    have A26_29 := (A26.keep K27)
    have K0_31 := (K0_28.trans K27 (allS ((Or.inr sz_b26)) all0))
    obtain ⟨cq30, kq30, q30a, q30b, q30c⟩ := isOf hZ rfl A26_29
    obtain ⟨_, _, ⟨T30, L30, k30, n30⟩, -, X30, ⟨Lc30, hQ30, l30, y30, z30⟩, st30⟩ := X27.virtualBack hx (y := (⟨"com/example/hot_pool/hotpool/pool/Room", "freeClosed", "()V"⟩ : MethodName)) (z := (⟨"com/example/hot_pool/hotpool/pool/Room", "freeClosed", "()V"⟩ : MethodName)) hown (mvT hZ (hw _ (List.mem_of_getElem? (i := 13) rfl))) (mvT hZ (hw _ (List.mem_of_getElem? (i := 14) rfl))) (notFace_of_selects (args := #[]) (mvT hZ (hw _ (List.mem_of_getElem? (i := 16) rfl)))) (mvT hZ (hw _ (List.mem_of_getElem? (i := 16) rfl))) (mvT hZ (hw _ (List.mem_of_getElem? (i := 15) rfl))) (by decide) (backOf (W := 0) (rm3 l Z a0 hw [] b26 (0 : Int32) (0 : Int32) (0 : Int32)  T27.heap n0 (Nat.le_trans Z0 K0_31.1) A26_29 G27_2 G27_3 G27_4 g_b26) hZ (hw _ (List.mem_of_getElem? (i := 17) rfl)) (hw _ (List.mem_of_getElem? (i := 2) rfl)) (by decide) (by decide)) q30a q30c (g := (mkF m 20 #[.val (.int p0), .val (.int (2 : Int32)), .val (.ref b26), .unset] [(.ref b26)])) rfl (by rw [hml]; rfl) (Steps.refl _) (argsL := []) (rest := []) (lenOf pd__28_29V rfl) rfl (by show 2 * 0 + _ ≤ _; exact Nat.le_of_eq rfl) (hb hby at_20) (fun _ _ => ⟨rfl, rfl, (by decide : 1 + 0 ≤ _), (by decide : 6 + 0 ≤ _)⟩)
    dsimp only [Pt.U, Pt.locs, Pt.cells, Pt.slots] at X30 l30 y30 z30 st30 hQ30
    subst l30 y30 z30
    obtain ⟨rfl, N30q, K30, G30_0, G30_1, G30_2⟩ := hQ30
    have N30 := Fr.app N27 N30q
    refine own_tr st30 ?_
    show own_Go _ _ _ _ T30 (mkF m 23 #[.val (.int p0), .val (.int (2 : Int32)), .val (.ref b26), .unset] [])
    refine own_st (fun t k => XS.iloadN X30.here hx rfl (hb hby at_23) rfl k) ?_
    show own_Go _ _ _ _ T30 (mkF m 24 #[.val (.int p0), .val (.int (2 : Int32)), .val (.ref b26), .unset] [(.int (2 : Int32))])
    refine own_st (fun t k => XS.iconst X30.here hx rfl (hb hby at_24) k) ?_
    show own_Go _ _ _ _ T30 (mkF m 25 #[.val (.int p0), .val (.int (2 : Int32)), .val (.ref b26), .unset] [(.int (2 : Int32)), (.int (2 : Int32))])
    refine own_st (fun t k => XS.icmpNo X30.here hx rfl (hb hby at_25) rfl (flt (by decide : ¬ ((2 : Int32) < (2 : Int32)))).1 k) ?_
    show own_Go _ _ _ _ T30 (mkF m 28 #[.val (.int p0), .val (.int (2 : Int32)), .val (.ref b26), .unset] [])
    refine own_st (fun t k => XS.aloadN X30.here hx rfl (hb hby at_28) rfl rfl k) ?_
    show own_Go _ _ _ _ T30 (mkF m 29 #[.val (.int p0), .val (.int (2 : Int32)), .val (.ref b26), .unset] [(.ref b26)])
    have A26_32 := (A26_29.keep K30)
    have K0_34 := (K0_31.trans K30 (allS ((Or.inr sz_b26)) all0))
    obtain ⟨cq33, kq33, q33a, q33b, q33c⟩ := isOf hZ rfl A26_32
    obtain ⟨_, _, ⟨T33, L33, k33, n33⟩, -, X33, ⟨Lc33, hQ33, l33, y33, z33⟩, st33⟩ := X30.virtualBack hx (y := (⟨"com/example/hot_pool/hotpool/pool/Room", "freeClosed", "()V"⟩ : MethodName)) (z := (⟨"com/example/hot_pool/hotpool/pool/Room", "freeClosed", "()V"⟩ : MethodName)) hown (mvT hZ (hw _ (List.mem_of_getElem? (i := 13) rfl))) (mvT hZ (hw _ (List.mem_of_getElem? (i := 14) rfl))) (notFace_of_selects (args := #[]) (mvT hZ (hw _ (List.mem_of_getElem? (i := 16) rfl)))) (mvT hZ (hw _ (List.mem_of_getElem? (i := 16) rfl))) (mvT hZ (hw _ (List.mem_of_getElem? (i := 15) rfl))) (by decide) (backOf (W := 0) (rm3 l Z a0 hw [] b26 ((0 : Int32) - (1 : Int32)) ((0 : Int32) - (1 : Int32)) (0 : Int32)  T30.heap n0 (Nat.le_trans Z0 K0_34.1) A26_32 G30_0 G30_1 G30_2 g_b26) hZ (hw _ (List.mem_of_getElem? (i := 17) rfl)) (hw _ (List.mem_of_getElem? (i := 2) rfl)) (by decide) (by decide)) q33a q33c (g := (mkF m 29 #[.val (.int p0), .val (.int (2 : Int32)), .val (.ref b26), .unset] [(.ref b26)])) rfl (by rw [hml]; rfl) (Steps.refl _) (argsL := []) (rest := []) (lenOf pd__28_29V rfl) rfl (by show 2 * 0 + _ ≤ _; exact Nat.le_of_eq rfl) (hb hby at_29) (fun _ _ => ⟨rfl, rfl, (by decide : 1 + 0 ≤ _), (by decide : 6 + 0 ≤ _)⟩)
    dsimp only [Pt.U, Pt.locs, Pt.cells, Pt.slots] at X33 l33 y33 z33 st33 hQ33
    subst l33 y33 z33
    obtain ⟨rfl, N33q, K33, G33_0, G33_1, G33_2⟩ := hQ33
    have N33 := Fr.app N30 N33q
    refine own_tr st33 ?_
    show own_Go _ _ _ _ T33 (mkF m 32 #[.val (.int p0), .val (.int (2 : Int32)), .val (.ref b26), .unset] [])
    refine own_st (fun t k => XS.iloadN X33.here hx rfl (hb hby at_32) rfl k) ?_
    show own_Go _ _ _ _ T33 (mkF m 33 #[.val (.int p0), .val (.int (2 : Int32)), .val (.ref b26), .unset] [(.int (2 : Int32))])
    refine own_st (fun t k => XS.iconst X33.here hx rfl (hb hby at_33) k) ?_
    show own_Go _ _ _ _ T33 (mkF m 34 #[.val (.int p0), .val (.int (2 : Int32)), .val (.ref b26), .unset] [(.int (3 : Int32)), (.int (2 : Int32))])
    refine own_st (fun t k => XS.icmpYes X33.here hx rfl (pc0 := 34) (pc' := 41) rfl (hb hby at_34) rfl (tlt (by decide : (2 : Int32) < (3 : Int32))).1 (by decide) (by decide) k) ?_
    show own_Go _ _ _ _ T33 (mkF m 41 #[.val (.int p0), .val (.int (2 : Int32)), .val (.ref b26), .unset] [])
    refine own_st (fun t k => XS.aloadN X33.here hx rfl (hb hby at_41) rfl rfl k) ?_
    show own_Go _ _ _ _ T33 (mkF m 42 #[.val (.int p0), .val (.int (2 : Int32)), .val (.ref b26), .unset] [(.ref b26)])
    have A26_35 := (A26_32.keep K33)
    have K0_37 := (K0_34.trans K33 (allS ((Or.inr sz_b26)) all0))
    obtain ⟨cq36, kq36, q36a, q36b, q36c⟩ := isOf hZ rfl A26_35
    obtain ⟨_, _, ⟨T36, L36, k36, n36⟩, -, X36, ⟨Lc36, hQ36, l36, y36, z36⟩, st36⟩ := X33.virtualBack hx (y := (⟨"com/example/hot_pool/hotpool/pool/Room", "freeClosed", "()V"⟩ : MethodName)) (z := (⟨"com/example/hot_pool/hotpool/pool/Room", "freeClosed", "()V"⟩ : MethodName)) hown (mvT hZ (hw _ (List.mem_of_getElem? (i := 13) rfl))) (mvT hZ (hw _ (List.mem_of_getElem? (i := 14) rfl))) (notFace_of_selects (args := #[]) (mvT hZ (hw _ (List.mem_of_getElem? (i := 16) rfl)))) (mvT hZ (hw _ (List.mem_of_getElem? (i := 16) rfl))) (mvT hZ (hw _ (List.mem_of_getElem? (i := 15) rfl))) (by decide) (backOf (W := 0) (rm3 l Z a0 hw [] b26 (((0 : Int32) - (1 : Int32)) - (1 : Int32)) (((0 : Int32) - (1 : Int32)) - (1 : Int32)) (0 : Int32)  T33.heap n0 (Nat.le_trans Z0 K0_37.1) A26_35 G33_0 G33_1 G33_2 g_b26) hZ (hw _ (List.mem_of_getElem? (i := 17) rfl)) (hw _ (List.mem_of_getElem? (i := 2) rfl)) (by decide) (by decide)) q36a q36c (g := (mkF m 42 #[.val (.int p0), .val (.int (2 : Int32)), .val (.ref b26), .unset] [(.ref b26)])) rfl (by rw [hml]; rfl) (Steps.refl _) (argsL := []) (rest := []) (lenOf pd__28_29V rfl) rfl (by show 2 * 0 + _ ≤ _; exact Nat.le_of_eq rfl) (hb hby at_42) (fun _ _ => ⟨rfl, rfl, (by decide : 1 + 0 ≤ _), (by decide : 6 + 0 ≤ _)⟩)
    dsimp only [Pt.U, Pt.locs, Pt.cells, Pt.slots] at X36 l36 y36 z36 st36 hQ36
    subst l36 y36 z36
    obtain ⟨rfl, N36q, K36, G36_0, G36_1, G36_2⟩ := hQ36
    have N36 := Fr.app N33 N36q
    refine own_tr st36 ?_
    show own_Go _ _ _ _ T36 (mkF m 45 #[.val (.int p0), .val (.int (2 : Int32)), .val (.ref b26), .unset] [])
    refine own_st (fun t k => XS.iloadN X36.here hx rfl (hb hby at_45) rfl k) ?_
    show own_Go _ _ _ _ T36 (mkF m 46 #[.val (.int p0), .val (.int (2 : Int32)), .val (.ref b26), .unset] [(.int (2 : Int32))])
    refine own_st (fun t k => XS.iconst X36.here hx rfl (hb hby at_46) k) ?_
    show own_Go _ _ _ _ T36 (mkF m 47 #[.val (.int p0), .val (.int (2 : Int32)), .val (.ref b26), .unset] [(.int (1 : Int32)), (.int (2 : Int32))])
    refine own_st (fun t k => XS.iadd X36.here hx rfl (hb hby at_47) rfl k) ?_
    show own_Go _ _ _ _ T36 (mkF m 48 #[.val (.int p0), .val (.int (2 : Int32)), .val (.ref b26), .unset] [(.int ((2 : Int32) + (1 : Int32)))])
    refine own_st (fun t k => XS.ineg X36.here hx rfl (hb hby at_48) rfl k) ?_
    show own_Go _ _ _ _ T36 (mkF m 49 #[.val (.int p0), .val (.int (2 : Int32)), .val (.ref b26), .unset] [(.int (-((2 : Int32) + (1 : Int32))))])
    refine own_st (fun t k => XS.istoreN X36.here hx rfl (hb hby at_49) rfl (l' := #[.val (.int p0), .val (.int (2 : Int32)), .val (.ref b26), .val (.int (-((2 : Int32) + (1 : Int32))))]) rfl k) ?_
    show own_Go _ _ _ _ T36 (mkF m 50 #[.val (.int p0), .val (.int (2 : Int32)), .val (.ref b26), .val (.int (-((2 : Int32) + (1 : Int32))))] [])
    refine own_st (fun t k => XS.aloadN X36.here hx rfl (hb hby at_50) rfl rfl k) ?_
    show own_Go _ _ _ _ T36 (mkF m 51 #[.val (.int p0), .val (.int (2 : Int32)), .val (.ref b26), .val (.int (-((2 : Int32) + (1 : Int32))))] [(.ref b26)])
    have K0_39 := (K0_37.trans K36 (allS ((Or.inr sz_b26)) all0))
    have A26_40 := (A26_35.keep K36)
    obtain ⟨cq38, kq38, q38a, q38b, q38c⟩ := isOf hZ rfl A26_40
    obtain ⟨_, _, ⟨T38, L38, k38, n38⟩, -, X38, ⟨Lc38, hQ38, l38, y38, z38⟩, st38⟩ := X36.virtualBack hx (y := (⟨"com/example/hot_pool/hotpool/pool/Room", "taken", "()I"⟩ : MethodName)) (z := (⟨"com/example/hot_pool/hotpool/pool/Room", "taken", "()I"⟩ : MethodName)) hown (mvT hZ (hw _ (List.mem_of_getElem? (i := 22) rfl))) (mvT hZ (hw _ (List.mem_of_getElem? (i := 23) rfl))) (notFace_of_selects (args := #[]) (mvT hZ (hw _ (List.mem_of_getElem? (i := 25) rfl)))) (mvT hZ (hw _ (List.mem_of_getElem? (i := 25) rfl))) (mvT hZ (hw _ (List.mem_of_getElem? (i := 24) rfl))) (by decide) (backOf (W := 0) (rm4 l Z a0 hw [] b26 ((((0 : Int32) - (1 : Int32)) - (1 : Int32)) - (1 : Int32))  T36.heap n0 (Nat.le_trans Z0 K0_39.1) G36_1) hZ (hw _ (List.mem_of_getElem? (i := 26) rfl)) (hw _ (List.mem_of_getElem? (i := 2) rfl)) (by decide) (by decide)) q38a q38c (g := (mkF m 51 #[.val (.int p0), .val (.int (2 : Int32)), .val (.ref b26), .val (.int (-((2 : Int32) + (1 : Int32))))] [(.ref b26)])) rfl (by rw [hml]; rfl) (Steps.refl _) (argsL := []) (rest := []) (lenOf pd__28_29I rfl) rfl (by show 2 * 0 + _ ≤ _; exact Nat.le_of_eq rfl) (hb hby at_51) (fun _ _ => ⟨rfl, rfl, (by decide : 1 + 0 ≤ _), (by decide : 6 + 0 ≤ _)⟩)
    dsimp only [Pt.U, Pt.locs, Pt.cells, Pt.slots] at X38 l38 y38 z38 st38 hQ38
    subst l38 y38 z38
    obtain ⟨rfl, N38q, e38⟩ := hQ38
    have N38 := Fr.app N36 N38q
    refine own_tr st38 ?_
    show own_Go _ _ _ _ T38 (mkF m 54 #[.val (.int p0), .val (.int (2 : Int32)), .val (.ref b26), .val (.int (-((2 : Int32) + (1 : Int32))))] [(.int ((((0 : Int32) - (1 : Int32)) - (1 : Int32)) - (1 : Int32)))])
    refine own_st (fun t k => XS.iloadN X38.here hx rfl (hb hby at_54) rfl k) ?_
    show own_Go _ _ _ _ T38 (mkF m 55 #[.val (.int p0), .val (.int (2 : Int32)), .val (.ref b26), .val (.int (-((2 : Int32) + (1 : Int32))))] [(.int (-((2 : Int32) + (1 : Int32)))), (.int ((((0 : Int32) - (1 : Int32)) - (1 : Int32)) - (1 : Int32)))])
    refine own_st (fun t k => XS.icmpNo X38.here hx rfl (hb hby at_55) rfl (teq (by decide : ((((0 : Int32) - (1 : Int32)) - (1 : Int32)) - (1 : Int32)) = (-((2 : Int32) + (1 : Int32))))).2 k) ?_
    show own_Go _ _ _ _ T38 (mkF m 58 #[.val (.int p0), .val (.int (2 : Int32)), .val (.ref b26), .val (.int (-((2 : Int32) + (1 : Int32))))] [])
    refine own_st (fun t k => XS.aloadN X38.here hx rfl (hb hby at_58) rfl rfl k) ?_
    show own_Go _ _ _ _ T38 (mkF m 59 #[.val (.int p0), .val (.int (2 : Int32)), .val (.ref b26), .val (.int (-((2 : Int32) + (1 : Int32))))] [(.ref b26)])
    obtain ⟨cq41, kq41, q41a, q41b, q41c⟩ := isOf hZ e38 A26_40
    obtain ⟨_, _, ⟨T41, L41, k41, n41⟩, -, X41, ⟨Lc41, hQ41, l41, y41, z41⟩, st41⟩ := X38.virtualBack hx (y := (⟨"com/example/hot_pool/hotpool/pool/Room", "holding", "()I"⟩ : MethodName)) (z := (⟨"com/example/hot_pool/hotpool/pool/Room", "holding", "()I"⟩ : MethodName)) hown (mvT hZ (hw _ (List.mem_of_getElem? (i := 27) rfl))) (mvT hZ (hw _ (List.mem_of_getElem? (i := 28) rfl))) (notFace_of_selects (args := #[]) (mvT hZ (hw _ (List.mem_of_getElem? (i := 30) rfl)))) (mvT hZ (hw _ (List.mem_of_getElem? (i := 30) rfl))) (mvT hZ (hw _ (List.mem_of_getElem? (i := 29) rfl))) (by decide) (backOf (W := 0) (rm5 l Z a0 hw [] b26 ((((0 : Int32) - (1 : Int32)) - (1 : Int32)) - (1 : Int32)) ((((0 : Int32) - (1 : Int32)) - (1 : Int32)) - (1 : Int32))  T36.heap n0 (Nat.le_trans Z0 K0_39.1) G36_0 G36_1) hZ (hw _ (List.mem_of_getElem? (i := 31) rfl)) (hw _ (List.mem_of_getElem? (i := 2) rfl)) (by decide) (by decide)) q41a q41c (g := (mkF m 59 #[.val (.int p0), .val (.int (2 : Int32)), .val (.ref b26), .val (.int (-((2 : Int32) + (1 : Int32))))] [(.ref b26)])) rfl (by rw [hml]; rfl) (Steps.refl _) (argsL := []) (rest := []) (lenOf pd__28_29I rfl) rfl (by show 2 * 0 + _ ≤ _; exact Nat.le_of_eq rfl) (hb hby at_59) (fun _ _ => ⟨rfl, e38, (by decide : 1 + 0 ≤ _), (by decide : 6 + 0 ≤ _)⟩)
    dsimp only [Pt.U, Pt.locs, Pt.cells, Pt.slots] at X41 l41 y41 z41 st41 hQ41
    subst l41 y41 z41
    obtain ⟨rfl, N41q, e41⟩ := hQ41
    have N41 := Fr.app N38 N41q
    refine own_tr st41 ?_
    show own_Go _ _ _ _ T41 (mkF m 62 #[.val (.int p0), .val (.int (2 : Int32)), .val (.ref b26), .val (.int (-((2 : Int32) + (1 : Int32))))] [(.int (((((0 : Int32) - (1 : Int32)) - (1 : Int32)) - (1 : Int32)) - ((((0 : Int32) - (1 : Int32)) - (1 : Int32)) - (1 : Int32))))])
    refine own_st (fun t k => XS.ifNo X41.here hx rfl (hb hby at_62) rfl ((if0 _ _).trans (teq (by decide : (((((0 : Int32) - (1 : Int32)) - (1 : Int32)) - (1 : Int32)) - ((((0 : Int32) - (1 : Int32)) - (1 : Int32)) - (1 : Int32))) = (0 : Int32))).2) k) ?_
    show own_Go _ _ _ _ T41 (mkF m 65 #[.val (.int p0), .val (.int (2 : Int32)), .val (.ref b26), .val (.int (-((2 : Int32) + (1 : Int32))))] [])
    refine own_st (fun t k => XS.aloadN X41.here hx rfl (hb hby at_65) rfl rfl k) ?_
    show own_Go _ _ _ _ T41 (mkF m 66 #[.val (.int p0), .val (.int (2 : Int32)), .val (.ref b26), .val (.int (-((2 : Int32) + (1 : Int32))))] [(.ref b26)])
    obtain ⟨cq42, kq42, q42a, q42b, q42c⟩ := isOf hZ e41 A26_40
    obtain ⟨_, _, ⟨T42, L42, k42, n42⟩, -, X42, ⟨Lc42, hQ42, l42, y42, z42⟩, st42⟩ := X41.virtualBack hx (y := (⟨"com/example/hot_pool/hotpool/pool/Room", "holdingOwn", "()I"⟩ : MethodName)) (z := (⟨"com/example/hot_pool/hotpool/pool/Room", "holdingOwn", "()I"⟩ : MethodName)) hown (mvT hZ (hw _ (List.mem_of_getElem? (i := 32) rfl))) (mvT hZ (hw _ (List.mem_of_getElem? (i := 33) rfl))) (notFace_of_selects (args := #[]) (mvT hZ (hw _ (List.mem_of_getElem? (i := 35) rfl)))) (mvT hZ (hw _ (List.mem_of_getElem? (i := 35) rfl))) (mvT hZ (hw _ (List.mem_of_getElem? (i := 34) rfl))) (by decide) (backOf (W := 0) (rm6 l Z a0 hw [] b26 ((((0 : Int32) - (1 : Int32)) - (1 : Int32)) - (1 : Int32)) ((((0 : Int32) - (1 : Int32)) - (1 : Int32)) - (1 : Int32)) (0 : Int32)  T36.heap n0 (Nat.le_trans Z0 K0_39.1) G36_0 G36_1 G36_2) hZ (hw _ (List.mem_of_getElem? (i := 36) rfl)) (hw _ (List.mem_of_getElem? (i := 2) rfl)) (by decide) (by decide)) q42a q42c (g := (mkF m 66 #[.val (.int p0), .val (.int (2 : Int32)), .val (.ref b26), .val (.int (-((2 : Int32) + (1 : Int32))))] [(.ref b26)])) rfl (by rw [hml]; rfl) (Steps.refl _) (argsL := []) (rest := []) (lenOf pd__28_29I rfl) rfl (by show 2 * 0 + _ ≤ _; exact Nat.le_of_eq rfl) (hb hby at_66) (fun _ _ => ⟨rfl, e41, (by decide : 1 + 0 ≤ _), (by decide : 6 + 0 ≤ _)⟩)
    dsimp only [Pt.U, Pt.locs, Pt.cells, Pt.slots] at X42 l42 y42 z42 st42 hQ42
    subst l42 y42 z42
    obtain ⟨rfl, N42q, e42⟩ := hQ42
    have N42 := Fr.app N41 N42q
    refine own_tr st42 ?_
    show own_Go _ _ _ _ T42 (mkF m 69 #[.val (.int p0), .val (.int (2 : Int32)), .val (.ref b26), .val (.int (-((2 : Int32) + (1 : Int32))))] [(.int ((((((0 : Int32) - (1 : Int32)) - (1 : Int32)) - (1 : Int32)) - ((((0 : Int32) - (1 : Int32)) - (1 : Int32)) - (1 : Int32))) - (0 : Int32)))])
    refine own_st (fun t k => XS.ifNo X42.here hx rfl (hb hby at_69) rfl ((if0 _ _).trans (teq (by decide : ((((((0 : Int32) - (1 : Int32)) - (1 : Int32)) - (1 : Int32)) - ((((0 : Int32) - (1 : Int32)) - (1 : Int32)) - (1 : Int32))) - (0 : Int32)) = (0 : Int32))).2) k) ?_
    show own_Go _ _ _ _ T42 (mkF m 72 #[.val (.int p0), .val (.int (2 : Int32)), .val (.ref b26), .val (.int (-((2 : Int32) + (1 : Int32))))] [])
    refine own_st (fun t k => XS.iconst X42.here hx rfl (hb hby at_72) k) ?_
    show own_Go _ _ _ _ T42 (mkF m 73 #[.val (.int p0), .val (.int (2 : Int32)), .val (.ref b26), .val (.int (-((2 : Int32) + (1 : Int32))))] [(.int (1 : Int32))])
    refine own_st (fun t k => XS.goto X42.here hx rfl (pc0 := 73) (pc' := 77) rfl (hb hby at_73) (by decide) (by decide) k) ?_
    show own_Go _ _ _ _ T42 (mkF m 77 #[.val (.int p0), .val (.int (2 : Int32)), .val (.ref b26), .val (.int (-((2 : Int32) + (1 : Int32))))] [(.int (1 : Int32))])
    exact own_retN X42 hx hlk (t := .boolean) hrt (by simp) (hb hby at_77) ⟨rfl, N42⟩ (by decide) (by decide)
  ·
    rw [hn]
    show own_Go _ _ _ _ s₁ (mkF m 4 #[.val (.int p0), .val (.int (3 : Int32)), .unset, .unset] [])
    obtain ⟨T43, h43, X43, e43, E43, A43, D43, -, st43⟩ := newO X0 hx hZ hown (hw _ (List.mem_of_getElem? (i := 0) rfl)) (hw _ (List.mem_of_getElem? (i := 1) rfl)) (hw _ (List.mem_of_getElem? (i := 2) rfl)) e0 (g := (mkF m 4 #[.val (.int p0), .val (.int (3 : Int32)), .unset, .unset] [])) rfl (hb hby at_4) (by decide) (by decide)
    obtain ⟨b43, g43⟩ : ∃ z, z = h0.size := ⟨_, rfl⟩
    rw [← g43] at A43 D43 st43
    have sz_b43 : h0.size ≤ b43 := Nat.le_trans K0.1 (Nat.le_of_eq g43.symm)
    have g_b43 : n0 ≤ b43 := Nat.le_trans Z0 sz_b43
    have F43_settings : Fld Z h43 b43 "com/example/hot_pool/hotpool/pool/Room" "settings" "Lcom/example/hot_pool/hotpool/config/PoolSettings;" .null := D43 (Or.inr (hw _ (List.mem_of_getElem? (i := 10) rfl))) (ty := (.object "com/example/hot_pool/hotpool/config/PoolSettings")) (by decide)
    have F43_own : Fld Z h43 b43 "com/example/hot_pool/hotpool/pool/Room" "own" "Lcom/example/hot_pool/hotpool/config/Credentials;" .null := D43 (Or.inr (hw _ (List.mem_of_getElem? (i := 12) rfl))) (ty := (.object "com/example/hot_pool/hotpool/config/Credentials")) (by decide)
    have F43_closing : Fld Z h43 b43 "com/example/hot_pool/hotpool/pool/Room" "closing" "I" (.int (0 : Int32)) := D43 (Or.inl (hw _ (List.mem_of_getElem? (i := 19) rfl))) (ty := .int) (by decide)
    have F43_taken : Fld Z h43 b43 "com/example/hot_pool/hotpool/pool/Room" "taken" "I" (.int (0 : Int32)) := D43 (Or.inl (hw _ (List.mem_of_getElem? (i := 21) rfl))) (ty := .int) (by decide)
    have F43_others : Fld Z h43 b43 "com/example/hot_pool/hotpool/pool/Room" "others" "I" (.int (0 : Int32)) := D43 (Or.inl (hw _ (List.mem_of_getElem? (i := 38) rfl))) (ty := .int) (by decide)
    refine own_st st43 ?_
    show own_Go _ _ _ _ T43 (mkF m 7 #[.val (.int p0), .val (.int (3 : Int32)), .unset, .unset] [(.ref b43)])
    refine own_st (fun t k => XS.dup X43.here hx rfl (hb hby at_7) rfl rfl k) ?_
    show own_Go _ _ _ _ T43 (mkF m 8 #[.val (.int p0), .val (.int (3 : Int32)), .unset, .unset] [(.ref b43), (.ref b43)])
    refine own_st (fun t k => XS.aconstNull X43.here hx rfl (hb hby at_8) k) ?_
    show own_Go _ _ _ _ T43 (mkF m 9 #[.val (.int p0), .val (.int (3 : Int32)), .unset, .unset] [.null, (.ref b43), (.ref b43)])
    refine own_st (fun t k => XS.aconstNull X43.here hx rfl (hb hby at_9) k) ?_
    show own_Go _ _ _ _ T43 (mkF m 10 #[.val (.int p0), .val (.int (3 : Int32)), .unset, .unset] [.null, .null, (.ref b43), (.ref b43)])
    have K0_45 := (K0.ext E43)
    obtain ⟨_, _, ⟨T44, L44, k44, n44⟩, -, X44, ⟨Lc44, hQ44, l44, y44, z44⟩, st44⟩ := X43.specialBack hx (y := (⟨"com/example/hot_pool/hotpool/pool/Room", "<init>", "(Lcom/example/hot_pool/hotpool/config/PoolSettings;Lcom/example/hot_pool/hotpool/config/Credentials;)V"⟩ : MethodName)) rfl hown (mvT hZ (hw _ (List.mem_of_getElem? (i := 3) rfl))) (mvT hZ (hw _ (List.mem_of_getElem? (i := 4) rfl))) (mvT hZ (hw _ (List.mem_of_getElem? (i := 5) rfl))) (by decide) (backOf (W := 1) (rm1 l Z a0 hw [] b43  h43 n0 (Nat.le_trans Z0 K0_45.1) A43 F43_settings F43_own F43_closing F43_taken F43_others g_b43) hZ (hw _ (List.mem_of_getElem? (i := 5) rfl)) (hw _ (List.mem_of_getElem? (i := 2) rfl)) (by decide) (by decide)) (g := (mkF m 10 #[.val (.int p0), .val (.int (3 : Int32)), .unset, .unset] [.null, .null, (.ref b43), (.ref b43)])) rfl (by rw [hml]; rfl) (Steps.refl _) (a := b43) (argsL := [.null, .null]) (rest := [(.ref b43)]) (lenOf pd_572933 rfl) rfl (by show 2 * 0 + _ ≤ _; exact Nat.le_of_eq rfl) (hb hby at_10) (fun _ _ => ⟨rfl, e43, (by decide : 1 + 0 ≤ _), (by decide : 6 + 0 ≤ _)⟩)
    dsimp only [Pt.U, Pt.locs, Pt.cells, Pt.slots] at X44 l44 y44 z44 st44 hQ44
    subst l44 y44 z44
    obtain ⟨rfl, N44q, K44, G44_0, G44_1, G44_2, G44_3, G44_4⟩ := hQ44
    have N44 := Fr.app N0 N44q
    refine own_tr st44 ?_
    show own_Go _ _ _ _ T44 (mkF m 13 #[.val (.int p0), .val (.int (3 : Int32)), .unset, .unset] [(.ref b43)])
    refine own_st (fun t k => XS.astoreN X44.here hx rfl (hb hby at_13) rfl rfl (l' := #[.val (.int p0), .val (.int (3 : Int32)), .val (.ref b43), .unset]) rfl k) ?_
    show own_Go _ _ _ _ T44 (mkF m 14 #[.val (.int p0), .val (.int (3 : Int32)), .val (.ref b43), .unset] [])
    refine own_st (fun t k => XS.iloadN X44.here hx rfl (hb hby at_14) rfl k) ?_
    show own_Go _ _ _ _ T44 (mkF m 15 #[.val (.int p0), .val (.int (3 : Int32)), .val (.ref b43), .unset] [(.int (3 : Int32))])
    refine own_st (fun t k => XS.iconst X44.here hx rfl (hb hby at_15) k) ?_
    show own_Go _ _ _ _ T44 (mkF m 16 #[.val (.int p0), .val (.int (3 : Int32)), .val (.ref b43), .unset] [(.int (1 : Int32)), (.int (3 : Int32))])
    refine own_st (fun t k => XS.icmpNo X44.here hx rfl (hb hby at_16) rfl (flt (by decide : ¬ ((3 : Int32) < (1 : Int32)))).1 k) ?_
    show own_Go _ _ _ _ T44 (mkF m 19 #[.val (.int p0), .val (.int (3 : Int32)), .val (.ref b43), .unset] [])
    refine own_st (fun t k => XS.aloadN X44.here hx rfl (hb hby at_19) rfl rfl k) ?_
    show own_Go _ _ _ _ T44 (mkF m 20 #[.val (.int p0), .val (.int (3 : Int32)), .val (.ref b43), .unset] [(.ref b43)])
    have A43_46 := (A43.keep K44)
    have K0_48 := (K0_45.trans K44 (allS ((Or.inr sz_b43)) all0))
    obtain ⟨cq47, kq47, q47a, q47b, q47c⟩ := isOf hZ rfl A43_46
    obtain ⟨_, _, ⟨T47, L47, k47, n47⟩, -, X47, ⟨Lc47, hQ47, l47, y47, z47⟩, st47⟩ := X44.virtualBack hx (y := (⟨"com/example/hot_pool/hotpool/pool/Room", "freeClosed", "()V"⟩ : MethodName)) (z := (⟨"com/example/hot_pool/hotpool/pool/Room", "freeClosed", "()V"⟩ : MethodName)) hown (mvT hZ (hw _ (List.mem_of_getElem? (i := 13) rfl))) (mvT hZ (hw _ (List.mem_of_getElem? (i := 14) rfl))) (notFace_of_selects (args := #[]) (mvT hZ (hw _ (List.mem_of_getElem? (i := 16) rfl)))) (mvT hZ (hw _ (List.mem_of_getElem? (i := 16) rfl))) (mvT hZ (hw _ (List.mem_of_getElem? (i := 15) rfl))) (by decide) (backOf (W := 0) (rm3 l Z a0 hw [] b43 (0 : Int32) (0 : Int32) (0 : Int32)  T44.heap n0 (Nat.le_trans Z0 K0_48.1) A43_46 G44_2 G44_3 G44_4 g_b43) hZ (hw _ (List.mem_of_getElem? (i := 17) rfl)) (hw _ (List.mem_of_getElem? (i := 2) rfl)) (by decide) (by decide)) q47a q47c (g := (mkF m 20 #[.val (.int p0), .val (.int (3 : Int32)), .val (.ref b43), .unset] [(.ref b43)])) rfl (by rw [hml]; rfl) (Steps.refl _) (argsL := []) (rest := []) (lenOf pd__28_29V rfl) rfl (by show 2 * 0 + _ ≤ _; exact Nat.le_of_eq rfl) (hb hby at_20) (fun _ _ => ⟨rfl, rfl, (by decide : 1 + 0 ≤ _), (by decide : 6 + 0 ≤ _)⟩)
    dsimp only [Pt.U, Pt.locs, Pt.cells, Pt.slots] at X47 l47 y47 z47 st47 hQ47
    subst l47 y47 z47
    obtain ⟨rfl, N47q, K47, G47_0, G47_1, G47_2⟩ := hQ47
    have N47 := Fr.app N44 N47q
    refine own_tr st47 ?_
    show own_Go _ _ _ _ T47 (mkF m 23 #[.val (.int p0), .val (.int (3 : Int32)), .val (.ref b43), .unset] [])
    refine own_st (fun t k => XS.iloadN X47.here hx rfl (hb hby at_23) rfl k) ?_
    show own_Go _ _ _ _ T47 (mkF m 24 #[.val (.int p0), .val (.int (3 : Int32)), .val (.ref b43), .unset] [(.int (3 : Int32))])
    refine own_st (fun t k => XS.iconst X47.here hx rfl (hb hby at_24) k) ?_
    show own_Go _ _ _ _ T47 (mkF m 25 #[.val (.int p0), .val (.int (3 : Int32)), .val (.ref b43), .unset] [(.int (2 : Int32)), (.int (3 : Int32))])
    refine own_st (fun t k => XS.icmpNo X47.here hx rfl (hb hby at_25) rfl (flt (by decide : ¬ ((3 : Int32) < (2 : Int32)))).1 k) ?_
    show own_Go _ _ _ _ T47 (mkF m 28 #[.val (.int p0), .val (.int (3 : Int32)), .val (.ref b43), .unset] [])
    refine own_st (fun t k => XS.aloadN X47.here hx rfl (hb hby at_28) rfl rfl k) ?_
    show own_Go _ _ _ _ T47 (mkF m 29 #[.val (.int p0), .val (.int (3 : Int32)), .val (.ref b43), .unset] [(.ref b43)])
    have A43_49 := (A43_46.keep K47)
    have K0_51 := (K0_48.trans K47 (allS ((Or.inr sz_b43)) all0))
    obtain ⟨cq50, kq50, q50a, q50b, q50c⟩ := isOf hZ rfl A43_49
    obtain ⟨_, _, ⟨T50, L50, k50, n50⟩, -, X50, ⟨Lc50, hQ50, l50, y50, z50⟩, st50⟩ := X47.virtualBack hx (y := (⟨"com/example/hot_pool/hotpool/pool/Room", "freeClosed", "()V"⟩ : MethodName)) (z := (⟨"com/example/hot_pool/hotpool/pool/Room", "freeClosed", "()V"⟩ : MethodName)) hown (mvT hZ (hw _ (List.mem_of_getElem? (i := 13) rfl))) (mvT hZ (hw _ (List.mem_of_getElem? (i := 14) rfl))) (notFace_of_selects (args := #[]) (mvT hZ (hw _ (List.mem_of_getElem? (i := 16) rfl)))) (mvT hZ (hw _ (List.mem_of_getElem? (i := 16) rfl))) (mvT hZ (hw _ (List.mem_of_getElem? (i := 15) rfl))) (by decide) (backOf (W := 0) (rm3 l Z a0 hw [] b43 ((0 : Int32) - (1 : Int32)) ((0 : Int32) - (1 : Int32)) (0 : Int32)  T47.heap n0 (Nat.le_trans Z0 K0_51.1) A43_49 G47_0 G47_1 G47_2 g_b43) hZ (hw _ (List.mem_of_getElem? (i := 17) rfl)) (hw _ (List.mem_of_getElem? (i := 2) rfl)) (by decide) (by decide)) q50a q50c (g := (mkF m 29 #[.val (.int p0), .val (.int (3 : Int32)), .val (.ref b43), .unset] [(.ref b43)])) rfl (by rw [hml]; rfl) (Steps.refl _) (argsL := []) (rest := []) (lenOf pd__28_29V rfl) rfl (by show 2 * 0 + _ ≤ _; exact Nat.le_of_eq rfl) (hb hby at_29) (fun _ _ => ⟨rfl, rfl, (by decide : 1 + 0 ≤ _), (by decide : 6 + 0 ≤ _)⟩)
    dsimp only [Pt.U, Pt.locs, Pt.cells, Pt.slots] at X50 l50 y50 z50 st50 hQ50
    subst l50 y50 z50
    obtain ⟨rfl, N50q, K50, G50_0, G50_1, G50_2⟩ := hQ50
    have N50 := Fr.app N47 N50q
    refine own_tr st50 ?_
    show own_Go _ _ _ _ T50 (mkF m 32 #[.val (.int p0), .val (.int (3 : Int32)), .val (.ref b43), .unset] [])
    refine own_st (fun t k => XS.iloadN X50.here hx rfl (hb hby at_32) rfl k) ?_
    show own_Go _ _ _ _ T50 (mkF m 33 #[.val (.int p0), .val (.int (3 : Int32)), .val (.ref b43), .unset] [(.int (3 : Int32))])
    refine own_st (fun t k => XS.iconst X50.here hx rfl (hb hby at_33) k) ?_
    show own_Go _ _ _ _ T50 (mkF m 34 #[.val (.int p0), .val (.int (3 : Int32)), .val (.ref b43), .unset] [(.int (3 : Int32)), (.int (3 : Int32))])
    refine own_st (fun t k => XS.icmpNo X50.here hx rfl (hb hby at_34) rfl (flt (by decide : ¬ ((3 : Int32) < (3 : Int32)))).1 k) ?_
    show own_Go _ _ _ _ T50 (mkF m 37 #[.val (.int p0), .val (.int (3 : Int32)), .val (.ref b43), .unset] [])
    refine own_st (fun t k => XS.aloadN X50.here hx rfl (hb hby at_37) rfl rfl k) ?_
    show own_Go _ _ _ _ T50 (mkF m 38 #[.val (.int p0), .val (.int (3 : Int32)), .val (.ref b43), .unset] [(.ref b43)])
    have A43_52 := (A43_49.keep K50)
    have K0_54 := (K0_51.trans K50 (allS ((Or.inr sz_b43)) all0))
    obtain ⟨cq53, kq53, q53a, q53b, q53c⟩ := isOf hZ rfl A43_52
    obtain ⟨_, _, ⟨T53, L53, k53, n53⟩, -, X53, ⟨Lc53, hQ53, l53, y53, z53⟩, st53⟩ := X50.virtualBack hx (y := (⟨"com/example/hot_pool/hotpool/pool/Room", "freeClosed", "()V"⟩ : MethodName)) (z := (⟨"com/example/hot_pool/hotpool/pool/Room", "freeClosed", "()V"⟩ : MethodName)) hown (mvT hZ (hw _ (List.mem_of_getElem? (i := 13) rfl))) (mvT hZ (hw _ (List.mem_of_getElem? (i := 14) rfl))) (notFace_of_selects (args := #[]) (mvT hZ (hw _ (List.mem_of_getElem? (i := 16) rfl)))) (mvT hZ (hw _ (List.mem_of_getElem? (i := 16) rfl))) (mvT hZ (hw _ (List.mem_of_getElem? (i := 15) rfl))) (by decide) (backOf (W := 0) (rm3 l Z a0 hw [] b43 (((0 : Int32) - (1 : Int32)) - (1 : Int32)) (((0 : Int32) - (1 : Int32)) - (1 : Int32)) (0 : Int32)  T50.heap n0 (Nat.le_trans Z0 K0_54.1) A43_52 G50_0 G50_1 G50_2 g_b43) hZ (hw _ (List.mem_of_getElem? (i := 17) rfl)) (hw _ (List.mem_of_getElem? (i := 2) rfl)) (by decide) (by decide)) q53a q53c (g := (mkF m 38 #[.val (.int p0), .val (.int (3 : Int32)), .val (.ref b43), .unset] [(.ref b43)])) rfl (by rw [hml]; rfl) (Steps.refl _) (argsL := []) (rest := []) (lenOf pd__28_29V rfl) rfl (by show 2 * 0 + _ ≤ _; exact Nat.le_of_eq rfl) (hb hby at_38) (fun _ _ => ⟨rfl, rfl, (by decide : 1 + 0 ≤ _), (by decide : 6 + 0 ≤ _)⟩)
    dsimp only [Pt.U, Pt.locs, Pt.cells, Pt.slots] at X53 l53 y53 z53 st53 hQ53
    subst l53 y53 z53
    obtain ⟨rfl, N53q, K53, G53_0, G53_1, G53_2⟩ := hQ53
    have N53 := Fr.app N50 N53q
    refine own_tr st53 ?_
    show own_Go _ _ _ _ T53 (mkF m 41 #[.val (.int p0), .val (.int (3 : Int32)), .val (.ref b43), .unset] [])
    refine own_st (fun t k => XS.aloadN X53.here hx rfl (hb hby at_41) rfl rfl k) ?_
    show own_Go _ _ _ _ T53 (mkF m 42 #[.val (.int p0), .val (.int (3 : Int32)), .val (.ref b43), .unset] [(.ref b43)])
    have A43_55 := (A43_52.keep K53)
    have K0_57 := (K0_54.trans K53 (allS ((Or.inr sz_b43)) all0))
    obtain ⟨cq56, kq56, q56a, q56b, q56c⟩ := isOf hZ rfl A43_55
    obtain ⟨_, _, ⟨T56, L56, k56, n56⟩, -, X56, ⟨Lc56, hQ56, l56, y56, z56⟩, st56⟩ := X53.virtualBack hx (y := (⟨"com/example/hot_pool/hotpool/pool/Room", "freeClosed", "()V"⟩ : MethodName)) (z := (⟨"com/example/hot_pool/hotpool/pool/Room", "freeClosed", "()V"⟩ : MethodName)) hown (mvT hZ (hw _ (List.mem_of_getElem? (i := 13) rfl))) (mvT hZ (hw _ (List.mem_of_getElem? (i := 14) rfl))) (notFace_of_selects (args := #[]) (mvT hZ (hw _ (List.mem_of_getElem? (i := 16) rfl)))) (mvT hZ (hw _ (List.mem_of_getElem? (i := 16) rfl))) (mvT hZ (hw _ (List.mem_of_getElem? (i := 15) rfl))) (by decide) (backOf (W := 0) (rm3 l Z a0 hw [] b43 ((((0 : Int32) - (1 : Int32)) - (1 : Int32)) - (1 : Int32)) ((((0 : Int32) - (1 : Int32)) - (1 : Int32)) - (1 : Int32)) (0 : Int32)  T53.heap n0 (Nat.le_trans Z0 K0_57.1) A43_55 G53_0 G53_1 G53_2 g_b43) hZ (hw _ (List.mem_of_getElem? (i := 17) rfl)) (hw _ (List.mem_of_getElem? (i := 2) rfl)) (by decide) (by decide)) q56a q56c (g := (mkF m 42 #[.val (.int p0), .val (.int (3 : Int32)), .val (.ref b43), .unset] [(.ref b43)])) rfl (by rw [hml]; rfl) (Steps.refl _) (argsL := []) (rest := []) (lenOf pd__28_29V rfl) rfl (by show 2 * 0 + _ ≤ _; exact Nat.le_of_eq rfl) (hb hby at_42) (fun _ _ => ⟨rfl, rfl, (by decide : 1 + 0 ≤ _), (by decide : 6 + 0 ≤ _)⟩)
    dsimp only [Pt.U, Pt.locs, Pt.cells, Pt.slots] at X56 l56 y56 z56 st56 hQ56
    subst l56 y56 z56
    obtain ⟨rfl, N56q, K56, G56_0, G56_1, G56_2⟩ := hQ56
    have N56 := Fr.app N53 N56q
    refine own_tr st56 ?_
    show own_Go _ _ _ _ T56 (mkF m 45 #[.val (.int p0), .val (.int (3 : Int32)), .val (.ref b43), .unset] [])
    refine own_st (fun t k => XS.iloadN X56.here hx rfl (hb hby at_45) rfl k) ?_
    show own_Go _ _ _ _ T56 (mkF m 46 #[.val (.int p0), .val (.int (3 : Int32)), .val (.ref b43), .unset] [(.int (3 : Int32))])
    refine own_st (fun t k => XS.iconst X56.here hx rfl (hb hby at_46) k) ?_
    show own_Go _ _ _ _ T56 (mkF m 47 #[.val (.int p0), .val (.int (3 : Int32)), .val (.ref b43), .unset] [(.int (1 : Int32)), (.int (3 : Int32))])
    refine own_st (fun t k => XS.iadd X56.here hx rfl (hb hby at_47) rfl k) ?_
    show own_Go _ _ _ _ T56 (mkF m 48 #[.val (.int p0), .val (.int (3 : Int32)), .val (.ref b43), .unset] [(.int ((3 : Int32) + (1 : Int32)))])
    refine own_st (fun t k => XS.ineg X56.here hx rfl (hb hby at_48) rfl k) ?_
    show own_Go _ _ _ _ T56 (mkF m 49 #[.val (.int p0), .val (.int (3 : Int32)), .val (.ref b43), .unset] [(.int (-((3 : Int32) + (1 : Int32))))])
    refine own_st (fun t k => XS.istoreN X56.here hx rfl (hb hby at_49) rfl (l' := #[.val (.int p0), .val (.int (3 : Int32)), .val (.ref b43), .val (.int (-((3 : Int32) + (1 : Int32))))]) rfl k) ?_
    show own_Go _ _ _ _ T56 (mkF m 50 #[.val (.int p0), .val (.int (3 : Int32)), .val (.ref b43), .val (.int (-((3 : Int32) + (1 : Int32))))] [])
    refine own_st (fun t k => XS.aloadN X56.here hx rfl (hb hby at_50) rfl rfl k) ?_
    show own_Go _ _ _ _ T56 (mkF m 51 #[.val (.int p0), .val (.int (3 : Int32)), .val (.ref b43), .val (.int (-((3 : Int32) + (1 : Int32))))] [(.ref b43)])
    have K0_59 := (K0_57.trans K56 (allS ((Or.inr sz_b43)) all0))
    have A43_60 := (A43_55.keep K56)
    obtain ⟨cq58, kq58, q58a, q58b, q58c⟩ := isOf hZ rfl A43_60
    obtain ⟨_, _, ⟨T58, L58, k58, n58⟩, -, X58, ⟨Lc58, hQ58, l58, y58, z58⟩, st58⟩ := X56.virtualBack hx (y := (⟨"com/example/hot_pool/hotpool/pool/Room", "taken", "()I"⟩ : MethodName)) (z := (⟨"com/example/hot_pool/hotpool/pool/Room", "taken", "()I"⟩ : MethodName)) hown (mvT hZ (hw _ (List.mem_of_getElem? (i := 22) rfl))) (mvT hZ (hw _ (List.mem_of_getElem? (i := 23) rfl))) (notFace_of_selects (args := #[]) (mvT hZ (hw _ (List.mem_of_getElem? (i := 25) rfl)))) (mvT hZ (hw _ (List.mem_of_getElem? (i := 25) rfl))) (mvT hZ (hw _ (List.mem_of_getElem? (i := 24) rfl))) (by decide) (backOf (W := 0) (rm4 l Z a0 hw [] b43 (((((0 : Int32) - (1 : Int32)) - (1 : Int32)) - (1 : Int32)) - (1 : Int32))  T56.heap n0 (Nat.le_trans Z0 K0_59.1) G56_1) hZ (hw _ (List.mem_of_getElem? (i := 26) rfl)) (hw _ (List.mem_of_getElem? (i := 2) rfl)) (by decide) (by decide)) q58a q58c (g := (mkF m 51 #[.val (.int p0), .val (.int (3 : Int32)), .val (.ref b43), .val (.int (-((3 : Int32) + (1 : Int32))))] [(.ref b43)])) rfl (by rw [hml]; rfl) (Steps.refl _) (argsL := []) (rest := []) (lenOf pd__28_29I rfl) rfl (by show 2 * 0 + _ ≤ _; exact Nat.le_of_eq rfl) (hb hby at_51) (fun _ _ => ⟨rfl, rfl, (by decide : 1 + 0 ≤ _), (by decide : 6 + 0 ≤ _)⟩)
    dsimp only [Pt.U, Pt.locs, Pt.cells, Pt.slots] at X58 l58 y58 z58 st58 hQ58
    subst l58 y58 z58
    obtain ⟨rfl, N58q, e58⟩ := hQ58
    have N58 := Fr.app N56 N58q
    refine own_tr st58 ?_
    show own_Go _ _ _ _ T58 (mkF m 54 #[.val (.int p0), .val (.int (3 : Int32)), .val (.ref b43), .val (.int (-((3 : Int32) + (1 : Int32))))] [(.int (((((0 : Int32) - (1 : Int32)) - (1 : Int32)) - (1 : Int32)) - (1 : Int32)))])
    refine own_st (fun t k => XS.iloadN X58.here hx rfl (hb hby at_54) rfl k) ?_
    show own_Go _ _ _ _ T58 (mkF m 55 #[.val (.int p0), .val (.int (3 : Int32)), .val (.ref b43), .val (.int (-((3 : Int32) + (1 : Int32))))] [(.int (-((3 : Int32) + (1 : Int32)))), (.int (((((0 : Int32) - (1 : Int32)) - (1 : Int32)) - (1 : Int32)) - (1 : Int32)))])
    refine own_st (fun t k => XS.icmpNo X58.here hx rfl (hb hby at_55) rfl (teq (by decide : (((((0 : Int32) - (1 : Int32)) - (1 : Int32)) - (1 : Int32)) - (1 : Int32)) = (-((3 : Int32) + (1 : Int32))))).2 k) ?_
    show own_Go _ _ _ _ T58 (mkF m 58 #[.val (.int p0), .val (.int (3 : Int32)), .val (.ref b43), .val (.int (-((3 : Int32) + (1 : Int32))))] [])
    refine own_st (fun t k => XS.aloadN X58.here hx rfl (hb hby at_58) rfl rfl k) ?_
    show own_Go _ _ _ _ T58 (mkF m 59 #[.val (.int p0), .val (.int (3 : Int32)), .val (.ref b43), .val (.int (-((3 : Int32) + (1 : Int32))))] [(.ref b43)])
    obtain ⟨cq61, kq61, q61a, q61b, q61c⟩ := isOf hZ e58 A43_60
    obtain ⟨_, _, ⟨T61, L61, k61, n61⟩, -, X61, ⟨Lc61, hQ61, l61, y61, z61⟩, st61⟩ := X58.virtualBack hx (y := (⟨"com/example/hot_pool/hotpool/pool/Room", "holding", "()I"⟩ : MethodName)) (z := (⟨"com/example/hot_pool/hotpool/pool/Room", "holding", "()I"⟩ : MethodName)) hown (mvT hZ (hw _ (List.mem_of_getElem? (i := 27) rfl))) (mvT hZ (hw _ (List.mem_of_getElem? (i := 28) rfl))) (notFace_of_selects (args := #[]) (mvT hZ (hw _ (List.mem_of_getElem? (i := 30) rfl)))) (mvT hZ (hw _ (List.mem_of_getElem? (i := 30) rfl))) (mvT hZ (hw _ (List.mem_of_getElem? (i := 29) rfl))) (by decide) (backOf (W := 0) (rm5 l Z a0 hw [] b43 (((((0 : Int32) - (1 : Int32)) - (1 : Int32)) - (1 : Int32)) - (1 : Int32)) (((((0 : Int32) - (1 : Int32)) - (1 : Int32)) - (1 : Int32)) - (1 : Int32))  T56.heap n0 (Nat.le_trans Z0 K0_59.1) G56_0 G56_1) hZ (hw _ (List.mem_of_getElem? (i := 31) rfl)) (hw _ (List.mem_of_getElem? (i := 2) rfl)) (by decide) (by decide)) q61a q61c (g := (mkF m 59 #[.val (.int p0), .val (.int (3 : Int32)), .val (.ref b43), .val (.int (-((3 : Int32) + (1 : Int32))))] [(.ref b43)])) rfl (by rw [hml]; rfl) (Steps.refl _) (argsL := []) (rest := []) (lenOf pd__28_29I rfl) rfl (by show 2 * 0 + _ ≤ _; exact Nat.le_of_eq rfl) (hb hby at_59) (fun _ _ => ⟨rfl, e58, (by decide : 1 + 0 ≤ _), (by decide : 6 + 0 ≤ _)⟩)
    dsimp only [Pt.U, Pt.locs, Pt.cells, Pt.slots] at X61 l61 y61 z61 st61 hQ61
    subst l61 y61 z61
    obtain ⟨rfl, N61q, e61⟩ := hQ61
    have N61 := Fr.app N58 N61q
    refine own_tr st61 ?_
    show own_Go _ _ _ _ T61 (mkF m 62 #[.val (.int p0), .val (.int (3 : Int32)), .val (.ref b43), .val (.int (-((3 : Int32) + (1 : Int32))))] [(.int ((((((0 : Int32) - (1 : Int32)) - (1 : Int32)) - (1 : Int32)) - (1 : Int32)) - (((((0 : Int32) - (1 : Int32)) - (1 : Int32)) - (1 : Int32)) - (1 : Int32))))])
    refine own_st (fun t k => XS.ifNo X61.here hx rfl (hb hby at_62) rfl ((if0 _ _).trans (teq (by decide : ((((((0 : Int32) - (1 : Int32)) - (1 : Int32)) - (1 : Int32)) - (1 : Int32)) - (((((0 : Int32) - (1 : Int32)) - (1 : Int32)) - (1 : Int32)) - (1 : Int32))) = (0 : Int32))).2) k) ?_
    show own_Go _ _ _ _ T61 (mkF m 65 #[.val (.int p0), .val (.int (3 : Int32)), .val (.ref b43), .val (.int (-((3 : Int32) + (1 : Int32))))] [])
    refine own_st (fun t k => XS.aloadN X61.here hx rfl (hb hby at_65) rfl rfl k) ?_
    show own_Go _ _ _ _ T61 (mkF m 66 #[.val (.int p0), .val (.int (3 : Int32)), .val (.ref b43), .val (.int (-((3 : Int32) + (1 : Int32))))] [(.ref b43)])
    obtain ⟨cq62, kq62, q62a, q62b, q62c⟩ := isOf hZ e61 A43_60
    obtain ⟨_, _, ⟨T62, L62, k62, n62⟩, -, X62, ⟨Lc62, hQ62, l62, y62, z62⟩, st62⟩ := X61.virtualBack hx (y := (⟨"com/example/hot_pool/hotpool/pool/Room", "holdingOwn", "()I"⟩ : MethodName)) (z := (⟨"com/example/hot_pool/hotpool/pool/Room", "holdingOwn", "()I"⟩ : MethodName)) hown (mvT hZ (hw _ (List.mem_of_getElem? (i := 32) rfl))) (mvT hZ (hw _ (List.mem_of_getElem? (i := 33) rfl))) (notFace_of_selects (args := #[]) (mvT hZ (hw _ (List.mem_of_getElem? (i := 35) rfl)))) (mvT hZ (hw _ (List.mem_of_getElem? (i := 35) rfl))) (mvT hZ (hw _ (List.mem_of_getElem? (i := 34) rfl))) (by decide) (backOf (W := 0) (rm6 l Z a0 hw [] b43 (((((0 : Int32) - (1 : Int32)) - (1 : Int32)) - (1 : Int32)) - (1 : Int32)) (((((0 : Int32) - (1 : Int32)) - (1 : Int32)) - (1 : Int32)) - (1 : Int32)) (0 : Int32)  T56.heap n0 (Nat.le_trans Z0 K0_59.1) G56_0 G56_1 G56_2) hZ (hw _ (List.mem_of_getElem? (i := 36) rfl)) (hw _ (List.mem_of_getElem? (i := 2) rfl)) (by decide) (by decide)) q62a q62c (g := (mkF m 66 #[.val (.int p0), .val (.int (3 : Int32)), .val (.ref b43), .val (.int (-((3 : Int32) + (1 : Int32))))] [(.ref b43)])) rfl (by rw [hml]; rfl) (Steps.refl _) (argsL := []) (rest := []) (lenOf pd__28_29I rfl) rfl (by show 2 * 0 + _ ≤ _; exact Nat.le_of_eq rfl) (hb hby at_66) (fun _ _ => ⟨rfl, e61, (by decide : 1 + 0 ≤ _), (by decide : 6 + 0 ≤ _)⟩)
    dsimp only [Pt.U, Pt.locs, Pt.cells, Pt.slots] at X62 l62 y62 z62 st62 hQ62
    subst l62 y62 z62
    obtain ⟨rfl, N62q, e62⟩ := hQ62
    have N62 := Fr.app N61 N62q
    refine own_tr st62 ?_
    show own_Go _ _ _ _ T62 (mkF m 69 #[.val (.int p0), .val (.int (3 : Int32)), .val (.ref b43), .val (.int (-((3 : Int32) + (1 : Int32))))] [(.int (((((((0 : Int32) - (1 : Int32)) - (1 : Int32)) - (1 : Int32)) - (1 : Int32)) - (((((0 : Int32) - (1 : Int32)) - (1 : Int32)) - (1 : Int32)) - (1 : Int32))) - (0 : Int32)))])
    refine own_st (fun t k => XS.ifNo X62.here hx rfl (hb hby at_69) rfl ((if0 _ _).trans (teq (by decide : (((((((0 : Int32) - (1 : Int32)) - (1 : Int32)) - (1 : Int32)) - (1 : Int32)) - (((((0 : Int32) - (1 : Int32)) - (1 : Int32)) - (1 : Int32)) - (1 : Int32))) - (0 : Int32)) = (0 : Int32))).2) k) ?_
    show own_Go _ _ _ _ T62 (mkF m 72 #[.val (.int p0), .val (.int (3 : Int32)), .val (.ref b43), .val (.int (-((3 : Int32) + (1 : Int32))))] [])
    refine own_st (fun t k => XS.iconst X62.here hx rfl (hb hby at_72) k) ?_
    show own_Go _ _ _ _ T62 (mkF m 73 #[.val (.int p0), .val (.int (3 : Int32)), .val (.ref b43), .val (.int (-((3 : Int32) + (1 : Int32))))] [(.int (1 : Int32))])
    refine own_st (fun t k => XS.goto X62.here hx rfl (pc0 := 73) (pc' := 77) rfl (hb hby at_73) (by decide) (by decide) k) ?_
    show own_Go _ _ _ _ T62 (mkF m 77 #[.val (.int p0), .val (.int (3 : Int32)), .val (.ref b43), .val (.int (-((3 : Int32) + (1 : Int32))))] [(.int (1 : Int32))])
    exact own_retN X62 hx hlk (t := .boolean) hrt (by simp) (hb hby at_77) ⟨rfl, N62⟩ (by decide) (by decide)
set_option maxRecDepth 65536 in
set_option maxHeartbeats 40000000 in
theorem comes_1 {Post : Tables → Env → Array Value → State → Outcome → State → Prop} (hpost : ∀ tb e args s v u, (limb_1_1.after args s (.returned v) u = true ∧ limb_1_2.after args s (.returned v) u = true ∧ True) → FrameEnd s (.returned v) u (Jvm.fieldLocs frame_1_writes args s ++ Jvm.arrayLocs frame_1_arrays args s ++ Jvm.staticLocs frame_1_statics s) 16 128 → Post tb e args s (.returned v) u) :
    ArmFor flags0 classFile x code maxLocals ret World_1 tables_1 room_1 Calls_1 rest_1 Pre_1 Post := by
  intro l hfl _ _ p e ha hc hk s m args below hf hA hF happ hP
  obtain ⟨hcalls, hrest, hpre⟩ := hP
  obtain ⟨-, -, -, hnamed, -, -, -, hat⟩ := (Spec.applies_iff hf).mp happ
  obtain ⟨hg, hn⟩ := and_e (Cond.before_iff.mp (show (Jvm.Cond.and given_1 narrow_1).before args s = true from hpre))
  obtain ⟨gc, gr0⟩ := and_e hg
  obtain ⟨w0, rfl⟩ : ∃ w0 : Value, args = #[w0] := by
    have hs : args.size = 1 := by simpa [Cond.value, given_1] using gc
    obtain ⟨L⟩ := args
    match L, hs with
    | [w0], _ => exact ⟨w0, rfl⟩
  have hw := fun d (hd : d ∈ tables_1) => atoms_spec (ws := Jvm.Cond.code x code maxLocals ret :: tables_1) hat d (List.mem_cons_of_mem _ hd)
  have hfit : Fit s := fun {y c} hc i hi => by
    obtain ⟨ha, rfl⟩ := Array.getElem?_eq_some_iff.mp hc
    have q := List.all_eq_true.mp ((Array.all_eq_true_iff_forall_mem.mp hF) _ (Array.getElem_mem ha)) i (List.mem_range.mpr hi)
    simpa [Array.getElem?_eq_getElem hi] using q
  obtain ⟨i0, ei0⟩ := is_v gr0
  obtain rfl : w0 = (.int i0) := Option.some.inj ei0
  obtain ⟨n, o, h1, h2, h3, _, L, rfl, ⟨rfl, N⟩, hq⟩ := rm0 l s _ hw tables_1 i0  s.heap s.heap.size (Nat.le_refl _)  p e ha hc hk s m _ below hf ((Spec.applies_iff_loose hf).mp happ).1 ⟨rfl, State.Warmed39.refl s, rfl⟩ trivial
  refine ⟨n, _, h1, h2, h3, hpost _ _ _ _ _ _ ⟨Cond.after_iff.mpr rfl, Cond.after_iff.mpr (eq_i res_at (Term.int_eval (1)) rfl), trivial⟩ ⟨hq.1, hq.2.1, (hq.2.2.sift fun y hy => Or.inr (N y hy)).mono (by decide) (by decide)⟩⟩
theorem main_1_1 : Claimed_1_1 := comes_1 fun _ _ _ _ _ _ h hF => ⟨h.1, hF⟩
theorem main_1_2 : Claimed_1_2 := comes_1 fun _ _ _ _ _ _ h hF => ⟨h.2.1, hF⟩
end Jvm.Pilot.@@N@@
namespace Jvm.Pilot.@@N@@
open Jvm Jvm.ClassFile Sem Op Lib Jvm.Free Jvm.Stand Jvm.Pilot.@@N@@.Jvm.D
/-! MADE BY PROGRAM (witnessworld.py) out of the Statement's table words and the real class files: 9 classes; the members and pool entries that the words name. The judged class is class 1, her method 1. -/
namespace start1
open Jvm.ClassFile
def u (s : String) : CpInfo := .utf8 (stringToUtf16 s)
/-- a pool by its gaps: so many unusable entries, then the entry; so many at the end -/
def gap : Nat → List CpInfo → List CpInfo
  | 0, r => r
  | n + 1, r => .unusable :: gap n r
def poolList (es : List (Nat × CpInfo)) (last : Nat) : List CpInfo := es.foldr (fun e r => gap e.1 (e.2 :: r)) (gap last [])
def pool (es : List (Nat × CpInfo)) (last : Nat) : Array CpInfo := ⟨poolList es last⟩
def fileOf (pool : Array CpInfo) (this : Nat) (attrs : Array Attribute := #[]) (ms : Array MethodInfo := #[]) (fl : Nat := 33) (sup : Nat := 0) (ifs : Array Nat := #[]) (fds : Array FieldInfo := #[]) : ClassFile where
  minorVersion := 0
  majorVersion := 65
  constantPool := pool
  accessFlags := fl
  thisClass := this
  superClass := sup
  interfaces := ifs
  fields := fds
  methods := ms
  attributes := attrs
def plain (name : String) (sup : Option ClassId) : Class where
  name := name
  kind := .ordinary
  loader := none
  accessFlags := 33
  super := sup
  interfaces := #[]
  cf := none
  fields := #[]
  methods := #[]
  instanceTypes := #[]
  staticTypes := #[]
  resolved := #[]
  callSites := []
  init := .initialized
  statics := none
  mirror := none

def pool0 : Array CpInfo := pool [(5, u "<init>"), (0, u "()V"), (1, .class_ 10), (1, u "java/lang/Object")] 113

def k0c0 : Code := { maxStack := 0, maxLocals := 1, code := object_method_1_code, exceptionTable := #[], attributes := #[] }
def k0m0 : Method := { name := "<init>", desc := "()V", sig := { parameters := [], returnType := none }, accessFlags := 1, code := some k0c0 }
/-- java/lang/Object -/
def k0 : Class := { plain "java/lang/Object" none with
  accessFlags := 33
  interfaces := #[]
  cf := some (fileOf pool0 8 #[] #[{ accessFlags := 1, nameIndex := 5, descriptorIndex := 6, attributes := #[] }] 33 0 #[] #[])
  fields := #[]
  methods := #[k0m0]
  instanceTypes := #[]
  staticTypes := #[]
  resolved := Array.replicate 124 none
  statics := none }

def pool1 : Array CpInfo := pool [(2, .class_ 4), (1, u "java/lang/Object"), (0, u "<init>"), (0, u "()V"), (0, .class_ 8), (0, u "com/example/hot_pool/hotpool/pool/Room"), (0, .methodref 7 10), (0, .nameAndType 5 11), (0, u "(Lcom/example/hot_pool/hotpool/config/PoolSettings;Lcom/example/hot_pool/hotpool/config/Credentials;)V"), (0, .methodref 7 13), (0, .nameAndType 14 6), (0, u "freeClosed"), (0, .methodref 7 16), (0, .nameAndType 17 18), (0, u "taken"), (0, u "()I"), (0, .methodref 7 20), (0, .nameAndType 21 18), (0, u "holding"), (0, .methodref 7 23), (0, .nameAndType 24 18), (0, u "holdingOwn"), (0, .class_ 26), (0, u "com/example/hot_pool/hotpool/pool/RoomFreeClosedPinLaw"), (2, u "law"), (0, u "(I)Z")] 3

def k1m0 : Method := { name := "<init>", desc := "()V", sig := { parameters := [], returnType := none }, accessFlags := 1, code := none }
def k1c1 : Code := { maxStack := 4, maxLocals := 4, code := code, exceptionTable := #[], attributes := #[] }
def k1m1 : Method := { name := "law", desc := "(I)Z", sig := { parameters := [.int], returnType := some .boolean }, accessFlags := 9, code := some k1c1 }
/-- com/example/hot_pool/hotpool/pool/RoomFreeClosedPinLaw -/
def k1 : Class := { plain "com/example/hot_pool/hotpool/pool/RoomFreeClosedPinLaw" (some 0) with
  accessFlags := 49
  interfaces := #[]
  cf := some (fileOf pool1 25 #[] #[{ accessFlags := 1, nameIndex := 5, descriptorIndex := 6, attributes := #[] }, { accessFlags := 9, nameIndex := 29, descriptorIndex := 30, attributes := #[] }] 49 2 #[] #[])
  fields := #[]
  methods := #[k1m0, k1m1]
  instanceTypes := #[]
  staticTypes := #[]
  resolved := Array.replicate 34 none
  statics := none }

def pool2 : Array CpInfo := pool [(1, .methodref 2 3), (0, .class_ 4), (0, .nameAndType 5 6), (0, u "java/lang/Object"), (0, u "<init>"), (0, u "()V"), (0, .fieldref 8 9), (0, .class_ 10), (0, .nameAndType 11 12), (0, u "com/example/hot_pool/hotpool/pool/Room"), (0, u "settings"), (0, u "Lcom/example/hot_pool/hotpool/config/PoolSettings;"), (0, .fieldref 8 14), (0, .nameAndType 15 16), (0, u "own"), (0, u "Lcom/example/hot_pool/hotpool/config/Credentials;"), (4, .fieldref 8 22), (0, .nameAndType 23 24), (0, u "taken"), (0, u "I"), (6, u "pendingFloor"), (8, u "holdingOwn"), (0, u "()I"), (4, .fieldref 8 47), (0, .nameAndType 48 24), (0, u "closing"), (5, .fieldref 8 55), (0, .nameAndType 56 24), (0, u "others"), (5, u "holding"), (6, u "(Lcom/example/hot_pool/hotpool/config/PoolSettings;Lcom/example/hot_pool/hotpool/config/Credentials;)V"), (8, u "freeClosed")] 5

def k2c0 : Code := { maxStack := 2, maxLocals := 3, code := prog_41_method_1_code, exceptionTable := #[], attributes := #[] }
def k2m0 : Method := { name := "<init>", desc := "(Lcom/example/hot_pool/hotpool/config/PoolSettings;Lcom/example/hot_pool/hotpool/config/Credentials;)V", sig := { parameters := [(.object "com/example/hot_pool/hotpool/config/PoolSettings"), (.object "com/example/hot_pool/hotpool/config/Credentials")], returnType := none }, accessFlags := 0, code := some k2c0 }
def k2c1 : Code := { maxStack := 3, maxLocals := 1, code := prog_41_method_6_code, exceptionTable := #[], attributes := #[] }
def k2m1 : Method := { name := "freeClosed", desc := "()V", sig := { parameters := [], returnType := none }, accessFlags := 0, code := some k2c1 }
def k2c2 : Code := { maxStack := 2, maxLocals := 1, code := prog_41_method_9_code, exceptionTable := #[], attributes := #[] }
def k2m2 : Method := { name := "holding", desc := "()I", sig := { parameters := [], returnType := some .int }, accessFlags := 0, code := some k2c2 }
def k2c3 : Code := { maxStack := 2, maxLocals := 1, code := prog_41_method_10_code, exceptionTable := #[], attributes := #[] }
def k2m3 : Method := { name := "holdingOwn", desc := "()I", sig := { parameters := [], returnType := some .int }, accessFlags := 0, code := some k2c3 }
def k2c4 : Code := { maxStack := 1, maxLocals := 1, code := prog_41_method_11_code, exceptionTable := #[], attributes := #[] }
def k2m4 : Method := { name := "taken", desc := "()I", sig := { parameters := [], returnType := some .int }, accessFlags := 0, code := some k2c4 }
/-- com/example/hot_pool/hotpool/pool/Room -/
def k2 : Class := { plain "com/example/hot_pool/hotpool/pool/Room" (some 0) with
  accessFlags := 48
  interfaces := #[]
  cf := some (fileOf pool2 8 #[] #[{ accessFlags := 0, nameIndex := 5, descriptorIndex := 69, attributes := #[] }, { accessFlags := 0, nameIndex := 78, descriptorIndex := 6, attributes := #[] }, { accessFlags := 0, nameIndex := 62, descriptorIndex := 41, attributes := #[] }, { accessFlags := 0, nameIndex := 40, descriptorIndex := 41, attributes := #[] }, { accessFlags := 0, nameIndex := 23, descriptorIndex := 41, attributes := #[] }] 48 2 #[] #[{ accessFlags := 18, nameIndex := 11, descriptorIndex := 12, attributes := #[] }, { accessFlags := 18, nameIndex := 15, descriptorIndex := 16, attributes := #[] }, { accessFlags := 66, nameIndex := 23, descriptorIndex := 24, attributes := #[] }, { accessFlags := 66, nameIndex := 48, descriptorIndex := 24, attributes := #[] }, { accessFlags := 2, nameIndex := 56, descriptorIndex := 24, attributes := #[] }, { accessFlags := 2, nameIndex := 31, descriptorIndex := 24, attributes := #[] }])
  fields := #[{ name := "settings", type := (.object "com/example/hot_pool/hotpool/config/PoolSettings"), accessFlags := 18, slot := 0, constantValue := 0 }, { name := "own", type := (.object "com/example/hot_pool/hotpool/config/Credentials"), accessFlags := 18, slot := 1, constantValue := 0 }, { name := "taken", type := .int, accessFlags := 66, slot := 2, constantValue := 0 }, { name := "closing", type := .int, accessFlags := 66, slot := 3, constantValue := 0 }, { name := "others", type := .int, accessFlags := 2, slot := 4, constantValue := 0 }, { name := "pendingFloor", type := .int, accessFlags := 2, slot := 5, constantValue := 0 }]
  methods := #[k2m0, k2m1, k2m2, k2m3, k2m4]
  instanceTypes := #[(.object "com/example/hot_pool/hotpool/config/PoolSettings"), (.object "com/example/hot_pool/hotpool/config/Credentials"), .int, .int, .int, .int]
  staticTypes := #[]
  resolved := Array.replicate 84 none
  statics := none }

def pool3 : Array CpInfo := pool [(1, u "java/lang/Cloneable"), (0, .class_ 1), (0, u "java/lang/Object"), (0, .class_ 3)] 3

/-- java/lang/Cloneable -/
def k3 : Class := { plain "java/lang/Cloneable" (some 0) with
  accessFlags := 1537
  interfaces := #[]
  cf := some (fileOf pool3 2 #[] #[] 1537 4 #[] #[])
  fields := #[]
  methods := #[]
  instanceTypes := #[]
  staticTypes := #[]
  resolved := Array.replicate 8 none
  statics := none }

def pool4 : Array CpInfo := pool [(1, u "java/io/Serializable"), (0, .class_ 1), (0, u "java/lang/Object"), (0, .class_ 3)] 3

/-- java/io/Serializable -/
def k4 : Class := { plain "java/io/Serializable" (some 0) with
  accessFlags := 1537
  interfaces := #[]
  cf := some (fileOf pool4 2 #[] #[] 1537 4 #[] #[])
  fields := #[]
  methods := #[]
  instanceTypes := #[]
  staticTypes := #[]
  resolved := Array.replicate 8 none
  statics := none }

/-- the primitive byte -/
def k5 : Class := { plain "byte" none with kind := .primitive 'B', accessFlags := 0x411 }
/-- [B -/
def k6 : Class := { plain "[B" (some 0) with kind := .array 5 .byte, interfaces := #[3, 4], accessFlags := 1041 }

/-- the primitive int -/
def k7 : Class := { plain "int" none with kind := .primitive 'I', accessFlags := 0x411 }
/-- [I -/
def k8 : Class := { plain "[I" (some 0) with kind := .array 7 .int, interfaces := #[3, 4], accessFlags := 1041 }

def heap : Heap := #[]
def classes : Array Class := #[k0, k1, k2, k3, k4, k5, k6, k7, k8]
def interned : List (Array UInt16 × Addr) := []
def slotsUsed : Nat := 0
def theMethod : MethodId := ⟨1, 1⟩
def args0 : Array Value := #[.int 5]
def aboutOver (below : List Frame) : State where
  vm := { classes := classes, interned := interned.toArray }
  heap := heap
  slotsUsed := slotsUsed
  threads := #[{ frames := .invoking theMethod args0 :: below }]
def below0 : List Frame := [.native { method := ⟨0, 0⟩, args := #[] }]
def about1 : State := aboutOver below0
def p0 : Program := .bare "" "" ""
def e0 : Env := launch0.env 0 0 0
theorem w_frames : about1.frames = Frame.invoking theMethod args0 :: below0 := rfl
set_option maxRecDepth 65536 in
theorem w_args : argsFit about1.vm theMethod args0 = true := by decide +kernel
set_option maxRecDepth 65536 in
theorem w_heap : heapFits about1 = true := by decide +kernel
set_option maxRecDepth 65536 in
theorem w_runnable : about1.curStatus? = some .runnable := by decide +kernel
set_option maxRecDepth 65536 in
theorem w_alone : about1.alone = true := by decide +kernel
set_option maxRecDepth 65536 in
theorem w_named : about1.methodNamed? x = some theMethod := by decide +kernel
set_option maxRecDepth 65536 in
theorem w_hears : about1.hears theMethod below0 = true := by decide +kernel
set_option maxRecDepth 65536 in
theorem w_ripe : about1.ripe theMethod args0 below0 = true := by decide +kernel
theorem w_running : about1.status = .running := rfl
set_option maxRecDepth 65536 in
theorem w_room : about1.hasRoom e0.platform room_1 = true :=
  launch0.hasRoom_least _ room_1 (by decide +kernel) (by decide +kernel) (by decide +kernel) (by decide +kernel) (by decide +kernel) (by decide +kernel)
theorem allAtoms_all (ts : List Jvm.Cond) (a : Array Jvm.Value) (st : Jvm.State) : (allAtoms ts).before a st = ts.all (fun c => c.before a st) := by
  induction ts with
  | nil => rfl
  | cons c t ih =>
    show (Jvm.Cond.and c (allAtoms t)).before a st = _
    rw [Jvm.Cond.before_and, ih, List.all_cons]
def words1 : List Jvm.Cond := Jvm.Cond.code x code maxLocals ret :: tables_1
/-- a 'code' word, met by the world's own term for the bytes: nothing is compared byte by byte -/
theorem code_word {y : MethodName} {bytes : ByteArray} {mx : Nat} {rt : Option FieldType} {a : Array Value} {s : State} {m : MethodId} {meth : Method} {c : Code} (h1 : s.methodNamed? y = some m) (h2 : s.vm.method? m = some meth) (h3 : meth.code = some c) (h4 : c.code = bytes)
    (h5 : (c.maxLocals == mx && c.exceptionTable.isEmpty && decide (c.maxStack ≤ mostOperands) && decide (meth.sig.returnType = rt) && !meth.locks && decide (parseMethodDescriptor y.desc = some meth.sig)) = true) : (Jvm.Cond.code y bytes mx rt).before a s = true := by
  simp only [Bool.and_eq_true, beq_iff_eq, Bool.not_eq_true', decide_eq_true_eq] at h5
  obtain ⟨⟨⟨⟨⟨g1, g2⟩, g3⟩, g4⟩, g5⟩, g6⟩ := h5
  simp [Cond.before, Cond.holds, Cond.value, h1, h2, h3, h4, g1, g2, g3, g4, g5, g6]
def isCode : Jvm.Cond → Bool
  | .code _ _ _ _ => true
  | _ => false
theorem all_split {L : List Jvm.Cond} {P : Jvm.Cond → Bool} (h1 : L.all (fun c => isCode c || P c) = true) (h2 : ∀ c ∈ L.filter isCode, P c = true) : L.all P = true := by
  refine List.all_eq_true.mpr fun c hc => ?_
  have h := List.all_eq_true.mp h1 c hc
  rcases Bool.eq_false_or_eq_true (isCode c) with hi | hi
  · exact h2 c (List.mem_filter.mpr ⟨hc, hi⟩)
  · simpa [hi] using h
set_option maxRecDepth 65536 in
theorem w_c0 : (Jvm.Cond.code x code maxLocals ret).before args0 about1 = true := code_word (m := ⟨1, 1⟩) (meth := k1m1) (c := k1c1) (by decide +kernel) rfl rfl rfl (by decide +kernel)
set_option maxRecDepth 65536 in
theorem w_c1 : (Jvm.Cond.code ({ cls := "com/example/hot_pool/hotpool/pool/Room", name := "<init>", desc := "(Lcom/example/hot_pool/hotpool/config/PoolSettings;Lcom/example/hot_pool/hotpool/config/Credentials;)V" } : Jvm.MethodName) prog_41_method_1_code (3 : Nat) (Option.none : Option Jvm.ClassFile.FieldType)).before args0 about1 = true := code_word (m := ⟨2, 0⟩) (meth := k2m0) (c := k2c0) (by decide +kernel) rfl rfl rfl (by decide +kernel)
set_option maxRecDepth 65536 in
theorem w_c2 : (Jvm.Cond.code ({ cls := "java/lang/Object", name := "<init>", desc := "()V" } : Jvm.MethodName) object_method_1_code (1 : Nat) (Option.none : Option Jvm.ClassFile.FieldType)).before args0 about1 = true := code_word (m := ⟨0, 0⟩) (meth := k0m0) (c := k0c0) (by decide +kernel) rfl rfl rfl (by decide +kernel)
set_option maxRecDepth 65536 in
theorem w_c3 : (Jvm.Cond.code ({ cls := "com/example/hot_pool/hotpool/pool/Room", name := "freeClosed", desc := "()V" } : Jvm.MethodName) prog_41_method_6_code (1 : Nat) (Option.none : Option Jvm.ClassFile.FieldType)).before args0 about1 = true := code_word (m := ⟨2, 1⟩) (meth := k2m1) (c := k2c1) (by decide +kernel) rfl rfl rfl (by decide +kernel)
set_option maxRecDepth 65536 in
theorem w_c4 : (Jvm.Cond.code ({ cls := "com/example/hot_pool/hotpool/pool/Room", name := "taken", desc := "()I" } : Jvm.MethodName) prog_41_method_11_code (1 : Nat) (Option.some Jvm.ClassFile.FieldType.int)).before args0 about1 = true := code_word (m := ⟨2, 4⟩) (meth := k2m4) (c := k2c4) (by decide +kernel) rfl rfl rfl (by decide +kernel)
set_option maxRecDepth 65536 in
theorem w_c5 : (Jvm.Cond.code ({ cls := "com/example/hot_pool/hotpool/pool/Room", name := "holding", desc := "()I" } : Jvm.MethodName) prog_41_method_9_code (1 : Nat) (Option.some Jvm.ClassFile.FieldType.int)).before args0 about1 = true := code_word (m := ⟨2, 2⟩) (meth := k2m2) (c := k2c2) (by decide +kernel) rfl rfl rfl (by decide +kernel)
set_option maxRecDepth 65536 in
theorem w_c6 : (Jvm.Cond.code ({ cls := "com/example/hot_pool/hotpool/pool/Room", name := "holdingOwn", desc := "()I" } : Jvm.MethodName) prog_41_method_10_code (1 : Nat) (Option.some Jvm.ClassFile.FieldType.int)).before args0 about1 = true := code_word (m := ⟨2, 3⟩) (meth := k2m3) (c := k2c3) (by decide +kernel) rfl rfl rfl (by decide +kernel)
def codes1 : List Jvm.Cond := [Jvm.Cond.code x code maxLocals ret, Jvm.Cond.code ({ cls := "com/example/hot_pool/hotpool/pool/Room", name := "<init>", desc := "(Lcom/example/hot_pool/hotpool/config/PoolSettings;Lcom/example/hot_pool/hotpool/config/Credentials;)V" } : Jvm.MethodName) prog_41_method_1_code (3 : Nat) (Option.none : Option Jvm.ClassFile.FieldType), Jvm.Cond.code ({ cls := "java/lang/Object", name := "<init>", desc := "()V" } : Jvm.MethodName) object_method_1_code (1 : Nat) (Option.none : Option Jvm.ClassFile.FieldType), Jvm.Cond.code ({ cls := "com/example/hot_pool/hotpool/pool/Room", name := "freeClosed", desc := "()V" } : Jvm.MethodName) prog_41_method_6_code (1 : Nat) (Option.none : Option Jvm.ClassFile.FieldType), Jvm.Cond.code ({ cls := "com/example/hot_pool/hotpool/pool/Room", name := "taken", desc := "()I" } : Jvm.MethodName) prog_41_method_11_code (1 : Nat) (Option.some Jvm.ClassFile.FieldType.int), Jvm.Cond.code ({ cls := "com/example/hot_pool/hotpool/pool/Room", name := "holding", desc := "()I" } : Jvm.MethodName) prog_41_method_9_code (1 : Nat) (Option.some Jvm.ClassFile.FieldType.int), Jvm.Cond.code ({ cls := "com/example/hot_pool/hotpool/pool/Room", name := "holdingOwn", desc := "()I" } : Jvm.MethodName) prog_41_method_10_code (1 : Nat) (Option.some Jvm.ClassFile.FieldType.int)]
set_option maxRecDepth 65536 in
theorem codes_eq : words1.filter isCode = codes1 := rfl
theorem w_codes : ∀ c ∈ words1.filter isCode, c.before args0 about1 = true := by
  rw [codes_eq]
  intro c hc
  simp only [codes1, List.mem_cons, List.not_mem_nil, or_false] at hc
  rcases hc with rfl | rfl | rfl | rfl | rfl | rfl | rfl
  · exact w_c0
  · exact w_c1
  · exact w_c2
  · exact w_c3
  · exact w_c4
  · exact w_c5
  · exact w_c6
set_option maxRecDepth 65536 in
theorem w_t1 : (words1.take 24).all (fun c => isCode c || c.before args0 about1) = true := by decide +kernel
set_option maxRecDepth 65536 in
theorem w_t2 : (words1.drop 24).all (fun c => isCode c || c.before args0 about1) = true := by decide +kernel
theorem w_tables : (allAtoms (Jvm.Cond.code x code maxLocals ret :: tables_1)).before args0 about1 = true := by
  rw [allAtoms_all]
  show words1.all (fun c => c.before args0 about1) = true
  refine all_split ?_ w_codes
  rw [← List.take_append_drop 24 words1, List.all_append, w_t1, w_t2]
  rfl
set_option maxRecDepth 65536 in
theorem w_case : (Jvm.Cond.and given_1 narrow_1).before args0 about1 = true := by decide +kernel
theorem w_applies : (headSpec (Jvm.Cond.code x code maxLocals ret :: tables_1) room_1).applies x e0.platform about1 = true :=
  (Spec.applies_iff w_frames).mpr ⟨w_running, w_runnable, w_alone, w_named, w_hears, w_ripe, w_room, w_tables⟩
theorem atStart : AtStart classFile x code maxLocals ret World_1 tables_1 room_1 Calls_1 rest_1 Pre_1 launch0 p0 e0 about1 theMethod args0 below0 :=
  ⟨lists_1, trivial, launch0.admits_env _ _ _, launch0.least_env, fairChoices_fair.cas, fairChoices_fair.clock, w_frames, w_args, w_heap, w_applies, trivial, trivial, w_case⟩
end start1
theorem witness_1 : WitnessClaimed_1 := ⟨start1.p0, start1.e0, start1.about1, start1.theMethod, start1.args0, start1.below0, start1.atStart⟩
end Jvm.Pilot.@@N@@
