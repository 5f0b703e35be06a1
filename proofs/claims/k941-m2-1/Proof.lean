import JvmDerived
import JvmDerived.Pilot.@@N@@Statement
import JvmDerived.Pilot.@@N@@Code
set_option linter.unusedVariables false
set_option linter.unusedSimpArgs false
namespace Jvm.RoadKit
open Sem ClassFile Op Lib Jvm.Stand Jvm.Free Jvm.LawKit
section OwnGo
/-- from the state T with the frame g on top the run comes to a state of which K holds -/
def own_Go (tb : Tables) (e : Env) (below : List Frame) (K : State → Prop) (T : State) (g : JFrame) : Prop := ∃ t, Steps tb e below (T.setTop g) t ∧ K t
/-- the invocation has ended by a return, with what Q says of the value, the heap and the written places -/
def own_Fin (below : List Frame) (s : State) (Q : Option Value → Heap → List Loc → Prop) (k n : Nat) (t : State) : Prop := ∃ o, t.status = .running ∧ Ended t below o ∧ ∃ v L, o = .returned v ∧ Q v t.heap L ∧ FrameEnd s o t L k n
variable {p : Program} {l : Launch} {e : Env} {R : Room} {s : State} {m : MethodId} {args : Array Value} {below : List Frame} {meth : Method} {c : Code} {T : State} {locs : List Loc} {cells slots : Nat}
variable {K : State → Prop} {T' : State} {g g' : JFrame} {tb : Tables} {Q : Option Value → Heap → List Loc → Prop} {k n : Nat}
theorem own_st (h : ∀ t, Steps tb e below (T'.setTop g') t → Steps tb e below (T.setTop g) t) (q : own_Go tb e below K T' g') : own_Go tb e below K T g := by
  obtain ⟨t, h1, h2⟩ := q
  exact ⟨t, h _ h1, h2⟩
theorem own_tr (h : Steps tb e below (T.setTop g) (T'.setTop g')) (q : own_Go tb e below K T' g') : own_Go tb e below K T g := by
  obtain ⟨t, h1, h2⟩ := q
  exact ⟨t, h.trans h1, h2⟩
theorem own_in (h : g = g') (q : own_Go tb e below K T g') : own_Go tb e below K T g := h ▸ q
theorem own_out (q : own_Go tb e below (own_Fin below s Q k n) T g) : ∃ s₂ o, Steps tb e below (T.setTop g) s₂ ∧ s₂.status = .running ∧ Ended s₂ below o ∧ ∃ v L, o = .returned v ∧ Q v s₂.heap L ∧ FrameEnd s o s₂ L k n := by
  obtain ⟨t, h1, o, h2, h3, h4⟩ := q
  exact ⟨t, o, h1, h2, h3, h4⟩
theorem own_leave (X : Stand p l e R s m args below meth c T locs cells slots) (hlk : meth.locks = false) {v : Option Value} (hv : meth.sig.returnType = none → v = none) (hq : Q v T.heap locs) (hk : cells ≤ k) (hn : slots ≤ n)
    (st : ∀ fs, (∀ (f : JFrame) (acts : List Action), f.method = m → f.locked = none → f.entered = [] → (doReturn e (T.setTop f) acts v).1 = T.setFrames fs) → Steps p.tables e below (T.setTop g) (T.setFrames fs)) :
    own_Go p.tables e below (own_Fin below s Q k n) T g := by
  obtain ⟨fs, hr, hrun, hended, hW, hsame⟩ := X.leave (v := v) hv hlk
  exact ⟨_, st fs hr, _, hrun, hended, _, _, rfl, hq, ⟨_, rfl⟩, hW, hsame.mono hk hn⟩
variable {pc : Nat} {Ls : Array Slot} {rest : List Value}
theorem own_retV (X : Stand p l e R s m args below meth c T locs cells slots) (hx : p.tables.exec = Jvm.exec) (hlk : meth.locks = false) (hret : meth.sig.returnType = none) (hd : decode c.code pc = .ok (.return_, 1)) (hq : Q none T.heap locs) (hk : cells ≤ k) (hn : slots ≤ n) :
    own_Go p.tables e below (own_Fin below s Q k n) T (mkF m pc Ls []) :=
  own_leave X hlk (fun _ => rfl) hq hk hn fun _ hr => X.returnOut hx hret hd hr
theorem own_retW (X : Stand p l e R s m args below meth c T locs cells slots) (hx : p.tables.exec = Jvm.exec) (hlk : meth.locks = false) {w : Value} {t : FieldType} {i : Instr} (hret : meth.sig.returnType = some t) (hn' : narrow t w = w)
    (hi : (i = .ireturn ∧ (t = .int ∨ t = .boolean ∨ t = .byte ∨ t = .char ∨ t = .short) ∧ ∃ z, w = .int z) ∨ (i = .lreturn ∧ t = .long ∧ ∃ z, w = .long z) ∨ (i = .dreturn ∧ t = .double ∧ ∃ z, w = .double z) ∨ (i = .freturn ∧ t = .float ∧ ∃ z, w = .float z) ∨ (i = .areturn ∧ t.isReference = true ∧ w.isRef = true))
    (hd : decode c.code pc = .ok (i, 1)) (hq : Q (some w) T.heap locs) (hk : cells ≤ k) (hn : slots ≤ n) :
    own_Go p.tables e below (own_Fin below s Q k n) T (mkF m pc Ls (w :: rest)) :=
  own_leave X hlk (fun h => by rw [hret] at h; cases h) hq hk hn fun _ hr => retOut X hx hret hn' hi hd hr
theorem own_retI (X : Stand p l e R s m args below meth c T locs cells slots) (hx : p.tables.exec = Jvm.exec) (hlk : meth.locks = false) {z : Int32} (hret : meth.sig.returnType = some .int) (hd : decode c.code pc = .ok (.ireturn, 1)) (hq : Q (some (.int z)) T.heap locs) (hk : cells ≤ k) (hn : slots ≤ n) :
    own_Go p.tables e below (own_Fin below s Q k n) T (mkF m pc Ls (.int z :: rest)) :=
  own_retW X hx hlk hret rfl (Or.inl ⟨rfl, Or.inl rfl, _, rfl⟩) hd hq hk hn
theorem own_retJ (X : Stand p l e R s m args below meth c T locs cells slots) (hx : p.tables.exec = Jvm.exec) (hlk : meth.locks = false) {z : Int64} (hret : meth.sig.returnType = some .long) (hd : decode c.code pc = .ok (.lreturn, 1)) (hq : Q (some (.long z)) T.heap locs) (hk : cells ≤ k) (hn : slots ≤ n) :
    own_Go p.tables e below (own_Fin below s Q k n) T (mkF m pc Ls (.long z :: rest)) :=
  own_retW X hx hlk hret rfl (Or.inr (Or.inl ⟨rfl, rfl, _, rfl⟩)) hd hq hk hn
theorem own_retR (X : Stand p l e R s m args below meth c T locs cells slots) (hx : p.tables.exec = Jvm.exec) (hlk : meth.locks = false) {w : Value} {t : FieldType} (hret : meth.sig.returnType = some t) (ht : t.isReference = true) (hw : w.isRef = true) (hn' : narrow t w = w) (hd : decode c.code pc = .ok (.areturn, 1)) (hq : Q (some w) T.heap locs) (hk : cells ≤ k) (hn : slots ≤ n) :
    own_Go p.tables e below (own_Fin below s Q k n) T (mkF m pc Ls (w :: rest)) :=
  own_retW X hx hlk hret hn' (Or.inr (Or.inr (Or.inr (Or.inr ⟨rfl, ht, hw⟩)))) hd hq hk hn
theorem own_retN (X : Stand p l e R s m args below meth c T locs cells slots) (hx : p.tables.exec = Jvm.exec) (hlk : meth.locks = false) {z : Int32} {t : FieldType} (hret : meth.sig.returnType = some t) (ht : t = .boolean ∨ t = .byte ∨ t = .char ∨ t = .short) (hd : decode c.code pc = .ok (.ireturn, 1)) (hq : Q (some (.int (nar t z))) T.heap locs) (hk : cells ≤ k) (hn : slots ≤ n) :
    own_Go p.tables e below (own_Fin below s Q k n) T (mkF m pc Ls (.int z :: rest)) :=
  own_leave X hlk (fun h => by rw [hret] at h; cases h) hq hk hn fun _ hr => retN X hx hret ht hd hr
/-- the same, where String constants may have been resolved -/
def own_FinW (below : List Frame) (s : State) (Q : Option Value → Heap → List Loc → Prop) (k n : Nat) (t : State) : Prop := ∃ o, t.status = .running ∧ Ended t below o ∧ ∃ v L, o = .returned v ∧ Q v t.heap L ∧ ReturnedEndW s o t L k n
theorem own_outW (q : own_Go tb e below (own_FinW below s Q k n) T g) : ∃ s₂ o, Steps tb e below (T.setTop g) s₂ ∧ s₂.status = .running ∧ Ended s₂ below o ∧ ∃ v L, o = .returned v ∧ Q v s₂.heap L ∧ ReturnedEndW s o s₂ L k n := by
  obtain ⟨t, h1, o, h2, h3, h4⟩ := q
  exact ⟨t, o, h1, h2, h3, h4⟩
theorem own_leaveW {vm0 : Vm} {k0 : Nat} (X : Stand p l e R (s.setVm vm0) m args below meth c T locs cells slots) (hS : s.Since vm0 k0) (hk0 : k0 ≤ T.heap.size) (hlk : meth.locks = false) {v : Option Value} (hv : meth.sig.returnType = none → v = none) (hq : Q v T.heap locs) (hk : cells ≤ k) (hn : slots ≤ n)
    (st : ∀ fs, (∀ (f : JFrame) (acts : List Action), f.method = m → f.locked = none → f.entered = [] → (doReturn e (T.setTop f) acts v).1 = T.setFrames fs) → Steps p.tables e below (T.setTop g) (T.setFrames fs)) :
    own_Go p.tables e below (own_FinW below s Q k n) T g := by
  obtain ⟨fs, hr, hrun, hended, h1, h2, h3, h4⟩ := X.leaveW hS hk0 (v := v) hv hlk
  exact ⟨_, st fs hr, _, hrun, hended, _, _, rfl, hq, h1, h2, h3, h4.mono hk hn⟩
theorem own_retVW {vm0 : Vm} {k0 : Nat} (X : Stand p l e R (s.setVm vm0) m args below meth c T locs cells slots) (hS : s.Since vm0 k0) (hk0 : k0 ≤ T.heap.size) (hx : p.tables.exec = Jvm.exec) (hlk : meth.locks = false) (hret : meth.sig.returnType = none) (hd : decode c.code pc = .ok (.return_, 1)) (hq : Q none T.heap locs) (hk : cells ≤ k) (hn : slots ≤ n) :
    own_Go p.tables e below (own_FinW below s Q k n) T (mkF m pc Ls []) :=
  own_leaveW X hS hk0 hlk (fun _ => rfl) hq hk hn fun _ hr => X.returnOut hx hret hd hr
theorem own_retWW {vm0 : Vm} {k0 : Nat} (X : Stand p l e R (s.setVm vm0) m args below meth c T locs cells slots) (hS : s.Since vm0 k0) (hk0 : k0 ≤ T.heap.size) (hx : p.tables.exec = Jvm.exec) (hlk : meth.locks = false) {w : Value} {t : FieldType} {i : Instr} (hret : meth.sig.returnType = some t) (hn' : narrow t w = w)
    (hi : (i = .ireturn ∧ (t = .int ∨ t = .boolean ∨ t = .byte ∨ t = .char ∨ t = .short) ∧ ∃ z, w = .int z) ∨ (i = .lreturn ∧ t = .long ∧ ∃ z, w = .long z) ∨ (i = .dreturn ∧ t = .double ∧ ∃ z, w = .double z) ∨ (i = .freturn ∧ t = .float ∧ ∃ z, w = .float z) ∨ (i = .areturn ∧ t.isReference = true ∧ w.isRef = true))
    (hd : decode c.code pc = .ok (i, 1)) (hq : Q (some w) T.heap locs) (hk : cells ≤ k) (hn : slots ≤ n) :
    own_Go p.tables e below (own_FinW below s Q k n) T (mkF m pc Ls (w :: rest)) :=
  own_leaveW X hS hk0 hlk (fun h => by rw [hret] at h; cases h) hq hk hn fun _ hr => retOut X hx hret hn' hi hd hr
theorem own_retNW {vm0 : Vm} {k0 : Nat} (X : Stand p l e R (s.setVm vm0) m args below meth c T locs cells slots) (hS : s.Since vm0 k0) (hk0 : k0 ≤ T.heap.size) (hx : p.tables.exec = Jvm.exec) (hlk : meth.locks = false) {z : Int32} {t : FieldType} (hret : meth.sig.returnType = some t) (ht : t = .boolean ∨ t = .byte ∨ t = .char ∨ t = .short) (hd : decode c.code pc = .ok (.ireturn, 1)) (hq : Q (some (.int (nar t z))) T.heap locs) (hk : cells ≤ k) (hn : slots ≤ n) :
    own_Go p.tables e below (own_FinW below s Q k n) T (mkF m pc Ls (.int z :: rest)) :=
  own_leaveW X hS hk0 hlk (fun h => by rw [hret] at h; cases h) hq hk hn fun _ hr => retN X hx hret ht hd hr
theorem own_wz {Z : State} {vm0 vm1 : Vm} {k1 : Nat} (hZ : Z.Warmed39 vm0) (hs : (s.setVm vm0).Since vm1 k1) : Z.Warmed39 (s.setVm vm1).vm := State.Warmed39.trans (t := s.setVm vm0) hZ hs.1
theorem own_wo {vm0 vm1 : Vm} {k1 : Nat} {own : String} {q : ClassId} (h : (s.setVm vm0).vm.findClass own = some q) (hs : (s.setVm vm0).Since vm1 k1) : (s.setVm vm1).vm.findClass own = some q := by
  rw [show (s.setVm vm1).vm = vm1 from rfl, hs.1.alike.findClass]; exact h
theorem own_sta_keep {Z : State} {h h' : Heap} {C f d : String} {v : Value} {ws : List Addr} (F : Sta Z h C f d v) (K : Keep h h' ws) (hs : ∀ x ∈ ws, ∀ cl : Cell, h[x]? = some cl → cl.vm.isStatics = false) : Sta Z h' C f d v := by
  obtain ⟨cf, i, k, f', st, cell, h1, h2, h3, h4, h5, h6, h7⟩ := F
  refine ⟨cf, i, k, f', st, cell, h1, h2, h3, h4, K.2.1 _ _ h5 fun q => ?_, h6, h7⟩
  rw [hs st q cell h5] at h6
  cases h6
theorem own_getD_int (es : List Int32) (i : Nat) : (es.map Value.int).getD i (.int 0) = .int (es.getD i 0) := by
  induction es generalizing i with
  | nil => rfl
  | cons a t ih => cases i with
    | zero => rfl
    | succ j => simpa using ih j
theorem own_getD_long (es : List Int64) (i : Nat) : (es.map Value.long).getD i (.long 0) = .long (es.getD i 0) := by
  induction es generalizing i with
  | nil => rfl
  | cons a t ih => cases i with
    | zero => rfl
    | succ j => simpa using ih j
theorem own_eq_int {args : Array Value} {s : State} {t : Term} {k : Int32} (h : (Cond.eq t (.int k)).value args s none s [] = some true) : t.eval args s none [] s = some (.int k) := by
  obtain ⟨x, y, e1, e2, hk, hk'⟩ := cmp_v (Or.inl h)
  have e3 : y = .int k := by simpa [Term.eval] using e2.symm
  subst e3
  cases x with
  | int z => simp [Cond.value, e1, e2] at h; rw [e1, h]
  | _ => simp [Kin] at hk'
end OwnGo
end Jvm.RoadKit
namespace Jvm.Pilot.@@N@@
open Jvm Jvm.ClassFile Sem Op Lib Jvm.Free Jvm.Stand Jvm.LawKit Jvm.RoadKit Bundle Jvm.Pilot.@@N@@.Jvm.D
theorem own_pos (x : Int64) : ¬ ((x &&& (9223372036854775807 : Int64)) < (0 : Int64)) := by
  have h := c_maskL x (9223372036854775807 : Int64) 63 (by decide) (by decide)
  rw [Int64.lt_iff_toInt_lt, h]
  simp only [Int64.reduceToInt]
  omega
/-! body 2: Record.<init> -/
theorem d2_0 : decode jdk_30_method_1_code 0 = .ok (.aload_n 0, 1) := by decide +kernel
theorem d2_1 : decode jdk_30_method_1_code 1 = .ok (.invokespecial 1, 3) := by decide +kernel
theorem d2_4 : decode jdk_30_method_1_code 4 = .ok (.return_, 1) := by decide +kernel
theorem pn_java_lang_Record : plainName "java/lang/Record" = true := by first | (simp [plainName, overriddenIn]; done) | decide +kernel
theorem ef_2 (m : MethodId) (x0 : Addr) : entryFrame m #[(.ref x0)] 1 = mkF m 0 #[.val (.ref x0)] [] := by first | (simp [entryFrame, mkF, argsToLocals, Value.category]; done) | rfl
def Q2 (Z : State) (r0 : Addr) (h0 : Heap) (n0 : Nat) (v : Option Value) (h : Heap) (L : List Loc) : Prop := v = none ∧ Fr n0 L ∧ h = h0
set_option maxRecDepth 65536 in
set_option maxHeartbeats 40000000 in
theorem rm2 (l : Launch) (Z : State) (a0 : Array Value) (hw : ∀ d ∈ tables_1, d.before a0 Z = true) (ws : List Jvm.Cond) (r0 : Addr) (h0 : Heap) (n0 : Nat) (Z0 : n0 ≤ h0.size) :
    MetFree l (⟨"java/lang/Record", "<init>", "()V"⟩ : MethodName) (head1 (Jvm.Cond.code (⟨"java/lang/Record", "<init>", "()V"⟩ : MethodName) jdk_30_method_1_code 1 none :: ws) ({ frames := 1, cells := 0, slots := 0, locals := 12 } : Room)) (fun a U => a = #[(.ref r0)] ∧ Z.Warmed39 U.vm ∧ U.heap = h0) (fun _ _ _ _ _ => True) (fun _ U o U' => ∃ v L, o = .returned v ∧ Q2 Z r0 h0 n0 v U'.heap L ∧ FrameEnd U o U' L ({ frames := 1, cells := 0, slots := 0, locals := 12 } : Room).cells ({ frames := 1, cells := 0, slots := 0, locals := 12 } : Room).slots) := by
  refine MetFree.of_bodySF (plainFor_of_name pn_java_lang_Record) hisR ?_
  intro p e s m args below meth c s₁ Bd hml0 hP hK
  obtain ⟨rfl, hZ, hh⟩ := hP
  have hx := Bd.exec
  have hby := Bd.bytes
  have hlk := Bd.notSynchronized
  have hrt := Bd.returns
  have hml : c.maxLocals = 1 := hml0
  have hown : s.vm.findClass "java/lang/Record" = some m.cls := findClass_of_methodNamed Bd.named
  have hnm := (name_of_methodNamed Bd.named Bd.method).1
  have X0 : Stand p l e ({ frames := 1, cells := 0, slots := 0, locals := 12 } : Room) s m #[(.ref r0)] below meth c s₁ [] 0 0 := Stand.of_body Bd
  have e0 : s₁.heap = h0 := by rw [← hh, Bd.state]; rfl
  have N0 := Fr.nil n0
  have K0 := Keep.refl h0 []
  refine own_out (Q := Q2 Z r0 h0 n0) ?_
  refine own_in (ef_2 m r0) ?_
  show own_Go _ _ _ _ s₁ (mkF m 0 #[.val (.ref r0)] [])
  refine own_st (fun t k => XS.aloadN X0.here hx rfl (hb hby d2_0) rfl rfl k) ?_
  show own_Go _ _ _ _ s₁ (mkF m 1 #[.val (.ref r0)] [(.ref r0)])
  obtain ⟨T1, X1, e1, st1⟩ := initO X0 hx hZ hown (hw _ (List.mem_of_getElem? (i := 12) rfl)) (hw _ (List.mem_of_getElem? (i := 13) rfl)) (hw _ (List.mem_of_getElem? (i := 14) rfl)) e0 (g := (mkF m 1 #[.val (.ref r0)] [(.ref r0)])) rfl (by rw [hml]; rfl) rfl (hb hby d2_1) (by decide) (W := 0) (by show 2 * 0 + _ ≤ _; exact Nat.le_of_eq rfl) (by decide)
  refine own_st st1 ?_
  show own_Go _ _ _ _ T1 (mkF m 4 #[.val (.ref r0)] [])
  exact own_retV X1 hx hlk hrt (hb hby d2_4) ⟨rfl, N0, e1⟩ (by decide) (by decide)
theorem pd__28_29V : parseMethodDescriptor "()V" = some ⟨[], none⟩ := by decide +kernel
/-! body 1: VersionRange.<init> -/
theorem d1_0 : decode prog_154_method_1_code 0 = .ok (.aload_n 0, 1) := by decide +kernel
theorem d1_1 : decode prog_154_method_1_code 1 = .ok (.invokespecial 1, 3) := by decide +kernel
theorem d1_4 : decode prog_154_method_1_code 4 = .ok (.lload_n 1, 1) := by decide +kernel
theorem d1_5 : decode prog_154_method_1_code 5 = .ok (.lconst 0, 1) := by decide +kernel
theorem d1_6 : decode prog_154_method_1_code 6 = .ok (.lcmp, 1) := by decide +kernel
theorem d1_7 : decode prog_154_method_1_code 7 = .ok (.ifCond .ge 17, 3) := by decide +kernel
theorem d1_24 : decode prog_154_method_1_code 24 = .ok (.aload_n 0, 1) := by decide +kernel
theorem d1_25 : decode prog_154_method_1_code 25 = .ok (.lload_n 1, 1) := by decide +kernel
theorem d1_26 : decode prog_154_method_1_code 26 = .ok (.putfield 16, 3) := by decide +kernel
theorem d1_29 : decode prog_154_method_1_code 29 = .ok (.aload_n 0, 1) := by decide +kernel
theorem d1_30 : decode prog_154_method_1_code 30 = .ok (.lload_n 3, 1) := by decide +kernel
theorem d1_31 : decode prog_154_method_1_code 31 = .ok (.putfield 22, 3) := by decide +kernel
theorem d1_34 : decode prog_154_method_1_code 34 = .ok (.return_, 1) := by decide +kernel
theorem pn_com_example_decel_decel_store_VersionRange : plainName "com/example/decel/decel/store/VersionRange" = true := by first | (simp [plainName, overriddenIn]; done) | decide +kernel
theorem ef_1 (m : MethodId) (x0 : Addr) (x1 : Int64) (x2 : Int64) : entryFrame m #[(.ref x0), (.long x1), (.long x2)] 5 = mkF m 0 #[.val (.ref x0), .val (.long x1), .second, .val (.long x2), .second] [] := by first | (simp [entryFrame, mkF, argsToLocals, Value.category]; done) | rfl
def Q1 (Z : State) (r0 : Addr) (q1 : Int64) (q3 : Int64) (h0 : Heap) (n0 : Nat) (v : Option Value) (h : Heap) (L : List Loc) : Prop := v = none ∧ Fr n0 L ∧ Keep h0 h [r0] ∧ Fld Z h r0 "com/example/decel/decel/store/VersionRange" "from" "J" (.long q1) ∧ Fld Z h r0 "com/example/decel/decel/store/VersionRange" "last" "J" (.long q3)
set_option maxRecDepth 65536 in
set_option maxHeartbeats 40000000 in
theorem rm1 (l : Launch) (Z : State) (a0 : Array Value) (hw : ∀ d ∈ tables_1, d.before a0 Z = true) (ws : List Jvm.Cond) (r0 : Addr) (q1 : Int64) (q3 : Int64) (h0 : Heap) (n0 : Nat) (Z0 : n0 ≤ h0.size) (E_r0 : Exa Z h0 r0 "com/example/decel/decel/store/VersionRange") (F_from_r0 : Fld Z h0 r0 "com/example/decel/decel/store/VersionRange" "from" "J" (.long (0 : Int64))) (F_last_r0 : Fld Z h0 r0 "com/example/decel/decel/store/VersionRange" "last" "J" (.long (0 : Int64))) (g_r0 : n0 ≤ r0) (hpos : ¬ (q1 < (0 : Int64))) :
    MetFree l (⟨"com/example/decel/decel/store/VersionRange", "<init>", "(JJ)V"⟩ : MethodName) (head1 (Jvm.Cond.code (⟨"com/example/decel/decel/store/VersionRange", "<init>", "(JJ)V"⟩ : MethodName) prog_154_method_1_code 5 none :: ws) ({ frames := 2, cells := 0, slots := 0, locals := 24 } : Room)) (fun a U => a = #[(.ref r0), (.long q1), (.long q3)] ∧ Z.Warmed39 U.vm ∧ U.heap = h0) (fun _ _ _ _ _ => True) (fun _ U o U' => ∃ v L, o = .returned v ∧ Q1 Z r0 q1 q3 h0 n0 v U'.heap L ∧ FrameEnd U o U' L ({ frames := 2, cells := 0, slots := 0, locals := 24 } : Room).cells ({ frames := 2, cells := 0, slots := 0, locals := 24 } : Room).slots) := by
  refine MetFree.of_bodySF (plainFor_of_name pn_com_example_decel_decel_store_VersionRange) hisR ?_
  intro p e s m args below meth c s₁ Bd hml0 hP hK
  obtain ⟨rfl, hZ, hh⟩ := hP
  have hx := Bd.exec
  have hby := Bd.bytes
  have hlk := Bd.notSynchronized
  have hrt := Bd.returns
  have hml : c.maxLocals = 5 := hml0
  have hown : s.vm.findClass "com/example/decel/decel/store/VersionRange" = some m.cls := findClass_of_methodNamed Bd.named
  have hnm := (name_of_methodNamed Bd.named Bd.method).1
  have X0 : Stand p l e ({ frames := 2, cells := 0, slots := 0, locals := 24 } : Room) s m #[(.ref r0), (.long q1), (.long q3)] below meth c s₁ [] 0 0 := Stand.of_body Bd
  have e0 : s₁.heap = h0 := by rw [← hh, Bd.state]; rfl
  have N0 := Fr.nil n0
  have K0 := Keep.refl h0 [r0]
  refine own_out (Q := Q1 Z r0 q1 q3 h0 n0) ?_
  refine own_in (ef_1 m r0 q1 q3) ?_
  show own_Go _ _ _ _ s₁ (mkF m 0 #[.val (.ref r0), .val (.long q1), .second, .val (.long q3), .second] [])
  refine own_st (fun t k => XS.aloadN X0.here hx rfl (hb hby d1_0) rfl rfl k) ?_
  show own_Go _ _ _ _ s₁ (mkF m 1 #[.val (.ref r0), .val (.long q1), .second, .val (.long q3), .second] [(.ref r0)])
  obtain ⟨_, _, ⟨T1, L1, k1, n1⟩, -, X1, ⟨Lc1, hQ1, l1, y1, z1⟩, st1⟩ := X0.specialBack hx (y := (⟨"java/lang/Record", "<init>", "()V"⟩ : MethodName)) rfl hown (mvT hZ (hw _ (List.mem_of_getElem? (i := 7) rfl))) (mvT hZ (hw _ (List.mem_of_getElem? (i := 8) rfl))) (mvT hZ (hw _ (List.mem_of_getElem? (i := 11) rfl))) (by decide) (backOf (W := 0) (rm2 l Z a0 hw [] r0  h0 n0 Z0 ) hZ (hw _ (List.mem_of_getElem? (i := 11) rfl)) (hw _ (List.mem_of_getElem? (i := 10) rfl)) (by decide) (by decide)) (g := (mkF m 1 #[.val (.ref r0), .val (.long q1), .second, .val (.long q3), .second] [(.ref r0)])) rfl (by rw [hml]; rfl) (Steps.refl _) (a := r0) (argsL := []) (rest := []) (lenOf pd__28_29V rfl) rfl (by show 2 * 0 + _ ≤ _; exact Nat.le_of_eq rfl) (hb hby d1_1) (fun _ _ => ⟨rfl, e0, (by decide : 0 + 0 ≤ _), (by decide : 0 + 0 ≤ _)⟩)
  dsimp only [Pt.U, Pt.locs, Pt.cells, Pt.slots] at X1 l1 y1 z1 st1 hQ1
  subst l1 y1 z1
  obtain ⟨rfl, N1q, e1⟩ := hQ1
  have N1 := Fr.app N0 N1q
  refine own_tr st1 ?_
  show own_Go _ _ _ _ T1 (mkF m 4 #[.val (.ref r0), .val (.long q1), .second, .val (.long q3), .second] [])
  refine own_st (fun t k => XS.lloadN X1.here hx rfl (hb hby d1_4) rfl k) ?_
  show own_Go _ _ _ _ T1 (mkF m 5 #[.val (.ref r0), .val (.long q1), .second, .val (.long q3), .second] [(.long q1)])
  refine own_st (fun t k => XS.lconst X1.here hx rfl (hb hby d1_5) k) ?_
  show own_Go _ _ _ _ T1 (mkF m 6 #[.val (.ref r0), .val (.long q1), .second, .val (.long q3), .second] [(.long (0 : Int64)), (.long q1)])
  refine own_st (fun t k => XS.lcmp X1.here hx rfl (hb hby d1_6) rfl k) ?_
  show own_Go _ _ _ _ T1 (mkF m 7 #[.val (.ref r0), .val (.long q1), .second, .val (.long q3), .second] [(.int (lcmpW q1 (0 : Int64)))])
  refine own_st (fun t k => XS.ifYes X1.here hx rfl (pc0 := 7) (pc' := 24) rfl (hb hby d1_7) rfl ((if0 _ _).trans (flt (fun q => hpos ((lw_lt _ _).mp q))).2.1) (by decide) (by decide) k) ?_
  show own_Go _ _ _ _ T1 (mkF m 24 #[.val (.ref r0), .val (.long q1), .second, .val (.long q3), .second] [])
  refine own_st (fun t k => XS.aloadN X1.here hx rfl (hb hby d1_24) rfl rfl k) ?_
  show own_Go _ _ _ _ T1 (mkF m 25 #[.val (.ref r0), .val (.long q1), .second, .val (.long q3), .second] [(.ref r0)])
  refine own_st (fun t k => XS.lloadN X1.here hx rfl (hb hby d1_25) rfl k) ?_
  show own_Go _ _ _ _ T1 (mkF m 26 #[.val (.ref r0), .val (.long q1), .second, .val (.long q3), .second] [(.long q1), (.ref r0)])
  obtain ⟨T2, h2, X2, e2, W2, st2⟩ := putF X1 hx hZ hown (host := "") (Or.inl (hw _ (List.mem_of_getElem? (i := 15) rfl))) Via.refl e1 F_from_r0 E_r0 (Or.inr ⟨(hw _ (List.mem_of_getElem? (i := 16) rfl)), rfl, hnm⟩) (hw _ (List.mem_of_getElem? (i := 2) rfl)) (ty := .long) (by decide) rfl rfl (g := (mkF m 26 #[.val (.ref r0), .val (.long q1), .second, .val (.long q3), .second] [(.long q1), (.ref r0)])) rfl rfl (hb hby d1_26)
  have F2 := F_from_r0.same W2
  have N2 := Fr.snoc X2 N1 g_r0
  refine own_st st2 ?_
  show own_Go _ _ _ _ T2 (mkF m 29 #[.val (.ref r0), .val (.long q1), .second, .val (.long q3), .second] [])
  refine own_st (fun t k => XS.aloadN X2.here hx rfl (hb hby d1_29) rfl rfl k) ?_
  show own_Go _ _ _ _ T2 (mkF m 30 #[.val (.ref r0), .val (.long q1), .second, .val (.long q3), .second] [(.ref r0)])
  refine own_st (fun t k => XS.lloadN X2.here hx rfl (hb hby d1_30) rfl k) ?_
  show own_Go _ _ _ _ T2 (mkF m 31 #[.val (.ref r0), .val (.long q1), .second, .val (.long q3), .second] [(.long q3), (.ref r0)])
  have F_last_r0_3 := (F_last_r0.other W2 (Or.inr (slot_ne (Or.inr (hw _ (List.mem_of_getElem? (i := 18) rfl))) (Or.inr (hw _ (List.mem_of_getElem? (i := 16) rfl))) (by decide) (t := .long) (t' := .long) (by decide) (by decide))))
  have E_r0_4 := (E_r0.wr W2)
  have K0_5 := (K0.wr W2 (Or.inl (List.mem_of_getElem? (i := 0) rfl)))
  obtain ⟨T6, h6, X6, e6, W6, st6⟩ := putF X2 hx hZ hown (host := "") (Or.inl (hw _ (List.mem_of_getElem? (i := 17) rfl))) Via.refl e2 F_last_r0_3 E_r0_4 (Or.inr ⟨(hw _ (List.mem_of_getElem? (i := 18) rfl)), rfl, hnm⟩) (hw _ (List.mem_of_getElem? (i := 2) rfl)) (ty := .long) (by decide) rfl rfl (g := (mkF m 31 #[.val (.ref r0), .val (.long q1), .second, .val (.long q3), .second] [(.long q3), (.ref r0)])) rfl rfl (hb hby d1_31)
  have F6 := F_last_r0_3.same W6
  have N6 := Fr.snoc X6 N2 g_r0
  refine own_st st6 ?_
  show own_Go _ _ _ _ T6 (mkF m 34 #[.val (.ref r0), .val (.long q1), .second, .val (.long q3), .second] [])
  have K0_7 := (K0_5.wr W6 (Or.inl (List.mem_of_getElem? (i := 0) rfl)))
  have F2_from_8 := (F2.other W6 (Or.inr (slot_ne (Or.inr (hw _ (List.mem_of_getElem? (i := 16) rfl))) (Or.inr (hw _ (List.mem_of_getElem? (i := 18) rfl))) (by decide) (t := .long) (t' := .long) (by decide) (by decide))))
  exact own_retV X6 hx hlk hrt (hb hby d1_34) (by rw [e6]; exact ⟨rfl, N6, K0_7, F2_from_8, F6⟩) (by decide) (by decide)
/-! body 4: VersionRange.contains -/
theorem d4_0 : decode prog_154_method_2_code 0 = .ok (.lload_n 1, 1) := by decide +kernel
theorem d4_1 : decode prog_154_method_2_code 1 = .ok (.aload_n 0, 1) := by decide +kernel
theorem d4_2 : decode prog_154_method_2_code 2 = .ok (.getfield 16, 3) := by decide +kernel
theorem d4_5 : decode prog_154_method_2_code 5 = .ok (.lcmp, 1) := by decide +kernel
theorem d4_6 : decode prog_154_method_2_code 6 = .ok (.ifCond .lt 16, 3) := by decide +kernel
theorem d4_9 : decode prog_154_method_2_code 9 = .ok (.lload_n 1, 1) := by decide +kernel
theorem d4_10 : decode prog_154_method_2_code 10 = .ok (.aload_n 0, 1) := by decide +kernel
theorem d4_11 : decode prog_154_method_2_code 11 = .ok (.getfield 22, 3) := by decide +kernel
theorem d4_14 : decode prog_154_method_2_code 14 = .ok (.lcmp, 1) := by decide +kernel
theorem d4_15 : decode prog_154_method_2_code 15 = .ok (.ifCond .gt 7, 3) := by decide +kernel
theorem d4_18 : decode prog_154_method_2_code 18 = .ok (.iconst 1, 1) := by decide +kernel
theorem d4_19 : decode prog_154_method_2_code 19 = .ok (.goto 4, 3) := by decide +kernel
theorem d4_22 : decode prog_154_method_2_code 22 = .ok (.iconst 0, 1) := by decide +kernel
theorem d4_23 : decode prog_154_method_2_code 23 = .ok (.ireturn, 1) := by decide +kernel
theorem ef_4 (m : MethodId) (x0 : Addr) (x1 : Int64) : entryFrame m #[(.ref x0), (.long x1)] 3 = mkF m 0 #[.val (.ref x0), .val (.long x1), .second] [] := by first | (simp [entryFrame, mkF, argsToLocals, Value.category]; done) | rfl
def own_c (q1 : Int64) (fr : Int64) (la : Int64) : Int32 := (if q1 < fr then (0 : Int32) else (if la < q1 then (0 : Int32) else (1 : Int32)))
def Q4 (Z : State) (r0 : Addr) (q1 : Int64) (fr : Int64) (la : Int64) (h0 : Heap) (n0 : Nat) (v : Option Value) (h : Heap) (L : List Loc) : Prop := v = some (.int (own_c q1 fr la)) ∧ Fr n0 L ∧ h = h0
set_option maxRecDepth 65536 in
set_option maxHeartbeats 40000000 in
theorem rm4 (l : Launch) (Z : State) (a0 : Array Value) (hw : ∀ d ∈ tables_1, d.before a0 Z = true) (ws : List Jvm.Cond) (r0 : Addr) (q1 : Int64) (fr : Int64) (la : Int64) (h0 : Heap) (n0 : Nat) (Z0 : n0 ≤ h0.size) (F_from_r0 : Fld Z h0 r0 "com/example/decel/decel/store/VersionRange" "from" "J" (.long fr)) (F_last_r0 : Fld Z h0 r0 "com/example/decel/decel/store/VersionRange" "last" "J" (.long la)) :
    MetFree l (⟨"com/example/decel/decel/store/VersionRange", "contains", "(J)Z"⟩ : MethodName) (head1 (Jvm.Cond.code (⟨"com/example/decel/decel/store/VersionRange", "contains", "(J)Z"⟩ : MethodName) prog_154_method_2_code 3 (some .boolean) :: ws) ({ frames := 0, cells := 0, slots := 0, locals := 0 } : Room)) (fun a U => a = #[(.ref r0), (.long q1)] ∧ Z.Warmed39 U.vm ∧ U.heap = h0) (fun _ _ _ _ _ => True) (fun _ U o U' => ∃ v L, o = .returned v ∧ Q4 Z r0 q1 fr la h0 n0 v U'.heap L ∧ FrameEnd U o U' L ({ frames := 0, cells := 0, slots := 0, locals := 0 } : Room).cells ({ frames := 0, cells := 0, slots := 0, locals := 0 } : Room).slots) := by
  refine MetFree.of_bodySF (plainFor_of_name pn_com_example_decel_decel_store_VersionRange) hisR ?_
  intro p e s m args below meth c s₁ Bd hml0 hP hK
  obtain ⟨rfl, hZ, hh⟩ := hP
  have hx := Bd.exec
  have hby := Bd.bytes
  have hlk := Bd.notSynchronized
  have hrt := Bd.returns
  have hml : c.maxLocals = 3 := hml0
  have hown : s.vm.findClass "com/example/decel/decel/store/VersionRange" = some m.cls := findClass_of_methodNamed Bd.named
  have hnm := (name_of_methodNamed Bd.named Bd.method).1
  have X0 : Stand p l e ({ frames := 0, cells := 0, slots := 0, locals := 0 } : Room) s m #[(.ref r0), (.long q1)] below meth c s₁ [] 0 0 := Stand.of_body Bd
  have e0 : s₁.heap = h0 := by rw [← hh, Bd.state]; rfl
  have N0 := Fr.nil n0
  have K0 := Keep.refl h0 []
  refine own_out (Q := Q4 Z r0 q1 fr la h0 n0) ?_
  refine own_in (ef_4 m r0 q1) ?_
  show own_Go _ _ _ _ s₁ (mkF m 0 #[.val (.ref r0), .val (.long q1), .second] [])
  refine own_st (fun t k => XS.lloadN X0.here hx rfl (hb hby d4_0) rfl k) ?_
  show own_Go _ _ _ _ s₁ (mkF m 1 #[.val (.ref r0), .val (.long q1), .second] [(.long q1)])
  refine own_st (fun t k => XS.aloadN X0.here hx rfl (hb hby d4_1) rfl rfl k) ?_
  show own_Go _ _ _ _ s₁ (mkF m 2 #[.val (.ref r0), .val (.long q1), .second] [(.ref r0), (.long q1)])
  obtain ⟨T1, X1, e1, st1⟩ := getF X0 hx hZ hown (host := "") (Or.inl (hw _ (List.mem_of_getElem? (i := 15) rfl))) Via.refl e0 F_from_r0 (g := (mkF m 2 #[.val (.ref r0), .val (.long q1), .second] [(.ref r0), (.long q1)])) rfl rfl (hb hby d4_2)
  refine own_st st1 ?_
  show own_Go _ _ _ _ T1 (mkF m 5 #[.val (.ref r0), .val (.long q1), .second] [(.long fr), (.long q1)])
  refine own_st (fun t k => XS.lcmp X1.here hx rfl (hb hby d4_5) rfl k) ?_
  show own_Go _ _ _ _ T1 (mkF m 6 #[.val (.ref r0), .val (.long q1), .second] [(.int (lcmpW q1 fr))])
  by_cases c6_2 : q1 < fr
  ·
    refine own_st (fun t k => XS.ifYes X1.here hx rfl (pc0 := 6) (pc' := 22) rfl (hb hby d4_6) rfl ((if0 _ _).trans (tlt ((lw_lt _ _).mpr c6_2)).1) (by decide) (by decide) k) ?_
    show own_Go _ _ _ _ T1 (mkF m 22 #[.val (.ref r0), .val (.long q1), .second] [])
    refine own_st (fun t k => XS.iconst X1.here hx rfl (hb hby d4_22) k) ?_
    show own_Go _ _ _ _ T1 (mkF m 23 #[.val (.ref r0), .val (.long q1), .second] [(.int (0 : Int32))])
    exact own_retN X1 hx hlk (t := .boolean) hrt (by simp) (hb hby d4_23) ⟨(by simp only [own_c, if_pos c6_2]; first | rfl | done), N0, e1⟩ (by decide) (by decide)
  ·
    refine own_st (fun t k => XS.ifNo X1.here hx rfl (hb hby d4_6) rfl ((if0 _ _).trans (flt (fun q => c6_2 ((lw_lt _ _).mp q))).1) k) ?_
    show own_Go _ _ _ _ T1 (mkF m 9 #[.val (.ref r0), .val (.long q1), .second] [])
    refine own_st (fun t k => XS.lloadN X1.here hx rfl (hb hby d4_9) rfl k) ?_
    show own_Go _ _ _ _ T1 (mkF m 10 #[.val (.ref r0), .val (.long q1), .second] [(.long q1)])
    refine own_st (fun t k => XS.aloadN X1.here hx rfl (hb hby d4_10) rfl rfl k) ?_
    show own_Go _ _ _ _ T1 (mkF m 11 #[.val (.ref r0), .val (.long q1), .second] [(.ref r0), (.long q1)])
    obtain ⟨T3, X3, e3, st3⟩ := getF X1 hx hZ hown (host := "") (Or.inl (hw _ (List.mem_of_getElem? (i := 17) rfl))) Via.refl e1 F_last_r0 (g := (mkF m 11 #[.val (.ref r0), .val (.long q1), .second] [(.ref r0), (.long q1)])) rfl rfl (hb hby d4_11)
    refine own_st st3 ?_
    show own_Go _ _ _ _ T3 (mkF m 14 #[.val (.ref r0), .val (.long q1), .second] [(.long la), (.long q1)])
    refine own_st (fun t k => XS.lcmp X3.here hx rfl (hb hby d4_14) rfl k) ?_
    show own_Go _ _ _ _ T3 (mkF m 15 #[.val (.ref r0), .val (.long q1), .second] [(.int (lcmpW q1 la))])
    by_cases c15_4 : la < q1
    ·
      refine own_st (fun t k => XS.ifYes X3.here hx rfl (pc0 := 15) (pc' := 22) rfl (hb hby d4_15) rfl ((if0 _ _).trans (tlt ((lw_gt _ _).mpr c15_4)).2.2.1) (by decide) (by decide) k) ?_
      show own_Go _ _ _ _ T3 (mkF m 22 #[.val (.ref r0), .val (.long q1), .second] [])
      refine own_st (fun t k => XS.iconst X3.here hx rfl (hb hby d4_22) k) ?_
      show own_Go _ _ _ _ T3 (mkF m 23 #[.val (.ref r0), .val (.long q1), .second] [(.int (0 : Int32))])
      exact own_retN X3 hx hlk (t := .boolean) hrt (by simp) (hb hby d4_23) ⟨(by simp only [own_c, if_neg c6_2, if_pos c15_4]; first | rfl | done), N0, e3⟩ (by decide) (by decide)
    ·
      refine own_st (fun t k => XS.ifNo X3.here hx rfl (hb hby d4_15) rfl ((if0 _ _).trans (flt (fun q => c15_4 ((lw_gt _ _).mp q))).2.2.1) k) ?_
      show own_Go _ _ _ _ T3 (mkF m 18 #[.val (.ref r0), .val (.long q1), .second] [])
      refine own_st (fun t k => XS.iconst X3.here hx rfl (hb hby d4_18) k) ?_
      show own_Go _ _ _ _ T3 (mkF m 19 #[.val (.ref r0), .val (.long q1), .second] [(.int (1 : Int32))])
      refine own_st (fun t k => XS.goto X3.here hx rfl (pc0 := 19) (pc' := 23) rfl (hb hby d4_19) (by decide) (by decide) k) ?_
      show own_Go _ _ _ _ T3 (mkF m 23 #[.val (.ref r0), .val (.long q1), .second] [(.int (1 : Int32))])
      exact own_retN X3 hx hlk (t := .boolean) hrt (by simp) (hb hby d4_23) ⟨(by simp only [own_c, if_neg c6_2, if_neg c15_4]; first | rfl | done), N0, e3⟩ (by decide) (by decide)
/-! body 5: Math.min -/
theorem d5_0 : decode jdk_29_method_70_code 0 = .ok (.lload_n 0, 1) := by decide +kernel
theorem d5_1 : decode jdk_29_method_70_code 1 = .ok (.lload_n 2, 1) := by decide +kernel
theorem d5_2 : decode jdk_29_method_70_code 2 = .ok (.lcmp, 1) := by decide +kernel
theorem d5_3 : decode jdk_29_method_70_code 3 = .ok (.ifCond .gt 7, 3) := by decide +kernel
theorem d5_6 : decode jdk_29_method_70_code 6 = .ok (.lload_n 0, 1) := by decide +kernel
theorem d5_7 : decode jdk_29_method_70_code 7 = .ok (.goto 4, 3) := by decide +kernel
theorem d5_10 : decode jdk_29_method_70_code 10 = .ok (.lload_n 2, 1) := by decide +kernel
theorem d5_11 : decode jdk_29_method_70_code 11 = .ok (.lreturn, 1) := by decide +kernel
theorem ef_5 (m : MethodId) (x0 : Int64) (x1 : Int64) : entryFrame m #[(.long x0), (.long x1)] 4 = mkF m 0 #[.val (.long x0), .second, .val (.long x1), .second] [] := by first | (simp [entryFrame, mkF, argsToLocals, Value.category]; done) | rfl
def own_min (q0 : Int64) (q2 : Int64) : Int64 := (if q2 < q0 then q2 else q0)
def Q5 (Z : State) (q0 : Int64) (q2 : Int64) (h0 : Heap) (n0 : Nat) (v : Option Value) (h : Heap) (L : List Loc) : Prop := v = some (.long (own_min q0 q2)) ∧ Fr n0 L ∧ h = h0
set_option maxRecDepth 65536 in
set_option maxHeartbeats 40000000 in
theorem rm5 (l : Launch) (Z : State) (a0 : Array Value) (hw : ∀ d ∈ tables_1, d.before a0 Z = true) (ws : List Jvm.Cond) (q0 : Int64) (q2 : Int64) (h0 : Heap) (n0 : Nat) (Z0 : n0 ≤ h0.size) :
    MetFree l (⟨"java/lang/Math", "min", "(JJ)J"⟩ : MethodName) (head1 (Jvm.Cond.code (⟨"java/lang/Math", "min", "(JJ)J"⟩ : MethodName) jdk_29_method_70_code 4 (some .long) :: ws) ({ frames := 0, cells := 0, slots := 0, locals := 0 } : Room)) (fun a U => a = #[(.long q0), (.long q2)] ∧ Z.Warmed39 U.vm ∧ U.heap = h0) (fun _ _ _ _ _ => True) (fun _ U o U' => ∃ v L, o = .returned v ∧ Q5 Z q0 q2 h0 n0 v U'.heap L ∧ FrameEnd U o U' L ({ frames := 0, cells := 0, slots := 0, locals := 0 } : Room).cells ({ frames := 0, cells := 0, slots := 0, locals := 0 } : Room).slots) := by
  refine MetFree.of_bodySF (Jvm.Free.JP.mathPlain rfl (by decide +kernel)) hisR ?_
  intro p e s m args below meth c s₁ Bd hml0 hP hK
  obtain ⟨rfl, hZ, hh⟩ := hP
  have hx := Bd.exec
  have hby := Bd.bytes
  have hlk := Bd.notSynchronized
  have hrt := Bd.returns
  have hml : c.maxLocals = 4 := hml0
  have hown : s.vm.findClass "java/lang/Math" = some m.cls := findClass_of_methodNamed Bd.named
  have hnm := (name_of_methodNamed Bd.named Bd.method).1
  have X0 : Stand p l e ({ frames := 0, cells := 0, slots := 0, locals := 0 } : Room) s m #[(.long q0), (.long q2)] below meth c s₁ [] 0 0 := Stand.of_body Bd
  have e0 : s₁.heap = h0 := by rw [← hh, Bd.state]; rfl
  have N0 := Fr.nil n0
  have K0 := Keep.refl h0 []
  refine own_out (Q := Q5 Z q0 q2 h0 n0) ?_
  refine own_in (ef_5 m q0 q2) ?_
  show own_Go _ _ _ _ s₁ (mkF m 0 #[.val (.long q0), .second, .val (.long q2), .second] [])
  refine own_st (fun t k => XS.lloadN X0.here hx rfl (hb hby d5_0) rfl k) ?_
  show own_Go _ _ _ _ s₁ (mkF m 1 #[.val (.long q0), .second, .val (.long q2), .second] [(.long q0)])
  refine own_st (fun t k => XS.lloadN X0.here hx rfl (hb hby d5_1) rfl k) ?_
  show own_Go _ _ _ _ s₁ (mkF m 2 #[.val (.long q0), .second, .val (.long q2), .second] [(.long q2), (.long q0)])
  refine own_st (fun t k => XS.lcmp X0.here hx rfl (hb hby d5_2) rfl k) ?_
  show own_Go _ _ _ _ s₁ (mkF m 3 #[.val (.long q0), .second, .val (.long q2), .second] [(.int (lcmpW q0 q2))])
  by_cases c3_1 : q2 < q0
  ·
    refine own_st (fun t k => XS.ifYes X0.here hx rfl (pc0 := 3) (pc' := 10) rfl (hb hby d5_3) rfl ((if0 _ _).trans (tlt ((lw_gt _ _).mpr c3_1)).2.2.1) (by decide) (by decide) k) ?_
    show own_Go _ _ _ _ s₁ (mkF m 10 #[.val (.long q0), .second, .val (.long q2), .second] [])
    refine own_st (fun t k => XS.lloadN X0.here hx rfl (hb hby d5_10) rfl k) ?_
    show own_Go _ _ _ _ s₁ (mkF m 11 #[.val (.long q0), .second, .val (.long q2), .second] [(.long q2)])
    exact own_retJ X0 hx hlk hrt (hb hby d5_11) ⟨(by simp only [own_min, if_pos c3_1]; first | rfl | done), N0, e0⟩ (by decide) (by decide)
  ·
    refine own_st (fun t k => XS.ifNo X0.here hx rfl (hb hby d5_3) rfl ((if0 _ _).trans (flt (fun q => c3_1 ((lw_gt _ _).mp q))).2.2.1) k) ?_
    show own_Go _ _ _ _ s₁ (mkF m 6 #[.val (.long q0), .second, .val (.long q2), .second] [])
    refine own_st (fun t k => XS.lloadN X0.here hx rfl (hb hby d5_6) rfl k) ?_
    show own_Go _ _ _ _ s₁ (mkF m 7 #[.val (.long q0), .second, .val (.long q2), .second] [(.long q0)])
    refine own_st (fun t k => XS.goto X0.here hx rfl (pc0 := 7) (pc' := 11) rfl (hb hby d5_7) (by decide) (by decide) k) ?_
    show own_Go _ _ _ _ s₁ (mkF m 11 #[.val (.long q0), .second, .val (.long q2), .second] [(.long q0)])
    exact own_retJ X0 hx hlk hrt (hb hby d5_11) ⟨(by simp only [own_min, if_neg c3_1]; first | rfl | done), N0, e0⟩ (by decide) (by decide)
/-! body 6: Math.max -/
theorem d6_0 : decode jdk_29_method_66_code 0 = .ok (.lload_n 0, 1) := by decide +kernel
theorem d6_1 : decode jdk_29_method_66_code 1 = .ok (.lload_n 2, 1) := by decide +kernel
theorem d6_2 : decode jdk_29_method_66_code 2 = .ok (.lcmp, 1) := by decide +kernel
theorem d6_3 : decode jdk_29_method_66_code 3 = .ok (.ifCond .lt 7, 3) := by decide +kernel
theorem d6_6 : decode jdk_29_method_66_code 6 = .ok (.lload_n 0, 1) := by decide +kernel
theorem d6_7 : decode jdk_29_method_66_code 7 = .ok (.goto 4, 3) := by decide +kernel
theorem d6_10 : decode jdk_29_method_66_code 10 = .ok (.lload_n 2, 1) := by decide +kernel
theorem d6_11 : decode jdk_29_method_66_code 11 = .ok (.lreturn, 1) := by decide +kernel
theorem ef_6 (m : MethodId) (x0 : Int64) (x1 : Int64) : entryFrame m #[(.long x0), (.long x1)] 4 = mkF m 0 #[.val (.long x0), .second, .val (.long x1), .second] [] := by first | (simp [entryFrame, mkF, argsToLocals, Value.category]; done) | rfl
def own_max (q0 : Int64) (q2 : Int64) : Int64 := (if q0 < q2 then q2 else q0)
def Q6 (Z : State) (q0 : Int64) (q2 : Int64) (h0 : Heap) (n0 : Nat) (v : Option Value) (h : Heap) (L : List Loc) : Prop := v = some (.long (own_max q0 q2)) ∧ Fr n0 L ∧ h = h0
set_option maxRecDepth 65536 in
set_option maxHeartbeats 40000000 in
theorem rm6 (l : Launch) (Z : State) (a0 : Array Value) (hw : ∀ d ∈ tables_1, d.before a0 Z = true) (ws : List Jvm.Cond) (q0 : Int64) (q2 : Int64) (h0 : Heap) (n0 : Nat) (Z0 : n0 ≤ h0.size) :
    MetFree l (⟨"java/lang/Math", "max", "(JJ)J"⟩ : MethodName) (head1 (Jvm.Cond.code (⟨"java/lang/Math", "max", "(JJ)J"⟩ : MethodName) jdk_29_method_66_code 4 (some .long) :: ws) ({ frames := 0, cells := 0, slots := 0, locals := 0 } : Room)) (fun a U => a = #[(.long q0), (.long q2)] ∧ Z.Warmed39 U.vm ∧ U.heap = h0) (fun _ _ _ _ _ => True) (fun _ U o U' => ∃ v L, o = .returned v ∧ Q6 Z q0 q2 h0 n0 v U'.heap L ∧ FrameEnd U o U' L ({ frames := 0, cells := 0, slots := 0, locals := 0 } : Room).cells ({ frames := 0, cells := 0, slots := 0, locals := 0 } : Room).slots) := by
  refine MetFree.of_bodySF (Jvm.Free.JP.mathPlain rfl (by decide +kernel)) hisR ?_
  intro p e s m args below meth c s₁ Bd hml0 hP hK
  obtain ⟨rfl, hZ, hh⟩ := hP
  have hx := Bd.exec
  have hby := Bd.bytes
  have hlk := Bd.notSynchronized
  have hrt := Bd.returns
  have hml : c.maxLocals = 4 := hml0
  have hown : s.vm.findClass "java/lang/Math" = some m.cls := findClass_of_methodNamed Bd.named
  have hnm := (name_of_methodNamed Bd.named Bd.method).1
  have X0 : Stand p l e ({ frames := 0, cells := 0, slots := 0, locals := 0 } : Room) s m #[(.long q0), (.long q2)] below meth c s₁ [] 0 0 := Stand.of_body Bd
  have e0 : s₁.heap = h0 := by rw [← hh, Bd.state]; rfl
  have N0 := Fr.nil n0
  have K0 := Keep.refl h0 []
  refine own_out (Q := Q6 Z q0 q2 h0 n0) ?_
  refine own_in (ef_6 m q0 q2) ?_
  show own_Go _ _ _ _ s₁ (mkF m 0 #[.val (.long q0), .second, .val (.long q2), .second] [])
  refine own_st (fun t k => XS.lloadN X0.here hx rfl (hb hby d6_0) rfl k) ?_
  show own_Go _ _ _ _ s₁ (mkF m 1 #[.val (.long q0), .second, .val (.long q2), .second] [(.long q0)])
  refine own_st (fun t k => XS.lloadN X0.here hx rfl (hb hby d6_1) rfl k) ?_
  show own_Go _ _ _ _ s₁ (mkF m 2 #[.val (.long q0), .second, .val (.long q2), .second] [(.long q2), (.long q0)])
  refine own_st (fun t k => XS.lcmp X0.here hx rfl (hb hby d6_2) rfl k) ?_
  show own_Go _ _ _ _ s₁ (mkF m 3 #[.val (.long q0), .second, .val (.long q2), .second] [(.int (lcmpW q0 q2))])
  by_cases c3_1 : q0 < q2
  ·
    refine own_st (fun t k => XS.ifYes X0.here hx rfl (pc0 := 3) (pc' := 10) rfl (hb hby d6_3) rfl ((if0 _ _).trans (tlt ((lw_lt _ _).mpr c3_1)).1) (by decide) (by decide) k) ?_
    show own_Go _ _ _ _ s₁ (mkF m 10 #[.val (.long q0), .second, .val (.long q2), .second] [])
    refine own_st (fun t k => XS.lloadN X0.here hx rfl (hb hby d6_10) rfl k) ?_
    show own_Go _ _ _ _ s₁ (mkF m 11 #[.val (.long q0), .second, .val (.long q2), .second] [(.long q2)])
    exact own_retJ X0 hx hlk hrt (hb hby d6_11) ⟨(by simp only [own_max, if_pos c3_1]; first | rfl | done), N0, e0⟩ (by decide) (by decide)
  ·
    refine own_st (fun t k => XS.ifNo X0.here hx rfl (hb hby d6_3) rfl ((if0 _ _).trans (flt (fun q => c3_1 ((lw_lt _ _).mp q))).1) k) ?_
    show own_Go _ _ _ _ s₁ (mkF m 6 #[.val (.long q0), .second, .val (.long q2), .second] [])
    refine own_st (fun t k => XS.lloadN X0.here hx rfl (hb hby d6_6) rfl k) ?_
    show own_Go _ _ _ _ s₁ (mkF m 7 #[.val (.long q0), .second, .val (.long q2), .second] [(.long q0)])
    refine own_st (fun t k => XS.goto X0.here hx rfl (pc0 := 7) (pc' := 11) rfl (hb hby d6_7) (by decide) (by decide) k) ?_
    show own_Go _ _ _ _ s₁ (mkF m 11 #[.val (.long q0), .second, .val (.long q2), .second] [(.long q0)])
    exact own_retJ X0 hx hlk hrt (hb hby d6_11) ⟨(by simp only [own_max, if_neg c3_1]; first | rfl | done), N0, e0⟩ (by decide) (by decide)
theorem own_c_none {f l v : Int64} (h : l < f) : own_c v f l = 0 := by
  by_cases h1 : v < f
  · simp only [own_c, if_pos h1]
  · have h2 : l < v := by rw [Int64.lt_iff_toInt_lt] at *; omega
    simp only [own_c, if_neg h1, if_pos h2]
theorem own_mm {f l v : Int64} (h : ¬ l < f) : own_max f (own_min v l) = v ↔ (¬ v < f ∧ ¬ l < v) := by
  have e : ∀ x y : Int64, x = y ↔ x.toInt = y.toInt := fun x y => Int64.toInt_inj.symm
  have hm : own_min v l = if l < v then l else v := rfl
  by_cases a : l < v
  · rw [if_pos a] at hm
    rw [hm]
    by_cases b : f < l
    · simp only [own_max, if_pos b]; rw [e]; simp only [Int64.lt_iff_toInt_lt] at *; omega
    · simp only [own_max, if_neg b]; rw [e]; simp only [Int64.lt_iff_toInt_lt] at *; omega
  · rw [if_neg a] at hm
    rw [hm]
    by_cases b : f < v
    · have hx : own_max f v = v := by simp only [own_max, if_pos b]
      rw [hx]
      exact ⟨fun _ => ⟨by simp only [Int64.lt_iff_toInt_lt] at *; omega, a⟩, fun _ => rfl⟩
    · simp only [own_max, if_neg b]; rw [e]; simp only [Int64.lt_iff_toInt_lt] at *; omega
theorem own_c_in {f l v : Int64} (h : ¬ l < f) (q : own_max f (own_min v l) = v) : own_c v f l = 1 := by
  obtain ⟨h1, h2⟩ := (own_mm h).mp q
  simp only [own_c, if_neg h1, if_neg h2]
theorem own_c_out {f l v : Int64} (h : ¬ l < f) (q : ¬ own_max f (own_min v l) = v) : own_c v f l = 0 := by
  by_cases h1 : v < f
  · simp only [own_c, if_pos h1]
  · by_cases h2 : l < v
    · simp only [own_c, if_neg h1, if_pos h2]
    · exact absurd ((own_mm h).mpr ⟨h1, h2⟩) q

theorem pd__28JJ_29V : parseMethodDescriptor "(JJ)V" = some ⟨[.long, .long], none⟩ := by decide +kernel
theorem pd__28J_29Z : parseMethodDescriptor "(J)Z" = some ⟨[.long], some .boolean⟩ := by decide +kernel
theorem pd__28JJ_29J : parseMethodDescriptor "(JJ)J" = some ⟨[.long, .long], some .long⟩ := by decide +kernel
/-! body 0: VersionRangeContainsPinLaw.law -/
theorem pn_com_example_decel_decel_store_VersionRangeContainsPinLaw : plainName "com/example/decel/decel/store/VersionRangeContainsPinLaw" = true := by first | (simp [plainName, overriddenIn]; done) | decide +kernel
theorem ef_0 (m : MethodId) (x0 : Int64) (x1 : Int64) (x2 : Int64) (x3 : Int32) : entryFrame m #[(.long x0), (.long x1), (.long x2), (.int x3)] maxLocals = mkF m 0 #[.val (.long x0), .second, .val (.long x1), .second, .val (.long x2), .second, .val (.int x3), .unset, .unset, .unset, .unset, .unset, .unset, .unset, .unset, .unset, .unset, .unset, .unset] [] := by first | (simp [entryFrame, mkF, argsToLocals, Value.category, maxLocals]; done) | rfl
def Q0 (Z : State) (q0 : Int64) (q1 : Int64) (q2 : Int64) (p3 : Int32) (h0 : Heap) (n0 : Nat) (v : Option Value) (h : Heap) (L : List Loc) : Prop := v = some (.int (1 : Int32)) ∧ Fr n0 L
set_option maxRecDepth 65536 in
set_option maxHeartbeats 40000000 in
theorem rm0 (l : Launch) (Z : State) (a0 : Array Value) (hw : ∀ d ∈ tables_1, d.before a0 Z = true) (ws : List Jvm.Cond) (q0 : Int64) (q1 : Int64) (q2 : Int64) (p3 : Int32) (h0 : Heap) (n0 : Nat) (Z0 : n0 ≤ h0.size) :
    MetFree l x (head1 (Jvm.Cond.code x code maxLocals ret :: ws) room_1) (fun a U => a = #[(.long q0), (.long q1), (.long q2), (.int p3)] ∧ Z.Warmed39 U.vm ∧ U.heap = h0) (fun _ _ _ _ _ => True) (fun _ U o U' => ∃ v L, o = .returned v ∧ Q0 Z q0 q1 q2 p3 h0 n0 v U'.heap L ∧ FrameEnd U o U' L 1 2) := by
  refine MetFree.of_bodySF (plainFor_of_name pn_com_example_decel_decel_store_VersionRangeContainsPinLaw) hisR ?_
  intro p e s m args below meth c s₁ Bd hml0 hP hK
  obtain ⟨rfl, hZ, hh⟩ := hP
  have hx := Bd.exec
  have hby := Bd.bytes
  have hlk := Bd.notSynchronized
  have hrt := Bd.returns
  have hml : c.maxLocals = 19 := hml0
  have hown : s.vm.findClass "com/example/decel/decel/store/VersionRangeContainsPinLaw" = some m.cls := findClass_of_methodNamed Bd.named
  have hnm := (name_of_methodNamed Bd.named Bd.method).1
  have X0 : Stand p l e room_1 s m #[(.long q0), (.long q1), (.long q2), (.int p3)] below meth c s₁ [] 0 0 := Stand.of_body Bd
  have e0 : s₁.heap = h0 := by rw [← hh, Bd.state]; rfl
  have N0 := Fr.nil n0
  have K0 := Keep.refl h0 []
  refine own_out (Q := Q0 Z q0 q1 q2 p3 h0 n0) ?_
  refine own_in (ef_0 m q0 q1 q2 p3) ?_
  have JG100 : ∀ (fr : Int64) (la : Int64) (ve : Int64), ¬ (fr < (0 : Int64)) → own_Go p.tables e below (own_Fin below s (Q0 Z q0 q1 q2 p3 h0 n0) 1 2) s₁ (mkF m 100 #[.val (.long q0), .second, .val (.long q1), .second, .val (.long q2), .second, .val (.int p3), .val (.long fr), .second, .val (.long la), .second, .val (.int (p3 &&& (7 : Int32))), .val (.long (((((p3.toUInt32 >>> ((3 : Int32) &&& 31).toUInt32).toInt32) &&& (3 : Int32)) - (1 : Int32)).toInt64)), .second, .val (.long ve), .second, .unset, .unset, .unset] []) := by
    intro fr la ve  hfr
    show own_Go _ _ _ _ s₁ (mkF m 100 #[.val (.long q0), .second, .val (.long q1), .second, .val (.long q2), .second, .val (.int p3), .val (.long fr), .second, .val (.long la), .second, .val (.int (p3 &&& (7 : Int32))), .val (.long (((((p3.toUInt32 >>> ((3 : Int32) &&& 31).toUInt32).toInt32) &&& (3 : Int32)) - (1 : Int32)).toInt64)), .second, .val (.long ve), .second, .unset, .unset, .unset] [])
    obtain ⟨T1, h1, X1, e1, E1, A1, D1, -, st1⟩ := newO X0 hx hZ hown (hw _ (List.mem_of_getElem? (i := 1) rfl)) (hw _ (List.mem_of_getElem? (i := 2) rfl)) (hw _ (List.mem_of_getElem? (i := 3) rfl)) e0 (g := (mkF m 100 #[.val (.long q0), .second, .val (.long q1), .second, .val (.long q2), .second, .val (.int p3), .val (.long fr), .second, .val (.long la), .second, .val (.int (p3 &&& (7 : Int32))), .val (.long (((((p3.toUInt32 >>> ((3 : Int32) &&& 31).toUInt32).toInt32) &&& (3 : Int32)) - (1 : Int32)).toInt64)), .second, .val (.long ve), .second, .unset, .unset, .unset] [])) rfl (hb hby at_100) (by decide) (by decide)
    obtain ⟨b1, g1⟩ : ∃ z, z = h0.size := ⟨_, rfl⟩
    rw [← g1] at A1 D1 st1
    have sz_b1 : h0.size ≤ b1 := Nat.le_trans K0.1 (Nat.le_of_eq g1.symm)
    have g_b1 : n0 ≤ b1 := Nat.le_trans Z0 sz_b1
    have F1_from : Fld Z h1 b1 "com/example/decel/decel/store/VersionRange" "from" "J" (.long (0 : Int64)) := D1 (Or.inr (hw _ (List.mem_of_getElem? (i := 16) rfl))) (ty := .long) (by decide)
    have F1_last : Fld Z h1 b1 "com/example/decel/decel/store/VersionRange" "last" "J" (.long (0 : Int64)) := D1 (Or.inr (hw _ (List.mem_of_getElem? (i := 18) rfl))) (ty := .long) (by decide)
    refine own_st st1 ?_
    show own_Go _ _ _ _ T1 (mkF m 103 #[.val (.long q0), .second, .val (.long q1), .second, .val (.long q2), .second, .val (.int p3), .val (.long fr), .second, .val (.long la), .second, .val (.int (p3 &&& (7 : Int32))), .val (.long (((((p3.toUInt32 >>> ((3 : Int32) &&& 31).toUInt32).toInt32) &&& (3 : Int32)) - (1 : Int32)).toInt64)), .second, .val (.long ve), .second, .unset, .unset, .unset] [(.ref b1)])
    refine own_st (fun t k => XS.dup X1.here hx rfl (hb hby at_103) rfl rfl k) ?_
    show own_Go _ _ _ _ T1 (mkF m 104 #[.val (.long q0), .second, .val (.long q1), .second, .val (.long q2), .second, .val (.int p3), .val (.long fr), .second, .val (.long la), .second, .val (.int (p3 &&& (7 : Int32))), .val (.long (((((p3.toUInt32 >>> ((3 : Int32) &&& 31).toUInt32).toInt32) &&& (3 : Int32)) - (1 : Int32)).toInt64)), .second, .val (.long ve), .second, .unset, .unset, .unset] [(.ref b1), (.ref b1)])
    refine own_st (fun t k => XS.lload X1.here hx rfl (hb hby at_104) rfl k) ?_
    show own_Go _ _ _ _ T1 (mkF m 106 #[.val (.long q0), .second, .val (.long q1), .second, .val (.long q2), .second, .val (.int p3), .val (.long fr), .second, .val (.long la), .second, .val (.int (p3 &&& (7 : Int32))), .val (.long (((((p3.toUInt32 >>> ((3 : Int32) &&& 31).toUInt32).toInt32) &&& (3 : Int32)) - (1 : Int32)).toInt64)), .second, .val (.long ve), .second, .unset, .unset, .unset] [(.long fr), (.ref b1), (.ref b1)])
    refine own_st (fun t k => XS.lload X1.here hx rfl (hb hby at_106) rfl k) ?_
    show own_Go _ _ _ _ T1 (mkF m 108 #[.val (.long q0), .second, .val (.long q1), .second, .val (.long q2), .second, .val (.int p3), .val (.long fr), .second, .val (.long la), .second, .val (.int (p3 &&& (7 : Int32))), .val (.long (((((p3.toUInt32 >>> ((3 : Int32) &&& 31).toUInt32).toInt32) &&& (3 : Int32)) - (1 : Int32)).toInt64)), .second, .val (.long ve), .second, .unset, .unset, .unset] [(.long la), (.long fr), (.ref b1), (.ref b1)])
    have K0_3 := (K0.ext E1)
    obtain ⟨_, _, ⟨T2, L2, k2, n2⟩, -, X2, ⟨Lc2, hQ2, l2, y2, z2⟩, st2⟩ := X1.specialBack hx (y := (⟨"com/example/decel/decel/store/VersionRange", "<init>", "(JJ)V"⟩ : MethodName)) rfl hown (mvT hZ (hw _ (List.mem_of_getElem? (i := 4) rfl))) (mvT hZ (hw _ (List.mem_of_getElem? (i := 5) rfl))) (mvT hZ (hw _ (List.mem_of_getElem? (i := 6) rfl))) (by decide) (backOf (W := 1) (rm1 l Z a0 hw [] b1 fr la  h1 n0 (Nat.le_trans Z0 K0_3.1) A1 F1_from F1_last g_b1 hfr) hZ (hw _ (List.mem_of_getElem? (i := 6) rfl)) (hw _ (List.mem_of_getElem? (i := 3) rfl)) (by decide) (by decide)) (g := (mkF m 108 #[.val (.long q0), .second, .val (.long q1), .second, .val (.long q2), .second, .val (.int p3), .val (.long fr), .second, .val (.long la), .second, .val (.int (p3 &&& (7 : Int32))), .val (.long (((((p3.toUInt32 >>> ((3 : Int32) &&& 31).toUInt32).toInt32) &&& (3 : Int32)) - (1 : Int32)).toInt64)), .second, .val (.long ve), .second, .unset, .unset, .unset] [(.long la), (.long fr), (.ref b1), (.ref b1)])) rfl (by rw [hml]; rfl) (Steps.refl _) (a := b1) (argsL := [(.long fr), (.long la)]) (rest := [(.ref b1)]) (lenOf pd__28JJ_29V rfl) rfl (by show 2 * 0 + _ ≤ _; exact Nat.le_of_eq rfl) (hb hby at_108) (fun _ _ => ⟨rfl, e1, (by decide : 1 + 0 ≤ _), (by decide : 2 + 0 ≤ _)⟩)
    dsimp only [Pt.U, Pt.locs, Pt.cells, Pt.slots] at X2 l2 y2 z2 st2 hQ2
    subst l2 y2 z2
    obtain ⟨rfl, N2q, K2, G2_0, G2_1⟩ := hQ2
    have N2 := Fr.app N0 N2q
    refine own_tr st2 ?_
    show own_Go _ _ _ _ T2 (mkF m 111 #[.val (.long q0), .second, .val (.long q1), .second, .val (.long q2), .second, .val (.int p3), .val (.long fr), .second, .val (.long la), .second, .val (.int (p3 &&& (7 : Int32))), .val (.long (((((p3.toUInt32 >>> ((3 : Int32) &&& 31).toUInt32).toInt32) &&& (3 : Int32)) - (1 : Int32)).toInt64)), .second, .val (.long ve), .second, .unset, .unset, .unset] [(.ref b1)])
    refine own_st (fun t k => XS.astore X2.here hx rfl (hb hby at_111) rfl rfl (l' := #[.val (.long q0), .second, .val (.long q1), .second, .val (.long q2), .second, .val (.int p3), .val (.long fr), .second, .val (.long la), .second, .val (.int (p3 &&& (7 : Int32))), .val (.long (((((p3.toUInt32 >>> ((3 : Int32) &&& 31).toUInt32).toInt32) &&& (3 : Int32)) - (1 : Int32)).toInt64)), .second, .val (.long ve), .second, .val (.ref b1), .unset, .unset]) rfl k) ?_
    show own_Go _ _ _ _ T2 (mkF m 113 #[.val (.long q0), .second, .val (.long q1), .second, .val (.long q2), .second, .val (.int p3), .val (.long fr), .second, .val (.long la), .second, .val (.int (p3 &&& (7 : Int32))), .val (.long (((((p3.toUInt32 >>> ((3 : Int32) &&& 31).toUInt32).toInt32) &&& (3 : Int32)) - (1 : Int32)).toInt64)), .second, .val (.long ve), .second, .val (.ref b1), .unset, .unset] [])
    refine own_st (fun t k => XS.aload X2.here hx rfl (hb hby at_113) rfl rfl k) ?_
    show own_Go _ _ _ _ T2 (mkF m 115 #[.val (.long q0), .second, .val (.long q1), .second, .val (.long q2), .second, .val (.int p3), .val (.long fr), .second, .val (.long la), .second, .val (.int (p3 &&& (7 : Int32))), .val (.long (((((p3.toUInt32 >>> ((3 : Int32) &&& 31).toUInt32).toInt32) &&& (3 : Int32)) - (1 : Int32)).toInt64)), .second, .val (.long ve), .second, .val (.ref b1), .unset, .unset] [(.ref b1)])
    refine own_st (fun t k => XS.lload X2.here hx rfl (hb hby at_115) rfl k) ?_
    show own_Go _ _ _ _ T2 (mkF m 117 #[.val (.long q0), .second, .val (.long q1), .second, .val (.long q2), .second, .val (.int p3), .val (.long fr), .second, .val (.long la), .second, .val (.int (p3 &&& (7 : Int32))), .val (.long (((((p3.toUInt32 >>> ((3 : Int32) &&& 31).toUInt32).toInt32) &&& (3 : Int32)) - (1 : Int32)).toInt64)), .second, .val (.long ve), .second, .val (.ref b1), .unset, .unset] [(.long ve), (.ref b1)])
    have K0_5 := (K0_3.trans K2 (allS ((Or.inr sz_b1)) all0))
    have A1_6 := (A1.keep K2)
    obtain ⟨cq4, kq4, q4a, q4b, q4c⟩ := isOf hZ rfl A1_6
    obtain ⟨_, _, ⟨T4, L4, k4, n4⟩, -, X4, ⟨Lc4, hQ4, l4, y4, z4⟩, st4⟩ := X2.virtualBack hx (y := (⟨"com/example/decel/decel/store/VersionRange", "contains", "(J)Z"⟩ : MethodName)) (z := (⟨"com/example/decel/decel/store/VersionRange", "contains", "(J)Z"⟩ : MethodName)) hown (mvT hZ (hw _ (List.mem_of_getElem? (i := 19) rfl))) (mvT hZ (hw _ (List.mem_of_getElem? (i := 20) rfl))) (notFace_of_selects (args := #[]) (mvT hZ (hw _ (List.mem_of_getElem? (i := 22) rfl)))) (mvT hZ (hw _ (List.mem_of_getElem? (i := 22) rfl))) (mvT hZ (hw _ (List.mem_of_getElem? (i := 21) rfl))) (by decide) (backOf (W := 0) (rm4 l Z a0 hw [] b1 ve fr la  T2.heap n0 (Nat.le_trans Z0 K0_5.1) G2_0 G2_1) hZ (hw _ (List.mem_of_getElem? (i := 23) rfl)) (hw _ (List.mem_of_getElem? (i := 3) rfl)) (by decide) (by decide)) q4a q4c (g := (mkF m 117 #[.val (.long q0), .second, .val (.long q1), .second, .val (.long q2), .second, .val (.int p3), .val (.long fr), .second, .val (.long la), .second, .val (.int (p3 &&& (7 : Int32))), .val (.long (((((p3.toUInt32 >>> ((3 : Int32) &&& 31).toUInt32).toInt32) &&& (3 : Int32)) - (1 : Int32)).toInt64)), .second, .val (.long ve), .second, .val (.ref b1), .unset, .unset] [(.long ve), (.ref b1)])) rfl (by rw [hml]; rfl) (Steps.refl _) (argsL := [(.long ve)]) (rest := []) (lenOf pd__28J_29Z rfl) rfl (by show 2 * 0 + _ ≤ _; exact Nat.le_of_eq rfl) (hb hby at_117) (fun _ _ => ⟨rfl, rfl, (by decide : 1 + 0 ≤ _), (by decide : 2 + 0 ≤ _)⟩)
    dsimp only [Pt.U, Pt.locs, Pt.cells, Pt.slots] at X4 l4 y4 z4 st4 hQ4
    subst l4 y4 z4
    obtain ⟨rfl, N4q, e4⟩ := hQ4
    have N4 := Fr.app N2 N4q
    refine own_tr st4 ?_
    show own_Go _ _ _ _ T4 (mkF m 120 #[.val (.long q0), .second, .val (.long q1), .second, .val (.long q2), .second, .val (.int p3), .val (.long fr), .second, .val (.long la), .second, .val (.int (p3 &&& (7 : Int32))), .val (.long (((((p3.toUInt32 >>> ((3 : Int32) &&& 31).toUInt32).toInt32) &&& (3 : Int32)) - (1 : Int32)).toInt64)), .second, .val (.long ve), .second, .val (.ref b1), .unset, .unset] [(.int (own_c ve fr la))])
    refine own_st (fun t k => XS.istore X4.here hx rfl (hb hby at_120) rfl (l' := #[.val (.long q0), .second, .val (.long q1), .second, .val (.long q2), .second, .val (.int p3), .val (.long fr), .second, .val (.long la), .second, .val (.int (p3 &&& (7 : Int32))), .val (.long (((((p3.toUInt32 >>> ((3 : Int32) &&& 31).toUInt32).toInt32) &&& (3 : Int32)) - (1 : Int32)).toInt64)), .second, .val (.long ve), .second, .val (.ref b1), .val (.int (own_c ve fr la)), .unset]) rfl k) ?_
    show own_Go _ _ _ _ T4 (mkF m 122 #[.val (.long q0), .second, .val (.long q1), .second, .val (.long q2), .second, .val (.int p3), .val (.long fr), .second, .val (.long la), .second, .val (.int (p3 &&& (7 : Int32))), .val (.long (((((p3.toUInt32 >>> ((3 : Int32) &&& 31).toUInt32).toInt32) &&& (3 : Int32)) - (1 : Int32)).toInt64)), .second, .val (.long ve), .second, .val (.ref b1), .val (.int (own_c ve fr la)), .unset] [])
    refine own_st (fun t k => XS.lload X4.here hx rfl (hb hby at_122) rfl k) ?_
    show own_Go _ _ _ _ T4 (mkF m 124 #[.val (.long q0), .second, .val (.long q1), .second, .val (.long q2), .second, .val (.int p3), .val (.long fr), .second, .val (.long la), .second, .val (.int (p3 &&& (7 : Int32))), .val (.long (((((p3.toUInt32 >>> ((3 : Int32) &&& 31).toUInt32).toInt32) &&& (3 : Int32)) - (1 : Int32)).toInt64)), .second, .val (.long ve), .second, .val (.ref b1), .val (.int (own_c ve fr la)), .unset] [(.long la)])
    refine own_st (fun t k => XS.lload X4.here hx rfl (hb hby at_124) rfl k) ?_
    show own_Go _ _ _ _ T4 (mkF m 126 #[.val (.long q0), .second, .val (.long q1), .second, .val (.long q2), .second, .val (.int p3), .val (.long fr), .second, .val (.long la), .second, .val (.int (p3 &&& (7 : Int32))), .val (.long (((((p3.toUInt32 >>> ((3 : Int32) &&& 31).toUInt32).toInt32) &&& (3 : Int32)) - (1 : Int32)).toInt64)), .second, .val (.long ve), .second, .val (.ref b1), .val (.int (own_c ve fr la)), .unset] [(.long fr), (.long la)])
    refine own_st (fun t k => XS.lcmp X4.here hx rfl (hb hby at_126) rfl k) ?_
    show own_Go _ _ _ _ T4 (mkF m 127 #[.val (.long q0), .second, .val (.long q1), .second, .val (.long q2), .second, .val (.int p3), .val (.long fr), .second, .val (.long la), .second, .val (.int (p3 &&& (7 : Int32))), .val (.long (((((p3.toUInt32 >>> ((3 : Int32) &&& 31).toUInt32).toInt32) &&& (3 : Int32)) - (1 : Int32)).toInt64)), .second, .val (.long ve), .second, .val (.ref b1), .val (.int (own_c ve fr la)), .unset] [(.int (lcmpW la fr))])
    by_cases c127_7 : la < fr
    ·
      refine own_st (fun t k => XS.ifYes X4.here hx rfl (pc0 := 127) (pc' := 152) rfl (hb hby at_127) rfl ((if0 _ _).trans (tlt ((lw_lt _ _).mpr c127_7)).1) (by decide) (by decide) k) ?_
      show own_Go _ _ _ _ T4 (mkF m 152 #[.val (.long q0), .second, .val (.long q1), .second, .val (.long q2), .second, .val (.int p3), .val (.long fr), .second, .val (.long la), .second, .val (.int (p3 &&& (7 : Int32))), .val (.long (((((p3.toUInt32 >>> ((3 : Int32) &&& 31).toUInt32).toInt32) &&& (3 : Int32)) - (1 : Int32)).toInt64)), .second, .val (.long ve), .second, .val (.ref b1), .val (.int (own_c ve fr la)), .unset] [])
      refine own_st (fun t k => XS.iconst X4.here hx rfl (hb hby at_152) k) ?_
      show own_Go _ _ _ _ T4 (mkF m 153 #[.val (.long q0), .second, .val (.long q1), .second, .val (.long q2), .second, .val (.int p3), .val (.long fr), .second, .val (.long la), .second, .val (.int (p3 &&& (7 : Int32))), .val (.long (((((p3.toUInt32 >>> ((3 : Int32) &&& 31).toUInt32).toInt32) &&& (3 : Int32)) - (1 : Int32)).toInt64)), .second, .val (.long ve), .second, .val (.ref b1), .val (.int (own_c ve fr la)), .unset] [(.int (0 : Int32))])
      refine own_st (fun t k => XS.istore X4.here hx rfl (hb hby at_153) rfl (l' := #[.val (.long q0), .second, .val (.long q1), .second, .val (.long q2), .second, .val (.int p3), .val (.long fr), .second, .val (.long la), .second, .val (.int (p3 &&& (7 : Int32))), .val (.long (((((p3.toUInt32 >>> ((3 : Int32) &&& 31).toUInt32).toInt32) &&& (3 : Int32)) - (1 : Int32)).toInt64)), .second, .val (.long ve), .second, .val (.ref b1), .val (.int (own_c ve fr la)), .val (.int (0 : Int32))]) rfl k) ?_
      show own_Go _ _ _ _ T4 (mkF m 155 #[.val (.long q0), .second, .val (.long q1), .second, .val (.long q2), .second, .val (.int p3), .val (.long fr), .second, .val (.long la), .second, .val (.int (p3 &&& (7 : Int32))), .val (.long (((((p3.toUInt32 >>> ((3 : Int32) &&& 31).toUInt32).toInt32) &&& (3 : Int32)) - (1 : Int32)).toInt64)), .second, .val (.long ve), .second, .val (.ref b1), .val (.int (own_c ve fr la)), .val (.int (0 : Int32))] [])
      refine own_st (fun t k => XS.iload X4.here hx rfl (hb hby at_155) rfl k) ?_
      show own_Go _ _ _ _ T4 (mkF m 157 #[.val (.long q0), .second, .val (.long q1), .second, .val (.long q2), .second, .val (.int p3), .val (.long fr), .second, .val (.long la), .second, .val (.int (p3 &&& (7 : Int32))), .val (.long (((((p3.toUInt32 >>> ((3 : Int32) &&& 31).toUInt32).toInt32) &&& (3 : Int32)) - (1 : Int32)).toInt64)), .second, .val (.long ve), .second, .val (.ref b1), .val (.int (own_c ve fr la)), .val (.int (0 : Int32))] [(.int (own_c ve fr la))])
      refine own_st (fun t k => XS.iload X4.here hx rfl (hb hby at_157) rfl k) ?_
      show own_Go _ _ _ _ T4 (mkF m 159 #[.val (.long q0), .second, .val (.long q1), .second, .val (.long q2), .second, .val (.int p3), .val (.long fr), .second, .val (.long la), .second, .val (.int (p3 &&& (7 : Int32))), .val (.long (((((p3.toUInt32 >>> ((3 : Int32) &&& 31).toUInt32).toInt32) &&& (3 : Int32)) - (1 : Int32)).toInt64)), .second, .val (.long ve), .second, .val (.ref b1), .val (.int (own_c ve fr la)), .val (.int (0 : Int32))] [(.int (0 : Int32)), (.int (own_c ve fr la))])
      refine own_st (fun t k => XS.icmpNo X4.here hx rfl (hb hby at_159) rfl (teq (own_c_none c127_7 : (own_c ve fr la) = (0 : Int32))).2 k) ?_
      show own_Go _ _ _ _ T4 (mkF m 162 #[.val (.long q0), .second, .val (.long q1), .second, .val (.long q2), .second, .val (.int p3), .val (.long fr), .second, .val (.long la), .second, .val (.int (p3 &&& (7 : Int32))), .val (.long (((((p3.toUInt32 >>> ((3 : Int32) &&& 31).toUInt32).toInt32) &&& (3 : Int32)) - (1 : Int32)).toInt64)), .second, .val (.long ve), .second, .val (.ref b1), .val (.int (own_c ve fr la)), .val (.int (0 : Int32))] [])
      refine own_st (fun t k => XS.iconst X4.here hx rfl (hb hby at_162) k) ?_
      show own_Go _ _ _ _ T4 (mkF m 163 #[.val (.long q0), .second, .val (.long q1), .second, .val (.long q2), .second, .val (.int p3), .val (.long fr), .second, .val (.long la), .second, .val (.int (p3 &&& (7 : Int32))), .val (.long (((((p3.toUInt32 >>> ((3 : Int32) &&& 31).toUInt32).toInt32) &&& (3 : Int32)) - (1 : Int32)).toInt64)), .second, .val (.long ve), .second, .val (.ref b1), .val (.int (own_c ve fr la)), .val (.int (0 : Int32))] [(.int (1 : Int32))])
      refine own_st (fun t k => XS.goto X4.here hx rfl (pc0 := 163) (pc' := 167) rfl (hb hby at_163) (by decide) (by decide) k) ?_
      show own_Go _ _ _ _ T4 (mkF m 167 #[.val (.long q0), .second, .val (.long q1), .second, .val (.long q2), .second, .val (.int p3), .val (.long fr), .second, .val (.long la), .second, .val (.int (p3 &&& (7 : Int32))), .val (.long (((((p3.toUInt32 >>> ((3 : Int32) &&& 31).toUInt32).toInt32) &&& (3 : Int32)) - (1 : Int32)).toInt64)), .second, .val (.long ve), .second, .val (.ref b1), .val (.int (own_c ve fr la)), .val (.int (0 : Int32))] [(.int (1 : Int32))])
      exact own_retN X4 hx hlk (t := .boolean) hrt (by simp) (hb hby at_167) ⟨rfl, N4⟩ (by decide) (by decide)
    ·
      refine own_st (fun t k => XS.ifNo X4.here hx rfl (hb hby at_127) rfl ((if0 _ _).trans (flt (fun q => c127_7 ((lw_lt _ _).mp q))).1) k) ?_
      show own_Go _ _ _ _ T4 (mkF m 130 #[.val (.long q0), .second, .val (.long q1), .second, .val (.long q2), .second, .val (.int p3), .val (.long fr), .second, .val (.long la), .second, .val (.int (p3 &&& (7 : Int32))), .val (.long (((((p3.toUInt32 >>> ((3 : Int32) &&& 31).toUInt32).toInt32) &&& (3 : Int32)) - (1 : Int32)).toInt64)), .second, .val (.long ve), .second, .val (.ref b1), .val (.int (own_c ve fr la)), .unset] [])
      refine own_st (fun t k => XS.lload X4.here hx rfl (hb hby at_130) rfl k) ?_
      show own_Go _ _ _ _ T4 (mkF m 132 #[.val (.long q0), .second, .val (.long q1), .second, .val (.long q2), .second, .val (.int p3), .val (.long fr), .second, .val (.long la), .second, .val (.int (p3 &&& (7 : Int32))), .val (.long (((((p3.toUInt32 >>> ((3 : Int32) &&& 31).toUInt32).toInt32) &&& (3 : Int32)) - (1 : Int32)).toInt64)), .second, .val (.long ve), .second, .val (.ref b1), .val (.int (own_c ve fr la)), .unset] [(.long fr)])
      refine own_st (fun t k => XS.lload X4.here hx rfl (hb hby at_132) rfl k) ?_
      show own_Go _ _ _ _ T4 (mkF m 134 #[.val (.long q0), .second, .val (.long q1), .second, .val (.long q2), .second, .val (.int p3), .val (.long fr), .second, .val (.long la), .second, .val (.int (p3 &&& (7 : Int32))), .val (.long (((((p3.toUInt32 >>> ((3 : Int32) &&& 31).toUInt32).toInt32) &&& (3 : Int32)) - (1 : Int32)).toInt64)), .second, .val (.long ve), .second, .val (.ref b1), .val (.int (own_c ve fr la)), .unset] [(.long ve), (.long fr)])
      refine own_st (fun t k => XS.lload X4.here hx rfl (hb hby at_134) rfl k) ?_
      show own_Go _ _ _ _ T4 (mkF m 136 #[.val (.long q0), .second, .val (.long q1), .second, .val (.long q2), .second, .val (.int p3), .val (.long fr), .second, .val (.long la), .second, .val (.int (p3 &&& (7 : Int32))), .val (.long (((((p3.toUInt32 >>> ((3 : Int32) &&& 31).toUInt32).toInt32) &&& (3 : Int32)) - (1 : Int32)).toInt64)), .second, .val (.long ve), .second, .val (.ref b1), .val (.int (own_c ve fr la)), .unset] [(.long la), (.long ve), (.long fr)])
      obtain ⟨_, _, ⟨T8, L8, k8, n8⟩, -, X8, ⟨Lc8, hQ8, l8, y8, z8⟩, st8⟩ := Jvm.LawKit.callS X4 hx (y := (⟨"java/lang/Math", "min", "(JJ)J"⟩ : MethodName)) hown (mvT hZ (hw _ (List.mem_of_getElem? (i := 24) rfl))) (mvT hZ (hw _ (List.mem_of_getElem? (i := 25) rfl))) (mvT hZ (hw _ (List.mem_of_getElem? (i := 26) rfl))) (mvT hZ (hw _ (List.mem_of_getElem? (i := 27) rfl))) (by decide) (backOf (W := 2) (rm5 l Z a0 hw [] ve la  T2.heap n0 (Nat.le_trans Z0 K0_5.1) ) hZ (hw _ (List.mem_of_getElem? (i := 27) rfl)) (hw _ (List.mem_of_getElem? (i := 26) rfl)) (by decide) (by decide)) (g := (mkF m 136 #[.val (.long q0), .second, .val (.long q1), .second, .val (.long q2), .second, .val (.int p3), .val (.long fr), .second, .val (.long la), .second, .val (.int (p3 &&& (7 : Int32))), .val (.long (((((p3.toUInt32 >>> ((3 : Int32) &&& 31).toUInt32).toInt32) &&& (3 : Int32)) - (1 : Int32)).toInt64)), .second, .val (.long ve), .second, .val (.ref b1), .val (.int (own_c ve fr la)), .unset] [(.long la), (.long ve), (.long fr)])) rfl (by rw [hml]; rfl) (argsL := [(.long ve), (.long la)]) (rest := [(.long fr)]) (lenOf pd__28JJ_29J rfl) rfl (by show 2 * 0 + _ ≤ _; exact Nat.le_of_eq rfl) (hb hby at_136) (fun _ _ => ⟨rfl, e4, (by decide : 1 + 0 ≤ _), (by decide : 2 + 0 ≤ _)⟩)
      dsimp only [Pt.U, Pt.locs, Pt.cells, Pt.slots] at X8 l8 y8 z8 st8 hQ8
      subst l8 y8 z8
      obtain ⟨rfl, N8q, e8⟩ := hQ8
      have N8 := Fr.app N4 N8q
      refine own_st st8 ?_
      show own_Go _ _ _ _ T8 (mkF m 139 #[.val (.long q0), .second, .val (.long q1), .second, .val (.long q2), .second, .val (.int p3), .val (.long fr), .second, .val (.long la), .second, .val (.int (p3 &&& (7 : Int32))), .val (.long (((((p3.toUInt32 >>> ((3 : Int32) &&& 31).toUInt32).toInt32) &&& (3 : Int32)) - (1 : Int32)).toInt64)), .second, .val (.long ve), .second, .val (.ref b1), .val (.int (own_c ve fr la)), .unset] [(.long (own_min ve la)), (.long fr)])
      obtain ⟨_, _, ⟨T9, L9, k9, n9⟩, -, X9, ⟨Lc9, hQ9, l9, y9, z9⟩, st9⟩ := Jvm.LawKit.callS X8 hx (y := (⟨"java/lang/Math", "max", "(JJ)J"⟩ : MethodName)) hown (mvT hZ (hw _ (List.mem_of_getElem? (i := 28) rfl))) (mvT hZ (hw _ (List.mem_of_getElem? (i := 29) rfl))) (mvT hZ (hw _ (List.mem_of_getElem? (i := 26) rfl))) (mvT hZ (hw _ (List.mem_of_getElem? (i := 30) rfl))) (by decide) (backOf (W := 0) (rm6 l Z a0 hw [] fr (own_min ve la)  T2.heap n0 (Nat.le_trans Z0 K0_5.1) ) hZ (hw _ (List.mem_of_getElem? (i := 30) rfl)) (hw _ (List.mem_of_getElem? (i := 26) rfl)) (by decide) (by decide)) (g := (mkF m 139 #[.val (.long q0), .second, .val (.long q1), .second, .val (.long q2), .second, .val (.int p3), .val (.long fr), .second, .val (.long la), .second, .val (.int (p3 &&& (7 : Int32))), .val (.long (((((p3.toUInt32 >>> ((3 : Int32) &&& 31).toUInt32).toInt32) &&& (3 : Int32)) - (1 : Int32)).toInt64)), .second, .val (.long ve), .second, .val (.ref b1), .val (.int (own_c ve fr la)), .unset] [(.long (own_min ve la)), (.long fr)])) rfl (by rw [hml]; rfl) (argsL := [(.long fr), (.long (own_min ve la))]) (rest := []) (lenOf pd__28JJ_29J rfl) rfl (by show 2 * 0 + _ ≤ _; exact Nat.le_of_eq rfl) (hb hby at_139) (fun _ _ => ⟨rfl, e8, (by decide : 1 + 0 ≤ _), (by decide : 2 + 0 ≤ _)⟩)
      dsimp only [Pt.U, Pt.locs, Pt.cells, Pt.slots] at X9 l9 y9 z9 st9 hQ9
      subst l9 y9 z9
      obtain ⟨rfl, N9q, e9⟩ := hQ9
      have N9 := Fr.app N8 N9q
      refine own_st st9 ?_
      show own_Go _ _ _ _ T9 (mkF m 142 #[.val (.long q0), .second, .val (.long q1), .second, .val (.long q2), .second, .val (.int p3), .val (.long fr), .second, .val (.long la), .second, .val (.int (p3 &&& (7 : Int32))), .val (.long (((((p3.toUInt32 >>> ((3 : Int32) &&& 31).toUInt32).toInt32) &&& (3 : Int32)) - (1 : Int32)).toInt64)), .second, .val (.long ve), .second, .val (.ref b1), .val (.int (own_c ve fr la)), .unset] [(.long (own_max fr (own_min ve la)))])
      refine own_st (fun t k => XS.lload X9.here hx rfl (hb hby at_142) rfl k) ?_
      show own_Go _ _ _ _ T9 (mkF m 144 #[.val (.long q0), .second, .val (.long q1), .second, .val (.long q2), .second, .val (.int p3), .val (.long fr), .second, .val (.long la), .second, .val (.int (p3 &&& (7 : Int32))), .val (.long (((((p3.toUInt32 >>> ((3 : Int32) &&& 31).toUInt32).toInt32) &&& (3 : Int32)) - (1 : Int32)).toInt64)), .second, .val (.long ve), .second, .val (.ref b1), .val (.int (own_c ve fr la)), .unset] [(.long ve), (.long (own_max fr (own_min ve la)))])
      refine own_st (fun t k => XS.lcmp X9.here hx rfl (hb hby at_144) rfl k) ?_
      show own_Go _ _ _ _ T9 (mkF m 145 #[.val (.long q0), .second, .val (.long q1), .second, .val (.long q2), .second, .val (.int p3), .val (.long fr), .second, .val (.long la), .second, .val (.int (p3 &&& (7 : Int32))), .val (.long (((((p3.toUInt32 >>> ((3 : Int32) &&& 31).toUInt32).toInt32) &&& (3 : Int32)) - (1 : Int32)).toInt64)), .second, .val (.long ve), .second, .val (.ref b1), .val (.int (own_c ve fr la)), .unset] [(.int (lcmpW (own_max fr (own_min ve la)) ve))])
      by_cases c145_10 : (own_max fr (own_min ve la)) = ve
      ·
        refine own_st (fun t k => XS.ifNo X9.here hx rfl (hb hby at_145) rfl ((if0 _ _).trans (teq ((lw_eq _ _).mpr c145_10)).2) k) ?_
        show own_Go _ _ _ _ T9 (mkF m 148 #[.val (.long q0), .second, .val (.long q1), .second, .val (.long q2), .second, .val (.int p3), .val (.long fr), .second, .val (.long la), .second, .val (.int (p3 &&& (7 : Int32))), .val (.long (((((p3.toUInt32 >>> ((3 : Int32) &&& 31).toUInt32).toInt32) &&& (3 : Int32)) - (1 : Int32)).toInt64)), .second, .val (.long ve), .second, .val (.ref b1), .val (.int (own_c ve fr la)), .unset] [])
        refine own_st (fun t k => XS.iconst X9.here hx rfl (hb hby at_148) k) ?_
        show own_Go _ _ _ _ T9 (mkF m 149 #[.val (.long q0), .second, .val (.long q1), .second, .val (.long q2), .second, .val (.int p3), .val (.long fr), .second, .val (.long la), .second, .val (.int (p3 &&& (7 : Int32))), .val (.long (((((p3.toUInt32 >>> ((3 : Int32) &&& 31).toUInt32).toInt32) &&& (3 : Int32)) - (1 : Int32)).toInt64)), .second, .val (.long ve), .second, .val (.ref b1), .val (.int (own_c ve fr la)), .unset] [(.int (1 : Int32))])
        refine own_st (fun t k => XS.goto X9.here hx rfl (pc0 := 149) (pc' := 153) rfl (hb hby at_149) (by decide) (by decide) k) ?_
        show own_Go _ _ _ _ T9 (mkF m 153 #[.val (.long q0), .second, .val (.long q1), .second, .val (.long q2), .second, .val (.int p3), .val (.long fr), .second, .val (.long la), .second, .val (.int (p3 &&& (7 : Int32))), .val (.long (((((p3.toUInt32 >>> ((3 : Int32) &&& 31).toUInt32).toInt32) &&& (3 : Int32)) - (1 : Int32)).toInt64)), .second, .val (.long ve), .second, .val (.ref b1), .val (.int (own_c ve fr la)), .unset] [(.int (1 : Int32))])
        refine own_st (fun t k => XS.istore X9.here hx rfl (hb hby at_153) rfl (l' := #[.val (.long q0), .second, .val (.long q1), .second, .val (.long q2), .second, .val (.int p3), .val (.long fr), .second, .val (.long la), .second, .val (.int (p3 &&& (7 : Int32))), .val (.long (((((p3.toUInt32 >>> ((3 : Int32) &&& 31).toUInt32).toInt32) &&& (3 : Int32)) - (1 : Int32)).toInt64)), .second, .val (.long ve), .second, .val (.ref b1), .val (.int (own_c ve fr la)), .val (.int (1 : Int32))]) rfl k) ?_
        show own_Go _ _ _ _ T9 (mkF m 155 #[.val (.long q0), .second, .val (.long q1), .second, .val (.long q2), .second, .val (.int p3), .val (.long fr), .second, .val (.long la), .second, .val (.int (p3 &&& (7 : Int32))), .val (.long (((((p3.toUInt32 >>> ((3 : Int32) &&& 31).toUInt32).toInt32) &&& (3 : Int32)) - (1 : Int32)).toInt64)), .second, .val (.long ve), .second, .val (.ref b1), .val (.int (own_c ve fr la)), .val (.int (1 : Int32))] [])
        refine own_st (fun t k => XS.iload X9.here hx rfl (hb hby at_155) rfl k) ?_
        show own_Go _ _ _ _ T9 (mkF m 157 #[.val (.long q0), .second, .val (.long q1), .second, .val (.long q2), .second, .val (.int p3), .val (.long fr), .second, .val (.long la), .second, .val (.int (p3 &&& (7 : Int32))), .val (.long (((((p3.toUInt32 >>> ((3 : Int32) &&& 31).toUInt32).toInt32) &&& (3 : Int32)) - (1 : Int32)).toInt64)), .second, .val (.long ve), .second, .val (.ref b1), .val (.int (own_c ve fr la)), .val (.int (1 : Int32))] [(.int (own_c ve fr la))])
        refine own_st (fun t k => XS.iload X9.here hx rfl (hb hby at_157) rfl k) ?_
        show own_Go _ _ _ _ T9 (mkF m 159 #[.val (.long q0), .second, .val (.long q1), .second, .val (.long q2), .second, .val (.int p3), .val (.long fr), .second, .val (.long la), .second, .val (.int (p3 &&& (7 : Int32))), .val (.long (((((p3.toUInt32 >>> ((3 : Int32) &&& 31).toUInt32).toInt32) &&& (3 : Int32)) - (1 : Int32)).toInt64)), .second, .val (.long ve), .second, .val (.ref b1), .val (.int (own_c ve fr la)), .val (.int (1 : Int32))] [(.int (1 : Int32)), (.int (own_c ve fr la))])
        refine own_st (fun t k => XS.icmpNo X9.here hx rfl (hb hby at_159) rfl (teq (own_c_in c127_7 c145_10 : (own_c ve fr la) = (1 : Int32))).2 k) ?_
        show own_Go _ _ _ _ T9 (mkF m 162 #[.val (.long q0), .second, .val (.long q1), .second, .val (.long q2), .second, .val (.int p3), .val (.long fr), .second, .val (.long la), .second, .val (.int (p3 &&& (7 : Int32))), .val (.long (((((p3.toUInt32 >>> ((3 : Int32) &&& 31).toUInt32).toInt32) &&& (3 : Int32)) - (1 : Int32)).toInt64)), .second, .val (.long ve), .second, .val (.ref b1), .val (.int (own_c ve fr la)), .val (.int (1 : Int32))] [])
        refine own_st (fun t k => XS.iconst X9.here hx rfl (hb hby at_162) k) ?_
        show own_Go _ _ _ _ T9 (mkF m 163 #[.val (.long q0), .second, .val (.long q1), .second, .val (.long q2), .second, .val (.int p3), .val (.long fr), .second, .val (.long la), .second, .val (.int (p3 &&& (7 : Int32))), .val (.long (((((p3.toUInt32 >>> ((3 : Int32) &&& 31).toUInt32).toInt32) &&& (3 : Int32)) - (1 : Int32)).toInt64)), .second, .val (.long ve), .second, .val (.ref b1), .val (.int (own_c ve fr la)), .val (.int (1 : Int32))] [(.int (1 : Int32))])
        refine own_st (fun t k => XS.goto X9.here hx rfl (pc0 := 163) (pc' := 167) rfl (hb hby at_163) (by decide) (by decide) k) ?_
        show own_Go _ _ _ _ T9 (mkF m 167 #[.val (.long q0), .second, .val (.long q1), .second, .val (.long q2), .second, .val (.int p3), .val (.long fr), .second, .val (.long la), .second, .val (.int (p3 &&& (7 : Int32))), .val (.long (((((p3.toUInt32 >>> ((3 : Int32) &&& 31).toUInt32).toInt32) &&& (3 : Int32)) - (1 : Int32)).toInt64)), .second, .val (.long ve), .second, .val (.ref b1), .val (.int (own_c ve fr la)), .val (.int (1 : Int32))] [(.int (1 : Int32))])
        exact own_retN X9 hx hlk (t := .boolean) hrt (by simp) (hb hby at_167) ⟨rfl, N9⟩ (by decide) (by decide)
      ·
        refine own_st (fun t k => XS.ifYes X9.here hx rfl (pc0 := 145) (pc' := 152) rfl (hb hby at_145) rfl ((if0 _ _).trans (feq (fun q => c145_10 ((lw_eq _ _).mp q))).2) (by decide) (by decide) k) ?_
        show own_Go _ _ _ _ T9 (mkF m 152 #[.val (.long q0), .second, .val (.long q1), .second, .val (.long q2), .second, .val (.int p3), .val (.long fr), .second, .val (.long la), .second, .val (.int (p3 &&& (7 : Int32))), .val (.long (((((p3.toUInt32 >>> ((3 : Int32) &&& 31).toUInt32).toInt32) &&& (3 : Int32)) - (1 : Int32)).toInt64)), .second, .val (.long ve), .second, .val (.ref b1), .val (.int (own_c ve fr la)), .unset] [])
        refine own_st (fun t k => XS.iconst X9.here hx rfl (hb hby at_152) k) ?_
        show own_Go _ _ _ _ T9 (mkF m 153 #[.val (.long q0), .second, .val (.long q1), .second, .val (.long q2), .second, .val (.int p3), .val (.long fr), .second, .val (.long la), .second, .val (.int (p3 &&& (7 : Int32))), .val (.long (((((p3.toUInt32 >>> ((3 : Int32) &&& 31).toUInt32).toInt32) &&& (3 : Int32)) - (1 : Int32)).toInt64)), .second, .val (.long ve), .second, .val (.ref b1), .val (.int (own_c ve fr la)), .unset] [(.int (0 : Int32))])
        refine own_st (fun t k => XS.istore X9.here hx rfl (hb hby at_153) rfl (l' := #[.val (.long q0), .second, .val (.long q1), .second, .val (.long q2), .second, .val (.int p3), .val (.long fr), .second, .val (.long la), .second, .val (.int (p3 &&& (7 : Int32))), .val (.long (((((p3.toUInt32 >>> ((3 : Int32) &&& 31).toUInt32).toInt32) &&& (3 : Int32)) - (1 : Int32)).toInt64)), .second, .val (.long ve), .second, .val (.ref b1), .val (.int (own_c ve fr la)), .val (.int (0 : Int32))]) rfl k) ?_
        show own_Go _ _ _ _ T9 (mkF m 155 #[.val (.long q0), .second, .val (.long q1), .second, .val (.long q2), .second, .val (.int p3), .val (.long fr), .second, .val (.long la), .second, .val (.int (p3 &&& (7 : Int32))), .val (.long (((((p3.toUInt32 >>> ((3 : Int32) &&& 31).toUInt32).toInt32) &&& (3 : Int32)) - (1 : Int32)).toInt64)), .second, .val (.long ve), .second, .val (.ref b1), .val (.int (own_c ve fr la)), .val (.int (0 : Int32))] [])
        refine own_st (fun t k => XS.iload X9.here hx rfl (hb hby at_155) rfl k) ?_
        show own_Go _ _ _ _ T9 (mkF m 157 #[.val (.long q0), .second, .val (.long q1), .second, .val (.long q2), .second, .val (.int p3), .val (.long fr), .second, .val (.long la), .second, .val (.int (p3 &&& (7 : Int32))), .val (.long (((((p3.toUInt32 >>> ((3 : Int32) &&& 31).toUInt32).toInt32) &&& (3 : Int32)) - (1 : Int32)).toInt64)), .second, .val (.long ve), .second, .val (.ref b1), .val (.int (own_c ve fr la)), .val (.int (0 : Int32))] [(.int (own_c ve fr la))])
        refine own_st (fun t k => XS.iload X9.here hx rfl (hb hby at_157) rfl k) ?_
        show own_Go _ _ _ _ T9 (mkF m 159 #[.val (.long q0), .second, .val (.long q1), .second, .val (.long q2), .second, .val (.int p3), .val (.long fr), .second, .val (.long la), .second, .val (.int (p3 &&& (7 : Int32))), .val (.long (((((p3.toUInt32 >>> ((3 : Int32) &&& 31).toUInt32).toInt32) &&& (3 : Int32)) - (1 : Int32)).toInt64)), .second, .val (.long ve), .second, .val (.ref b1), .val (.int (own_c ve fr la)), .val (.int (0 : Int32))] [(.int (0 : Int32)), (.int (own_c ve fr la))])
        refine own_st (fun t k => XS.icmpNo X9.here hx rfl (hb hby at_159) rfl (teq (own_c_out c127_7 c145_10 : (own_c ve fr la) = (0 : Int32))).2 k) ?_
        show own_Go _ _ _ _ T9 (mkF m 162 #[.val (.long q0), .second, .val (.long q1), .second, .val (.long q2), .second, .val (.int p3), .val (.long fr), .second, .val (.long la), .second, .val (.int (p3 &&& (7 : Int32))), .val (.long (((((p3.toUInt32 >>> ((3 : Int32) &&& 31).toUInt32).toInt32) &&& (3 : Int32)) - (1 : Int32)).toInt64)), .second, .val (.long ve), .second, .val (.ref b1), .val (.int (own_c ve fr la)), .val (.int (0 : Int32))] [])
        refine own_st (fun t k => XS.iconst X9.here hx rfl (hb hby at_162) k) ?_
        show own_Go _ _ _ _ T9 (mkF m 163 #[.val (.long q0), .second, .val (.long q1), .second, .val (.long q2), .second, .val (.int p3), .val (.long fr), .second, .val (.long la), .second, .val (.int (p3 &&& (7 : Int32))), .val (.long (((((p3.toUInt32 >>> ((3 : Int32) &&& 31).toUInt32).toInt32) &&& (3 : Int32)) - (1 : Int32)).toInt64)), .second, .val (.long ve), .second, .val (.ref b1), .val (.int (own_c ve fr la)), .val (.int (0 : Int32))] [(.int (1 : Int32))])
        refine own_st (fun t k => XS.goto X9.here hx rfl (pc0 := 163) (pc' := 167) rfl (hb hby at_163) (by decide) (by decide) k) ?_
        show own_Go _ _ _ _ T9 (mkF m 167 #[.val (.long q0), .second, .val (.long q1), .second, .val (.long q2), .second, .val (.int p3), .val (.long fr), .second, .val (.long la), .second, .val (.int (p3 &&& (7 : Int32))), .val (.long (((((p3.toUInt32 >>> ((3 : Int32) &&& 31).toUInt32).toInt32) &&& (3 : Int32)) - (1 : Int32)).toInt64)), .second, .val (.long ve), .second, .val (.ref b1), .val (.int (own_c ve fr la)), .val (.int (0 : Int32))] [(.int (1 : Int32))])
        exact own_retN X9 hx hlk (t := .boolean) hrt (by simp) (hb hby at_167) ⟨rfl, N9⟩ (by decide) (by decide)
  show own_Go _ _ _ _ s₁ (mkF m 0 #[.val (.long q0), .second, .val (.long q1), .second, .val (.long q2), .second, .val (.int p3), .unset, .unset, .unset, .unset, .unset, .unset, .unset, .unset, .unset, .unset, .unset, .unset] [])
  refine own_st (fun t k => XS.lloadN X0.here hx rfl (hb hby at_0) rfl k) ?_
  show own_Go _ _ _ _ s₁ (mkF m 1 #[.val (.long q0), .second, .val (.long q1), .second, .val (.long q2), .second, .val (.int p3), .unset, .unset, .unset, .unset, .unset, .unset, .unset, .unset, .unset, .unset, .unset, .unset] [(.long q0)])
  refine own_st (X0.ldc2Long hx hown (mvT hZ (hw _ (List.mem_of_getElem? (i := 0) rfl))) (g := (mkF m 1 #[.val (.long q0), .second, .val (.long q1), .second, .val (.long q2), .second, .val (.int p3), .unset, .unset, .unset, .unset, .unset, .unset, .unset, .unset, .unset, .unset, .unset, .unset] [(.long q0)])) rfl (hb hby at_1)) ?_
  show own_Go _ _ _ _ s₁ (mkF m 4 #[.val (.long q0), .second, .val (.long q1), .second, .val (.long q2), .second, .val (.int p3), .unset, .unset, .unset, .unset, .unset, .unset, .unset, .unset, .unset, .unset, .unset, .unset] [(.long (9223372036854775807 : Int64)), (.long q0)])
  refine own_st (fun t k => XS.land X0.here hx rfl (hb hby at_4) rfl k) ?_
  show own_Go _ _ _ _ s₁ (mkF m 5 #[.val (.long q0), .second, .val (.long q1), .second, .val (.long q2), .second, .val (.int p3), .unset, .unset, .unset, .unset, .unset, .unset, .unset, .unset, .unset, .unset, .unset, .unset] [(.long (q0 &&& (9223372036854775807 : Int64)))])
  refine own_st (fun t k => XS.lstore X0.here hx rfl (hb hby at_5) rfl (l' := #[.val (.long q0), .second, .val (.long q1), .second, .val (.long q2), .second, .val (.int p3), .val (.long (q0 &&& (9223372036854775807 : Int64))), .second, .unset, .unset, .unset, .unset, .unset, .unset, .unset, .unset, .unset, .unset]) rfl k) ?_
  show own_Go _ _ _ _ s₁ (mkF m 7 #[.val (.long q0), .second, .val (.long q1), .second, .val (.long q2), .second, .val (.int p3), .val (.long (q0 &&& (9223372036854775807 : Int64))), .second, .unset, .unset, .unset, .unset, .unset, .unset, .unset, .unset, .unset, .unset] [])
  refine own_st (fun t k => XS.lloadN X0.here hx rfl (hb hby at_7) rfl k) ?_
  show own_Go _ _ _ _ s₁ (mkF m 8 #[.val (.long q0), .second, .val (.long q1), .second, .val (.long q2), .second, .val (.int p3), .val (.long (q0 &&& (9223372036854775807 : Int64))), .second, .unset, .unset, .unset, .unset, .unset, .unset, .unset, .unset, .unset, .unset] [(.long q1)])
  refine own_st (fun t k => XS.lstore X0.here hx rfl (hb hby at_8) rfl (l' := #[.val (.long q0), .second, .val (.long q1), .second, .val (.long q2), .second, .val (.int p3), .val (.long (q0 &&& (9223372036854775807 : Int64))), .second, .val (.long q1), .second, .unset, .unset, .unset, .unset, .unset, .unset, .unset, .unset]) rfl k) ?_
  show own_Go _ _ _ _ s₁ (mkF m 10 #[.val (.long q0), .second, .val (.long q1), .second, .val (.long q2), .second, .val (.int p3), .val (.long (q0 &&& (9223372036854775807 : Int64))), .second, .val (.long q1), .second, .unset, .unset, .unset, .unset, .unset, .unset, .unset, .unset] [])
  refine own_st (fun t k => XS.iload X0.here hx rfl (hb hby at_10) rfl k) ?_
  show own_Go _ _ _ _ s₁ (mkF m 12 #[.val (.long q0), .second, .val (.long q1), .second, .val (.long q2), .second, .val (.int p3), .val (.long (q0 &&& (9223372036854775807 : Int64))), .second, .val (.long q1), .second, .unset, .unset, .unset, .unset, .unset, .unset, .unset, .unset] [(.int p3)])
  refine own_st (fun t k => XS.bipush X0.here hx rfl (hb hby at_12) k) ?_
  show own_Go _ _ _ _ s₁ (mkF m 14 #[.val (.long q0), .second, .val (.long q1), .second, .val (.long q2), .second, .val (.int p3), .val (.long (q0 &&& (9223372036854775807 : Int64))), .second, .val (.long q1), .second, .unset, .unset, .unset, .unset, .unset, .unset, .unset, .unset] [(.int (7 : Int32)), (.int p3)])
  refine own_st (fun t k => XS.iand X0.here hx rfl (hb hby at_14) rfl k) ?_
  show own_Go _ _ _ _ s₁ (mkF m 15 #[.val (.long q0), .second, .val (.long q1), .second, .val (.long q2), .second, .val (.int p3), .val (.long (q0 &&& (9223372036854775807 : Int64))), .second, .val (.long q1), .second, .unset, .unset, .unset, .unset, .unset, .unset, .unset, .unset] [(.int (p3 &&& (7 : Int32)))])
  refine own_st (fun t k => XS.istore X0.here hx rfl (hb hby at_15) rfl (l' := #[.val (.long q0), .second, .val (.long q1), .second, .val (.long q2), .second, .val (.int p3), .val (.long (q0 &&& (9223372036854775807 : Int64))), .second, .val (.long q1), .second, .val (.int (p3 &&& (7 : Int32))), .unset, .unset, .unset, .unset, .unset, .unset, .unset]) rfl k) ?_
  show own_Go _ _ _ _ s₁ (mkF m 17 #[.val (.long q0), .second, .val (.long q1), .second, .val (.long q2), .second, .val (.int p3), .val (.long (q0 &&& (9223372036854775807 : Int64))), .second, .val (.long q1), .second, .val (.int (p3 &&& (7 : Int32))), .unset, .unset, .unset, .unset, .unset, .unset, .unset] [])
  refine own_st (fun t k => XS.iload X0.here hx rfl (hb hby at_17) rfl k) ?_
  show own_Go _ _ _ _ s₁ (mkF m 19 #[.val (.long q0), .second, .val (.long q1), .second, .val (.long q2), .second, .val (.int p3), .val (.long (q0 &&& (9223372036854775807 : Int64))), .second, .val (.long q1), .second, .val (.int (p3 &&& (7 : Int32))), .unset, .unset, .unset, .unset, .unset, .unset, .unset] [(.int p3)])
  refine own_st (fun t k => XS.iconst X0.here hx rfl (hb hby at_19) k) ?_
  show own_Go _ _ _ _ s₁ (mkF m 20 #[.val (.long q0), .second, .val (.long q1), .second, .val (.long q2), .second, .val (.int p3), .val (.long (q0 &&& (9223372036854775807 : Int64))), .second, .val (.long q1), .second, .val (.int (p3 &&& (7 : Int32))), .unset, .unset, .unset, .unset, .unset, .unset, .unset] [(.int (3 : Int32)), (.int p3)])
  refine own_st (fun t k => XS.iushr X0.here hx rfl (hb hby at_20) rfl k) ?_
  show own_Go _ _ _ _ s₁ (mkF m 21 #[.val (.long q0), .second, .val (.long q1), .second, .val (.long q2), .second, .val (.int p3), .val (.long (q0 &&& (9223372036854775807 : Int64))), .second, .val (.long q1), .second, .val (.int (p3 &&& (7 : Int32))), .unset, .unset, .unset, .unset, .unset, .unset, .unset] [(.int ((p3.toUInt32 >>> ((3 : Int32) &&& 31).toUInt32).toInt32))])
  refine own_st (fun t k => XS.iconst X0.here hx rfl (hb hby at_21) k) ?_
  show own_Go _ _ _ _ s₁ (mkF m 22 #[.val (.long q0), .second, .val (.long q1), .second, .val (.long q2), .second, .val (.int p3), .val (.long (q0 &&& (9223372036854775807 : Int64))), .second, .val (.long q1), .second, .val (.int (p3 &&& (7 : Int32))), .unset, .unset, .unset, .unset, .unset, .unset, .unset] [(.int (3 : Int32)), (.int ((p3.toUInt32 >>> ((3 : Int32) &&& 31).toUInt32).toInt32))])
  refine own_st (fun t k => XS.iand X0.here hx rfl (hb hby at_22) rfl k) ?_
  show own_Go _ _ _ _ s₁ (mkF m 23 #[.val (.long q0), .second, .val (.long q1), .second, .val (.long q2), .second, .val (.int p3), .val (.long (q0 &&& (9223372036854775807 : Int64))), .second, .val (.long q1), .second, .val (.int (p3 &&& (7 : Int32))), .unset, .unset, .unset, .unset, .unset, .unset, .unset] [(.int (((p3.toUInt32 >>> ((3 : Int32) &&& 31).toUInt32).toInt32) &&& (3 : Int32)))])
  refine own_st (fun t k => XS.iconst X0.here hx rfl (hb hby at_23) k) ?_
  show own_Go _ _ _ _ s₁ (mkF m 24 #[.val (.long q0), .second, .val (.long q1), .second, .val (.long q2), .second, .val (.int p3), .val (.long (q0 &&& (9223372036854775807 : Int64))), .second, .val (.long q1), .second, .val (.int (p3 &&& (7 : Int32))), .unset, .unset, .unset, .unset, .unset, .unset, .unset] [(.int (1 : Int32)), (.int (((p3.toUInt32 >>> ((3 : Int32) &&& 31).toUInt32).toInt32) &&& (3 : Int32)))])
  refine own_st (fun t k => XS.isub X0.here hx rfl (hb hby at_24) rfl k) ?_
  show own_Go _ _ _ _ s₁ (mkF m 25 #[.val (.long q0), .second, .val (.long q1), .second, .val (.long q2), .second, .val (.int p3), .val (.long (q0 &&& (9223372036854775807 : Int64))), .second, .val (.long q1), .second, .val (.int (p3 &&& (7 : Int32))), .unset, .unset, .unset, .unset, .unset, .unset, .unset] [(.int ((((p3.toUInt32 >>> ((3 : Int32) &&& 31).toUInt32).toInt32) &&& (3 : Int32)) - (1 : Int32)))])
  refine own_st (fun t k => XS.i2l X0.here hx rfl (hb hby at_25) rfl k) ?_
  show own_Go _ _ _ _ s₁ (mkF m 26 #[.val (.long q0), .second, .val (.long q1), .second, .val (.long q2), .second, .val (.int p3), .val (.long (q0 &&& (9223372036854775807 : Int64))), .second, .val (.long q1), .second, .val (.int (p3 &&& (7 : Int32))), .unset, .unset, .unset, .unset, .unset, .unset, .unset] [(.long (((((p3.toUInt32 >>> ((3 : Int32) &&& 31).toUInt32).toInt32) &&& (3 : Int32)) - (1 : Int32)).toInt64))])
  refine own_st (fun t k => XS.lstore X0.here hx rfl (hb hby at_26) rfl (l' := #[.val (.long q0), .second, .val (.long q1), .second, .val (.long q2), .second, .val (.int p3), .val (.long (q0 &&& (9223372036854775807 : Int64))), .second, .val (.long q1), .second, .val (.int (p3 &&& (7 : Int32))), .val (.long (((((p3.toUInt32 >>> ((3 : Int32) &&& 31).toUInt32).toInt32) &&& (3 : Int32)) - (1 : Int32)).toInt64)), .second, .unset, .unset, .unset, .unset, .unset]) rfl k) ?_
  show own_Go _ _ _ _ s₁ (mkF m 28 #[.val (.long q0), .second, .val (.long q1), .second, .val (.long q2), .second, .val (.int p3), .val (.long (q0 &&& (9223372036854775807 : Int64))), .second, .val (.long q1), .second, .val (.int (p3 &&& (7 : Int32))), .val (.long (((((p3.toUInt32 >>> ((3 : Int32) &&& 31).toUInt32).toInt32) &&& (3 : Int32)) - (1 : Int32)).toInt64)), .second, .unset, .unset, .unset, .unset, .unset] [])
  refine own_st (fun t k => XS.iload X0.here hx rfl (hb hby at_28) rfl k) ?_
  show own_Go _ _ _ _ s₁ (mkF m 30 #[.val (.long q0), .second, .val (.long q1), .second, .val (.long q2), .second, .val (.int p3), .val (.long (q0 &&& (9223372036854775807 : Int64))), .second, .val (.long q1), .second, .val (.int (p3 &&& (7 : Int32))), .val (.long (((((p3.toUInt32 >>> ((3 : Int32) &&& 31).toUInt32).toInt32) &&& (3 : Int32)) - (1 : Int32)).toInt64)), .second, .unset, .unset, .unset, .unset, .unset] [(.int (p3 &&& (7 : Int32)))])
  refine own_st (fun t k => XS.iconst X0.here hx rfl (hb hby at_30) k) ?_
  show own_Go _ _ _ _ s₁ (mkF m 31 #[.val (.long q0), .second, .val (.long q1), .second, .val (.long q2), .second, .val (.int p3), .val (.long (q0 &&& (9223372036854775807 : Int64))), .second, .val (.long q1), .second, .val (.int (p3 &&& (7 : Int32))), .val (.long (((((p3.toUInt32 >>> ((3 : Int32) &&& 31).toUInt32).toInt32) &&& (3 : Int32)) - (1 : Int32)).toInt64)), .second, .unset, .unset, .unset, .unset, .unset] [(.int (4 : Int32)), (.int (p3 &&& (7 : Int32)))])
  by_cases c31_11 : (p3 &&& (7 : Int32)) < (4 : Int32)
  ·
    refine own_st (fun t k => XS.icmpNo X0.here hx rfl (hb hby at_31) rfl (tlt c31_11).2.1 k) ?_
    show own_Go _ _ _ _ s₁ (mkF m 34 #[.val (.long q0), .second, .val (.long q1), .second, .val (.long q2), .second, .val (.int p3), .val (.long (q0 &&& (9223372036854775807 : Int64))), .second, .val (.long q1), .second, .val (.int (p3 &&& (7 : Int32))), .val (.long (((((p3.toUInt32 >>> ((3 : Int32) &&& 31).toUInt32).toInt32) &&& (3 : Int32)) - (1 : Int32)).toInt64)), .second, .unset, .unset, .unset, .unset, .unset] [])
    refine own_st (fun t k => XS.lload X0.here hx rfl (hb hby at_34) rfl k) ?_
    show own_Go _ _ _ _ s₁ (mkF m 36 #[.val (.long q0), .second, .val (.long q1), .second, .val (.long q2), .second, .val (.int p3), .val (.long (q0 &&& (9223372036854775807 : Int64))), .second, .val (.long q1), .second, .val (.int (p3 &&& (7 : Int32))), .val (.long (((((p3.toUInt32 >>> ((3 : Int32) &&& 31).toUInt32).toInt32) &&& (3 : Int32)) - (1 : Int32)).toInt64)), .second, .unset, .unset, .unset, .unset, .unset] [(.long q2)])
    refine own_st (fun t k => XS.lstore X0.here hx rfl (hb hby at_36) rfl (l' := #[.val (.long q0), .second, .val (.long q1), .second, .val (.long q2), .second, .val (.int p3), .val (.long (q0 &&& (9223372036854775807 : Int64))), .second, .val (.long q1), .second, .val (.int (p3 &&& (7 : Int32))), .val (.long (((((p3.toUInt32 >>> ((3 : Int32) &&& 31).toUInt32).toInt32) &&& (3 : Int32)) - (1 : Int32)).toInt64)), .second, .val (.long q2), .second, .unset, .unset, .unset]) rfl k) ?_
    show own_Go _ _ _ _ s₁ (mkF m 38 #[.val (.long q0), .second, .val (.long q1), .second, .val (.long q2), .second, .val (.int p3), .val (.long (q0 &&& (9223372036854775807 : Int64))), .second, .val (.long q1), .second, .val (.int (p3 &&& (7 : Int32))), .val (.long (((((p3.toUInt32 >>> ((3 : Int32) &&& 31).toUInt32).toInt32) &&& (3 : Int32)) - (1 : Int32)).toInt64)), .second, .val (.long q2), .second, .unset, .unset, .unset] [])
    refine own_st (fun t k => XS.goto X0.here hx rfl (pc0 := 38) (pc' := 65) rfl (hb hby at_38) (by decide) (by decide) k) ?_
    show own_Go _ _ _ _ s₁ (mkF m 65 #[.val (.long q0), .second, .val (.long q1), .second, .val (.long q2), .second, .val (.int p3), .val (.long (q0 &&& (9223372036854775807 : Int64))), .second, .val (.long q1), .second, .val (.int (p3 &&& (7 : Int32))), .val (.long (((((p3.toUInt32 >>> ((3 : Int32) &&& 31).toUInt32).toInt32) &&& (3 : Int32)) - (1 : Int32)).toInt64)), .second, .val (.long q2), .second, .unset, .unset, .unset] [])
    refine own_st (fun t k => XS.iload X0.here hx rfl (hb hby at_65) rfl k) ?_
    show own_Go _ _ _ _ s₁ (mkF m 67 #[.val (.long q0), .second, .val (.long q1), .second, .val (.long q2), .second, .val (.int p3), .val (.long (q0 &&& (9223372036854775807 : Int64))), .second, .val (.long q1), .second, .val (.int (p3 &&& (7 : Int32))), .val (.long (((((p3.toUInt32 >>> ((3 : Int32) &&& 31).toUInt32).toInt32) &&& (3 : Int32)) - (1 : Int32)).toInt64)), .second, .val (.long q2), .second, .unset, .unset, .unset] [(.int p3)])
    refine own_st (fun t k => XS.iconst X0.here hx rfl (hb hby at_67) k) ?_
    show own_Go _ _ _ _ s₁ (mkF m 68 #[.val (.long q0), .second, .val (.long q1), .second, .val (.long q2), .second, .val (.int p3), .val (.long (q0 &&& (9223372036854775807 : Int64))), .second, .val (.long q1), .second, .val (.int (p3 &&& (7 : Int32))), .val (.long (((((p3.toUInt32 >>> ((3 : Int32) &&& 31).toUInt32).toInt32) &&& (3 : Int32)) - (1 : Int32)).toInt64)), .second, .val (.long q2), .second, .unset, .unset, .unset] [(.int (5 : Int32)), (.int p3)])
    refine own_st (fun t k => XS.iushr X0.here hx rfl (hb hby at_68) rfl k) ?_
    show own_Go _ _ _ _ s₁ (mkF m 69 #[.val (.long q0), .second, .val (.long q1), .second, .val (.long q2), .second, .val (.int p3), .val (.long (q0 &&& (9223372036854775807 : Int64))), .second, .val (.long q1), .second, .val (.int (p3 &&& (7 : Int32))), .val (.long (((((p3.toUInt32 >>> ((3 : Int32) &&& 31).toUInt32).toInt32) &&& (3 : Int32)) - (1 : Int32)).toInt64)), .second, .val (.long q2), .second, .unset, .unset, .unset] [(.int ((p3.toUInt32 >>> ((5 : Int32) &&& 31).toUInt32).toInt32))])
    refine own_st (fun t k => XS.iconst X0.here hx rfl (hb hby at_69) k) ?_
    show own_Go _ _ _ _ s₁ (mkF m 70 #[.val (.long q0), .second, .val (.long q1), .second, .val (.long q2), .second, .val (.int p3), .val (.long (q0 &&& (9223372036854775807 : Int64))), .second, .val (.long q1), .second, .val (.int (p3 &&& (7 : Int32))), .val (.long (((((p3.toUInt32 >>> ((3 : Int32) &&& 31).toUInt32).toInt32) &&& (3 : Int32)) - (1 : Int32)).toInt64)), .second, .val (.long q2), .second, .unset, .unset, .unset] [(.int (1 : Int32)), (.int ((p3.toUInt32 >>> ((5 : Int32) &&& 31).toUInt32).toInt32))])
    refine own_st (fun t k => XS.iand X0.here hx rfl (hb hby at_70) rfl k) ?_
    show own_Go _ _ _ _ s₁ (mkF m 71 #[.val (.long q0), .second, .val (.long q1), .second, .val (.long q2), .second, .val (.int p3), .val (.long (q0 &&& (9223372036854775807 : Int64))), .second, .val (.long q1), .second, .val (.int (p3 &&& (7 : Int32))), .val (.long (((((p3.toUInt32 >>> ((3 : Int32) &&& 31).toUInt32).toInt32) &&& (3 : Int32)) - (1 : Int32)).toInt64)), .second, .val (.long q2), .second, .unset, .unset, .unset] [(.int (((p3.toUInt32 >>> ((5 : Int32) &&& 31).toUInt32).toInt32) &&& (1 : Int32)))])
    by_cases c71_12 : (((p3.toUInt32 >>> ((5 : Int32) &&& 31).toUInt32).toInt32) &&& (1 : Int32)) = (0 : Int32)
    ·
      refine own_st (fun t k => XS.ifYes X0.here hx rfl (pc0 := 71) (pc' := 100) rfl (hb hby at_71) rfl ((if0 _ _).trans (teq c71_12).1) (by decide) (by decide) k) ?_
      show own_Go _ _ _ _ s₁ (mkF m 100 #[.val (.long q0), .second, .val (.long q1), .second, .val (.long q2), .second, .val (.int p3), .val (.long (q0 &&& (9223372036854775807 : Int64))), .second, .val (.long q1), .second, .val (.int (p3 &&& (7 : Int32))), .val (.long (((((p3.toUInt32 >>> ((3 : Int32) &&& 31).toUInt32).toInt32) &&& (3 : Int32)) - (1 : Int32)).toInt64)), .second, .val (.long q2), .second, .unset, .unset, .unset] [])
      exact JG100 (q0 &&& (9223372036854775807 : Int64)) q1 q2  (own_pos _)
    ·
      refine own_st (fun t k => XS.ifNo X0.here hx rfl (hb hby at_71) rfl ((if0 _ _).trans (feq c71_12).1) k) ?_
      show own_Go _ _ _ _ s₁ (mkF m 74 #[.val (.long q0), .second, .val (.long q1), .second, .val (.long q2), .second, .val (.int p3), .val (.long (q0 &&& (9223372036854775807 : Int64))), .second, .val (.long q1), .second, .val (.int (p3 &&& (7 : Int32))), .val (.long (((((p3.toUInt32 >>> ((3 : Int32) &&& 31).toUInt32).toInt32) &&& (3 : Int32)) - (1 : Int32)).toInt64)), .second, .val (.long q2), .second, .unset, .unset, .unset] [])
      refine own_st (fun t k => XS.lload X0.here hx rfl (hb hby at_74) rfl k) ?_
      show own_Go _ _ _ _ s₁ (mkF m 76 #[.val (.long q0), .second, .val (.long q1), .second, .val (.long q2), .second, .val (.int p3), .val (.long (q0 &&& (9223372036854775807 : Int64))), .second, .val (.long q1), .second, .val (.int (p3 &&& (7 : Int32))), .val (.long (((((p3.toUInt32 >>> ((3 : Int32) &&& 31).toUInt32).toInt32) &&& (3 : Int32)) - (1 : Int32)).toInt64)), .second, .val (.long q2), .second, .unset, .unset, .unset] [(.long (q0 &&& (9223372036854775807 : Int64)))])
      refine own_st (fun t k => XS.lloadN X0.here hx rfl (hb hby at_76) rfl k) ?_
      show own_Go _ _ _ _ s₁ (mkF m 77 #[.val (.long q0), .second, .val (.long q1), .second, .val (.long q2), .second, .val (.int p3), .val (.long (q0 &&& (9223372036854775807 : Int64))), .second, .val (.long q1), .second, .val (.int (p3 &&& (7 : Int32))), .val (.long (((((p3.toUInt32 >>> ((3 : Int32) &&& 31).toUInt32).toInt32) &&& (3 : Int32)) - (1 : Int32)).toInt64)), .second, .val (.long q2), .second, .unset, .unset, .unset] [(.long q1), (.long (q0 &&& (9223372036854775807 : Int64)))])
      refine own_st (X0.ldc2Long hx hown (mvT hZ (hw _ (List.mem_of_getElem? (i := 31) rfl))) (g := (mkF m 77 #[.val (.long q0), .second, .val (.long q1), .second, .val (.long q2), .second, .val (.int p3), .val (.long (q0 &&& (9223372036854775807 : Int64))), .second, .val (.long q1), .second, .val (.int (p3 &&& (7 : Int32))), .val (.long (((((p3.toUInt32 >>> ((3 : Int32) &&& 31).toUInt32).toInt32) &&& (3 : Int32)) - (1 : Int32)).toInt64)), .second, .val (.long q2), .second, .unset, .unset, .unset] [(.long q1), (.long (q0 &&& (9223372036854775807 : Int64)))])) rfl (hb hby at_77)) ?_
      show own_Go _ _ _ _ s₁ (mkF m 80 #[.val (.long q0), .second, .val (.long q1), .second, .val (.long q2), .second, .val (.int p3), .val (.long (q0 &&& (9223372036854775807 : Int64))), .second, .val (.long q1), .second, .val (.int (p3 &&& (7 : Int32))), .val (.long (((((p3.toUInt32 >>> ((3 : Int32) &&& 31).toUInt32).toInt32) &&& (3 : Int32)) - (1 : Int32)).toInt64)), .second, .val (.long q2), .second, .unset, .unset, .unset] [(.long (15 : Int64)), (.long q1), (.long (q0 &&& (9223372036854775807 : Int64)))])
      refine own_st (fun t k => XS.land X0.here hx rfl (hb hby at_80) rfl k) ?_
      show own_Go _ _ _ _ s₁ (mkF m 81 #[.val (.long q0), .second, .val (.long q1), .second, .val (.long q2), .second, .val (.int p3), .val (.long (q0 &&& (9223372036854775807 : Int64))), .second, .val (.long q1), .second, .val (.int (p3 &&& (7 : Int32))), .val (.long (((((p3.toUInt32 >>> ((3 : Int32) &&& 31).toUInt32).toInt32) &&& (3 : Int32)) - (1 : Int32)).toInt64)), .second, .val (.long q2), .second, .unset, .unset, .unset] [(.long (q1 &&& (15 : Int64))), (.long (q0 &&& (9223372036854775807 : Int64)))])
      refine own_st (fun t k => XS.ladd X0.here hx rfl (hb hby at_81) rfl k) ?_
      show own_Go _ _ _ _ s₁ (mkF m 82 #[.val (.long q0), .second, .val (.long q1), .second, .val (.long q2), .second, .val (.int p3), .val (.long (q0 &&& (9223372036854775807 : Int64))), .second, .val (.long q1), .second, .val (.int (p3 &&& (7 : Int32))), .val (.long (((((p3.toUInt32 >>> ((3 : Int32) &&& 31).toUInt32).toInt32) &&& (3 : Int32)) - (1 : Int32)).toInt64)), .second, .val (.long q2), .second, .unset, .unset, .unset] [(.long ((q0 &&& (9223372036854775807 : Int64)) + (q1 &&& (15 : Int64))))])
      refine own_st (fun t k => XS.lconst X0.here hx rfl (hb hby at_82) k) ?_
      show own_Go _ _ _ _ s₁ (mkF m 83 #[.val (.long q0), .second, .val (.long q1), .second, .val (.long q2), .second, .val (.int p3), .val (.long (q0 &&& (9223372036854775807 : Int64))), .second, .val (.long q1), .second, .val (.int (p3 &&& (7 : Int32))), .val (.long (((((p3.toUInt32 >>> ((3 : Int32) &&& 31).toUInt32).toInt32) &&& (3 : Int32)) - (1 : Int32)).toInt64)), .second, .val (.long q2), .second, .unset, .unset, .unset] [(.long (1 : Int64)), (.long ((q0 &&& (9223372036854775807 : Int64)) + (q1 &&& (15 : Int64))))])
      refine own_st (fun t k => XS.lsub X0.here hx rfl (hb hby at_83) rfl k) ?_
      show own_Go _ _ _ _ s₁ (mkF m 84 #[.val (.long q0), .second, .val (.long q1), .second, .val (.long q2), .second, .val (.int p3), .val (.long (q0 &&& (9223372036854775807 : Int64))), .second, .val (.long q1), .second, .val (.int (p3 &&& (7 : Int32))), .val (.long (((((p3.toUInt32 >>> ((3 : Int32) &&& 31).toUInt32).toInt32) &&& (3 : Int32)) - (1 : Int32)).toInt64)), .second, .val (.long q2), .second, .unset, .unset, .unset] [(.long (((q0 &&& (9223372036854775807 : Int64)) + (q1 &&& (15 : Int64))) - (1 : Int64)))])
      refine own_st (fun t k => XS.lstore X0.here hx rfl (hb hby at_84) rfl (l' := #[.val (.long q0), .second, .val (.long q1), .second, .val (.long q2), .second, .val (.int p3), .val (.long (q0 &&& (9223372036854775807 : Int64))), .second, .val (.long (((q0 &&& (9223372036854775807 : Int64)) + (q1 &&& (15 : Int64))) - (1 : Int64))), .second, .val (.int (p3 &&& (7 : Int32))), .val (.long (((((p3.toUInt32 >>> ((3 : Int32) &&& 31).toUInt32).toInt32) &&& (3 : Int32)) - (1 : Int32)).toInt64)), .second, .val (.long q2), .second, .unset, .unset, .unset]) rfl k) ?_
      show own_Go _ _ _ _ s₁ (mkF m 86 #[.val (.long q0), .second, .val (.long q1), .second, .val (.long q2), .second, .val (.int p3), .val (.long (q0 &&& (9223372036854775807 : Int64))), .second, .val (.long (((q0 &&& (9223372036854775807 : Int64)) + (q1 &&& (15 : Int64))) - (1 : Int64))), .second, .val (.int (p3 &&& (7 : Int32))), .val (.long (((((p3.toUInt32 >>> ((3 : Int32) &&& 31).toUInt32).toInt32) &&& (3 : Int32)) - (1 : Int32)).toInt64)), .second, .val (.long q2), .second, .unset, .unset, .unset] [])
      refine own_st (fun t k => XS.iload X0.here hx rfl (hb hby at_86) rfl k) ?_
      show own_Go _ _ _ _ s₁ (mkF m 88 #[.val (.long q0), .second, .val (.long q1), .second, .val (.long q2), .second, .val (.int p3), .val (.long (q0 &&& (9223372036854775807 : Int64))), .second, .val (.long (((q0 &&& (9223372036854775807 : Int64)) + (q1 &&& (15 : Int64))) - (1 : Int64))), .second, .val (.int (p3 &&& (7 : Int32))), .val (.long (((((p3.toUInt32 >>> ((3 : Int32) &&& 31).toUInt32).toInt32) &&& (3 : Int32)) - (1 : Int32)).toInt64)), .second, .val (.long q2), .second, .unset, .unset, .unset] [(.int (p3 &&& (7 : Int32)))])
      refine own_st (fun t k => XS.bipush X0.here hx rfl (hb hby at_88) k) ?_
      show own_Go _ _ _ _ s₁ (mkF m 90 #[.val (.long q0), .second, .val (.long q1), .second, .val (.long q2), .second, .val (.int p3), .val (.long (q0 &&& (9223372036854775807 : Int64))), .second, .val (.long (((q0 &&& (9223372036854775807 : Int64)) + (q1 &&& (15 : Int64))) - (1 : Int64))), .second, .val (.int (p3 &&& (7 : Int32))), .val (.long (((((p3.toUInt32 >>> ((3 : Int32) &&& 31).toUInt32).toInt32) &&& (3 : Int32)) - (1 : Int32)).toInt64)), .second, .val (.long q2), .second, .unset, .unset, .unset] [(.int (6 : Int32)), (.int (p3 &&& (7 : Int32)))])
      by_cases c90_13 : (p3 &&& (7 : Int32)) < (6 : Int32)
      ·
        refine own_st (fun t k => XS.icmpYes X0.here hx rfl (pc0 := 90) (pc' := 100) rfl (hb hby at_90) rfl (tlt c90_13).1 (by decide) (by decide) k) ?_
        show own_Go _ _ _ _ s₁ (mkF m 100 #[.val (.long q0), .second, .val (.long q1), .second, .val (.long q2), .second, .val (.int p3), .val (.long (q0 &&& (9223372036854775807 : Int64))), .second, .val (.long (((q0 &&& (9223372036854775807 : Int64)) + (q1 &&& (15 : Int64))) - (1 : Int64))), .second, .val (.int (p3 &&& (7 : Int32))), .val (.long (((((p3.toUInt32 >>> ((3 : Int32) &&& 31).toUInt32).toInt32) &&& (3 : Int32)) - (1 : Int32)).toInt64)), .second, .val (.long q2), .second, .unset, .unset, .unset] [])
        exact JG100 (q0 &&& (9223372036854775807 : Int64)) (((q0 &&& (9223372036854775807 : Int64)) + (q1 &&& (15 : Int64))) - (1 : Int64)) q2  (own_pos _)
      ·
        refine own_st (fun t k => XS.icmpNo X0.here hx rfl (hb hby at_90) rfl (flt c90_13).1 k) ?_
        show own_Go _ _ _ _ s₁ (mkF m 93 #[.val (.long q0), .second, .val (.long q1), .second, .val (.long q2), .second, .val (.int p3), .val (.long (q0 &&& (9223372036854775807 : Int64))), .second, .val (.long (((q0 &&& (9223372036854775807 : Int64)) + (q1 &&& (15 : Int64))) - (1 : Int64))), .second, .val (.int (p3 &&& (7 : Int32))), .val (.long (((((p3.toUInt32 >>> ((3 : Int32) &&& 31).toUInt32).toInt32) &&& (3 : Int32)) - (1 : Int32)).toInt64)), .second, .val (.long q2), .second, .unset, .unset, .unset] [])
        refine own_st (fun t k => XS.lload X0.here hx rfl (hb hby at_93) rfl k) ?_
        show own_Go _ _ _ _ s₁ (mkF m 95 #[.val (.long q0), .second, .val (.long q1), .second, .val (.long q2), .second, .val (.int p3), .val (.long (q0 &&& (9223372036854775807 : Int64))), .second, .val (.long (((q0 &&& (9223372036854775807 : Int64)) + (q1 &&& (15 : Int64))) - (1 : Int64))), .second, .val (.int (p3 &&& (7 : Int32))), .val (.long (((((p3.toUInt32 >>> ((3 : Int32) &&& 31).toUInt32).toInt32) &&& (3 : Int32)) - (1 : Int32)).toInt64)), .second, .val (.long q2), .second, .unset, .unset, .unset] [(.long (((q0 &&& (9223372036854775807 : Int64)) + (q1 &&& (15 : Int64))) - (1 : Int64)))])
        refine own_st (fun t k => XS.lload X0.here hx rfl (hb hby at_95) rfl k) ?_
        show own_Go _ _ _ _ s₁ (mkF m 97 #[.val (.long q0), .second, .val (.long q1), .second, .val (.long q2), .second, .val (.int p3), .val (.long (q0 &&& (9223372036854775807 : Int64))), .second, .val (.long (((q0 &&& (9223372036854775807 : Int64)) + (q1 &&& (15 : Int64))) - (1 : Int64))), .second, .val (.int (p3 &&& (7 : Int32))), .val (.long (((((p3.toUInt32 >>> ((3 : Int32) &&& 31).toUInt32).toInt32) &&& (3 : Int32)) - (1 : Int32)).toInt64)), .second, .val (.long q2), .second, .unset, .unset, .unset] [(.long (((((p3.toUInt32 >>> ((3 : Int32) &&& 31).toUInt32).toInt32) &&& (3 : Int32)) - (1 : Int32)).toInt64)), (.long (((q0 &&& (9223372036854775807 : Int64)) + (q1 &&& (15 : Int64))) - (1 : Int64)))])
        refine own_st (fun t k => XS.ladd X0.here hx rfl (hb hby at_97) rfl k) ?_
        show own_Go _ _ _ _ s₁ (mkF m 98 #[.val (.long q0), .second, .val (.long q1), .second, .val (.long q2), .second, .val (.int p3), .val (.long (q0 &&& (9223372036854775807 : Int64))), .second, .val (.long (((q0 &&& (9223372036854775807 : Int64)) + (q1 &&& (15 : Int64))) - (1 : Int64))), .second, .val (.int (p3 &&& (7 : Int32))), .val (.long (((((p3.toUInt32 >>> ((3 : Int32) &&& 31).toUInt32).toInt32) &&& (3 : Int32)) - (1 : Int32)).toInt64)), .second, .val (.long q2), .second, .unset, .unset, .unset] [(.long ((((q0 &&& (9223372036854775807 : Int64)) + (q1 &&& (15 : Int64))) - (1 : Int64)) + (((((p3.toUInt32 >>> ((3 : Int32) &&& 31).toUInt32).toInt32) &&& (3 : Int32)) - (1 : Int32)).toInt64)))])
        refine own_st (fun t k => XS.lstore X0.here hx rfl (hb hby at_98) rfl (l' := #[.val (.long q0), .second, .val (.long q1), .second, .val (.long q2), .second, .val (.int p3), .val (.long (q0 &&& (9223372036854775807 : Int64))), .second, .val (.long (((q0 &&& (9223372036854775807 : Int64)) + (q1 &&& (15 : Int64))) - (1 : Int64))), .second, .val (.int (p3 &&& (7 : Int32))), .val (.long (((((p3.toUInt32 >>> ((3 : Int32) &&& 31).toUInt32).toInt32) &&& (3 : Int32)) - (1 : Int32)).toInt64)), .second, .val (.long ((((q0 &&& (9223372036854775807 : Int64)) + (q1 &&& (15 : Int64))) - (1 : Int64)) + (((((p3.toUInt32 >>> ((3 : Int32) &&& 31).toUInt32).toInt32) &&& (3 : Int32)) - (1 : Int32)).toInt64))), .second, .unset, .unset, .unset]) rfl k) ?_
        show own_Go _ _ _ _ s₁ (mkF m 100 #[.val (.long q0), .second, .val (.long q1), .second, .val (.long q2), .second, .val (.int p3), .val (.long (q0 &&& (9223372036854775807 : Int64))), .second, .val (.long (((q0 &&& (9223372036854775807 : Int64)) + (q1 &&& (15 : Int64))) - (1 : Int64))), .second, .val (.int (p3 &&& (7 : Int32))), .val (.long (((((p3.toUInt32 >>> ((3 : Int32) &&& 31).toUInt32).toInt32) &&& (3 : Int32)) - (1 : Int32)).toInt64)), .second, .val (.long ((((q0 &&& (9223372036854775807 : Int64)) + (q1 &&& (15 : Int64))) - (1 : Int64)) + (((((p3.toUInt32 >>> ((3 : Int32) &&& 31).toUInt32).toInt32) &&& (3 : Int32)) - (1 : Int32)).toInt64))), .second, .unset, .unset, .unset] [])
        exact JG100 (q0 &&& (9223372036854775807 : Int64)) (((q0 &&& (9223372036854775807 : Int64)) + (q1 &&& (15 : Int64))) - (1 : Int64)) ((((q0 &&& (9223372036854775807 : Int64)) + (q1 &&& (15 : Int64))) - (1 : Int64)) + (((((p3.toUInt32 >>> ((3 : Int32) &&& 31).toUInt32).toInt32) &&& (3 : Int32)) - (1 : Int32)).toInt64))  (own_pos _)
  ·
    refine own_st (fun t k => XS.icmpYes X0.here hx rfl (pc0 := 31) (pc' := 41) rfl (hb hby at_31) rfl (flt c31_11).2.1 (by decide) (by decide) k) ?_
    show own_Go _ _ _ _ s₁ (mkF m 41 #[.val (.long q0), .second, .val (.long q1), .second, .val (.long q2), .second, .val (.int p3), .val (.long (q0 &&& (9223372036854775807 : Int64))), .second, .val (.long q1), .second, .val (.int (p3 &&& (7 : Int32))), .val (.long (((((p3.toUInt32 >>> ((3 : Int32) &&& 31).toUInt32).toInt32) &&& (3 : Int32)) - (1 : Int32)).toInt64)), .second, .unset, .unset, .unset, .unset, .unset] [])
    refine own_st (fun t k => XS.iload X0.here hx rfl (hb hby at_41) rfl k) ?_
    show own_Go _ _ _ _ s₁ (mkF m 43 #[.val (.long q0), .second, .val (.long q1), .second, .val (.long q2), .second, .val (.int p3), .val (.long (q0 &&& (9223372036854775807 : Int64))), .second, .val (.long q1), .second, .val (.int (p3 &&& (7 : Int32))), .val (.long (((((p3.toUInt32 >>> ((3 : Int32) &&& 31).toUInt32).toInt32) &&& (3 : Int32)) - (1 : Int32)).toInt64)), .second, .unset, .unset, .unset, .unset, .unset] [(.int (p3 &&& (7 : Int32)))])
    refine own_st (fun t k => XS.bipush X0.here hx rfl (hb hby at_43) k) ?_
    show own_Go _ _ _ _ s₁ (mkF m 45 #[.val (.long q0), .second, .val (.long q1), .second, .val (.long q2), .second, .val (.int p3), .val (.long (q0 &&& (9223372036854775807 : Int64))), .second, .val (.long q1), .second, .val (.int (p3 &&& (7 : Int32))), .val (.long (((((p3.toUInt32 >>> ((3 : Int32) &&& 31).toUInt32).toInt32) &&& (3 : Int32)) - (1 : Int32)).toInt64)), .second, .unset, .unset, .unset, .unset, .unset] [(.int (6 : Int32)), (.int (p3 &&& (7 : Int32)))])
    by_cases c45_14 : (p3 &&& (7 : Int32)) < (6 : Int32)
    ·
      refine own_st (fun t k => XS.icmpNo X0.here hx rfl (hb hby at_45) rfl (tlt c45_14).2.1 k) ?_
      show own_Go _ _ _ _ s₁ (mkF m 48 #[.val (.long q0), .second, .val (.long q1), .second, .val (.long q2), .second, .val (.int p3), .val (.long (q0 &&& (9223372036854775807 : Int64))), .second, .val (.long q1), .second, .val (.int (p3 &&& (7 : Int32))), .val (.long (((((p3.toUInt32 >>> ((3 : Int32) &&& 31).toUInt32).toInt32) &&& (3 : Int32)) - (1 : Int32)).toInt64)), .second, .unset, .unset, .unset, .unset, .unset] [])
      refine own_st (fun t k => XS.lload X0.here hx rfl (hb hby at_48) rfl k) ?_
      show own_Go _ _ _ _ s₁ (mkF m 50 #[.val (.long q0), .second, .val (.long q1), .second, .val (.long q2), .second, .val (.int p3), .val (.long (q0 &&& (9223372036854775807 : Int64))), .second, .val (.long q1), .second, .val (.int (p3 &&& (7 : Int32))), .val (.long (((((p3.toUInt32 >>> ((3 : Int32) &&& 31).toUInt32).toInt32) &&& (3 : Int32)) - (1 : Int32)).toInt64)), .second, .unset, .unset, .unset, .unset, .unset] [(.long (q0 &&& (9223372036854775807 : Int64)))])
      refine own_st (fun t k => XS.lload X0.here hx rfl (hb hby at_50) rfl k) ?_
      show own_Go _ _ _ _ s₁ (mkF m 52 #[.val (.long q0), .second, .val (.long q1), .second, .val (.long q2), .second, .val (.int p3), .val (.long (q0 &&& (9223372036854775807 : Int64))), .second, .val (.long q1), .second, .val (.int (p3 &&& (7 : Int32))), .val (.long (((((p3.toUInt32 >>> ((3 : Int32) &&& 31).toUInt32).toInt32) &&& (3 : Int32)) - (1 : Int32)).toInt64)), .second, .unset, .unset, .unset, .unset, .unset] [(.long (((((p3.toUInt32 >>> ((3 : Int32) &&& 31).toUInt32).toInt32) &&& (3 : Int32)) - (1 : Int32)).toInt64)), (.long (q0 &&& (9223372036854775807 : Int64)))])
      refine own_st (fun t k => XS.ladd X0.here hx rfl (hb hby at_52) rfl k) ?_
      show own_Go _ _ _ _ s₁ (mkF m 53 #[.val (.long q0), .second, .val (.long q1), .second, .val (.long q2), .second, .val (.int p3), .val (.long (q0 &&& (9223372036854775807 : Int64))), .second, .val (.long q1), .second, .val (.int (p3 &&& (7 : Int32))), .val (.long (((((p3.toUInt32 >>> ((3 : Int32) &&& 31).toUInt32).toInt32) &&& (3 : Int32)) - (1 : Int32)).toInt64)), .second, .unset, .unset, .unset, .unset, .unset] [(.long ((q0 &&& (9223372036854775807 : Int64)) + (((((p3.toUInt32 >>> ((3 : Int32) &&& 31).toUInt32).toInt32) &&& (3 : Int32)) - (1 : Int32)).toInt64)))])
      refine own_st (fun t k => XS.lstore X0.here hx rfl (hb hby at_53) rfl (l' := #[.val (.long q0), .second, .val (.long q1), .second, .val (.long q2), .second, .val (.int p3), .val (.long (q0 &&& (9223372036854775807 : Int64))), .second, .val (.long q1), .second, .val (.int (p3 &&& (7 : Int32))), .val (.long (((((p3.toUInt32 >>> ((3 : Int32) &&& 31).toUInt32).toInt32) &&& (3 : Int32)) - (1 : Int32)).toInt64)), .second, .val (.long ((q0 &&& (9223372036854775807 : Int64)) + (((((p3.toUInt32 >>> ((3 : Int32) &&& 31).toUInt32).toInt32) &&& (3 : Int32)) - (1 : Int32)).toInt64))), .second, .unset, .unset, .unset]) rfl k) ?_
      show own_Go _ _ _ _ s₁ (mkF m 55 #[.val (.long q0), .second, .val (.long q1), .second, .val (.long q2), .second, .val (.int p3), .val (.long (q0 &&& (9223372036854775807 : Int64))), .second, .val (.long q1), .second, .val (.int (p3 &&& (7 : Int32))), .val (.long (((((p3.toUInt32 >>> ((3 : Int32) &&& 31).toUInt32).toInt32) &&& (3 : Int32)) - (1 : Int32)).toInt64)), .second, .val (.long ((q0 &&& (9223372036854775807 : Int64)) + (((((p3.toUInt32 >>> ((3 : Int32) &&& 31).toUInt32).toInt32) &&& (3 : Int32)) - (1 : Int32)).toInt64))), .second, .unset, .unset, .unset] [])
      refine own_st (fun t k => XS.goto X0.here hx rfl (pc0 := 55) (pc' := 65) rfl (hb hby at_55) (by decide) (by decide) k) ?_
      show own_Go _ _ _ _ s₁ (mkF m 65 #[.val (.long q0), .second, .val (.long q1), .second, .val (.long q2), .second, .val (.int p3), .val (.long (q0 &&& (9223372036854775807 : Int64))), .second, .val (.long q1), .second, .val (.int (p3 &&& (7 : Int32))), .val (.long (((((p3.toUInt32 >>> ((3 : Int32) &&& 31).toUInt32).toInt32) &&& (3 : Int32)) - (1 : Int32)).toInt64)), .second, .val (.long ((q0 &&& (9223372036854775807 : Int64)) + (((((p3.toUInt32 >>> ((3 : Int32) &&& 31).toUInt32).toInt32) &&& (3 : Int32)) - (1 : Int32)).toInt64))), .second, .unset, .unset, .unset] [])
      refine own_st (fun t k => XS.iload X0.here hx rfl (hb hby at_65) rfl k) ?_
      show own_Go _ _ _ _ s₁ (mkF m 67 #[.val (.long q0), .second, .val (.long q1), .second, .val (.long q2), .second, .val (.int p3), .val (.long (q0 &&& (9223372036854775807 : Int64))), .second, .val (.long q1), .second, .val (.int (p3 &&& (7 : Int32))), .val (.long (((((p3.toUInt32 >>> ((3 : Int32) &&& 31).toUInt32).toInt32) &&& (3 : Int32)) - (1 : Int32)).toInt64)), .second, .val (.long ((q0 &&& (9223372036854775807 : Int64)) + (((((p3.toUInt32 >>> ((3 : Int32) &&& 31).toUInt32).toInt32) &&& (3 : Int32)) - (1 : Int32)).toInt64))), .second, .unset, .unset, .unset] [(.int p3)])
      refine own_st (fun t k => XS.iconst X0.here hx rfl (hb hby at_67) k) ?_
      show own_Go _ _ _ _ s₁ (mkF m 68 #[.val (.long q0), .second, .val (.long q1), .second, .val (.long q2), .second, .val (.int p3), .val (.long (q0 &&& (9223372036854775807 : Int64))), .second, .val (.long q1), .second, .val (.int (p3 &&& (7 : Int32))), .val (.long (((((p3.toUInt32 >>> ((3 : Int32) &&& 31).toUInt32).toInt32) &&& (3 : Int32)) - (1 : Int32)).toInt64)), .second, .val (.long ((q0 &&& (9223372036854775807 : Int64)) + (((((p3.toUInt32 >>> ((3 : Int32) &&& 31).toUInt32).toInt32) &&& (3 : Int32)) - (1 : Int32)).toInt64))), .second, .unset, .unset, .unset] [(.int (5 : Int32)), (.int p3)])
      refine own_st (fun t k => XS.iushr X0.here hx rfl (hb hby at_68) rfl k) ?_
      show own_Go _ _ _ _ s₁ (mkF m 69 #[.val (.long q0), .second, .val (.long q1), .second, .val (.long q2), .second, .val (.int p3), .val (.long (q0 &&& (9223372036854775807 : Int64))), .second, .val (.long q1), .second, .val (.int (p3 &&& (7 : Int32))), .val (.long (((((p3.toUInt32 >>> ((3 : Int32) &&& 31).toUInt32).toInt32) &&& (3 : Int32)) - (1 : Int32)).toInt64)), .second, .val (.long ((q0 &&& (9223372036854775807 : Int64)) + (((((p3.toUInt32 >>> ((3 : Int32) &&& 31).toUInt32).toInt32) &&& (3 : Int32)) - (1 : Int32)).toInt64))), .second, .unset, .unset, .unset] [(.int ((p3.toUInt32 >>> ((5 : Int32) &&& 31).toUInt32).toInt32))])
      refine own_st (fun t k => XS.iconst X0.here hx rfl (hb hby at_69) k) ?_
      show own_Go _ _ _ _ s₁ (mkF m 70 #[.val (.long q0), .second, .val (.long q1), .second, .val (.long q2), .second, .val (.int p3), .val (.long (q0 &&& (9223372036854775807 : Int64))), .second, .val (.long q1), .second, .val (.int (p3 &&& (7 : Int32))), .val (.long (((((p3.toUInt32 >>> ((3 : Int32) &&& 31).toUInt32).toInt32) &&& (3 : Int32)) - (1 : Int32)).toInt64)), .second, .val (.long ((q0 &&& (9223372036854775807 : Int64)) + (((((p3.toUInt32 >>> ((3 : Int32) &&& 31).toUInt32).toInt32) &&& (3 : Int32)) - (1 : Int32)).toInt64))), .second, .unset, .unset, .unset] [(.int (1 : Int32)), (.int ((p3.toUInt32 >>> ((5 : Int32) &&& 31).toUInt32).toInt32))])
      refine own_st (fun t k => XS.iand X0.here hx rfl (hb hby at_70) rfl k) ?_
      show own_Go _ _ _ _ s₁ (mkF m 71 #[.val (.long q0), .second, .val (.long q1), .second, .val (.long q2), .second, .val (.int p3), .val (.long (q0 &&& (9223372036854775807 : Int64))), .second, .val (.long q1), .second, .val (.int (p3 &&& (7 : Int32))), .val (.long (((((p3.toUInt32 >>> ((3 : Int32) &&& 31).toUInt32).toInt32) &&& (3 : Int32)) - (1 : Int32)).toInt64)), .second, .val (.long ((q0 &&& (9223372036854775807 : Int64)) + (((((p3.toUInt32 >>> ((3 : Int32) &&& 31).toUInt32).toInt32) &&& (3 : Int32)) - (1 : Int32)).toInt64))), .second, .unset, .unset, .unset] [(.int (((p3.toUInt32 >>> ((5 : Int32) &&& 31).toUInt32).toInt32) &&& (1 : Int32)))])
      by_cases c71_15 : (((p3.toUInt32 >>> ((5 : Int32) &&& 31).toUInt32).toInt32) &&& (1 : Int32)) = (0 : Int32)
      ·
        refine own_st (fun t k => XS.ifYes X0.here hx rfl (pc0 := 71) (pc' := 100) rfl (hb hby at_71) rfl ((if0 _ _).trans (teq c71_15).1) (by decide) (by decide) k) ?_
        show own_Go _ _ _ _ s₁ (mkF m 100 #[.val (.long q0), .second, .val (.long q1), .second, .val (.long q2), .second, .val (.int p3), .val (.long (q0 &&& (9223372036854775807 : Int64))), .second, .val (.long q1), .second, .val (.int (p3 &&& (7 : Int32))), .val (.long (((((p3.toUInt32 >>> ((3 : Int32) &&& 31).toUInt32).toInt32) &&& (3 : Int32)) - (1 : Int32)).toInt64)), .second, .val (.long ((q0 &&& (9223372036854775807 : Int64)) + (((((p3.toUInt32 >>> ((3 : Int32) &&& 31).toUInt32).toInt32) &&& (3 : Int32)) - (1 : Int32)).toInt64))), .second, .unset, .unset, .unset] [])
        exact JG100 (q0 &&& (9223372036854775807 : Int64)) q1 ((q0 &&& (9223372036854775807 : Int64)) + (((((p3.toUInt32 >>> ((3 : Int32) &&& 31).toUInt32).toInt32) &&& (3 : Int32)) - (1 : Int32)).toInt64))  (own_pos _)
      ·
        refine own_st (fun t k => XS.ifNo X0.here hx rfl (hb hby at_71) rfl ((if0 _ _).trans (feq c71_15).1) k) ?_
        show own_Go _ _ _ _ s₁ (mkF m 74 #[.val (.long q0), .second, .val (.long q1), .second, .val (.long q2), .second, .val (.int p3), .val (.long (q0 &&& (9223372036854775807 : Int64))), .second, .val (.long q1), .second, .val (.int (p3 &&& (7 : Int32))), .val (.long (((((p3.toUInt32 >>> ((3 : Int32) &&& 31).toUInt32).toInt32) &&& (3 : Int32)) - (1 : Int32)).toInt64)), .second, .val (.long ((q0 &&& (9223372036854775807 : Int64)) + (((((p3.toUInt32 >>> ((3 : Int32) &&& 31).toUInt32).toInt32) &&& (3 : Int32)) - (1 : Int32)).toInt64))), .second, .unset, .unset, .unset] [])
        refine own_st (fun t k => XS.lload X0.here hx rfl (hb hby at_74) rfl k) ?_
        show own_Go _ _ _ _ s₁ (mkF m 76 #[.val (.long q0), .second, .val (.long q1), .second, .val (.long q2), .second, .val (.int p3), .val (.long (q0 &&& (9223372036854775807 : Int64))), .second, .val (.long q1), .second, .val (.int (p3 &&& (7 : Int32))), .val (.long (((((p3.toUInt32 >>> ((3 : Int32) &&& 31).toUInt32).toInt32) &&& (3 : Int32)) - (1 : Int32)).toInt64)), .second, .val (.long ((q0 &&& (9223372036854775807 : Int64)) + (((((p3.toUInt32 >>> ((3 : Int32) &&& 31).toUInt32).toInt32) &&& (3 : Int32)) - (1 : Int32)).toInt64))), .second, .unset, .unset, .unset] [(.long (q0 &&& (9223372036854775807 : Int64)))])
        refine own_st (fun t k => XS.lloadN X0.here hx rfl (hb hby at_76) rfl k) ?_
        show own_Go _ _ _ _ s₁ (mkF m 77 #[.val (.long q0), .second, .val (.long q1), .second, .val (.long q2), .second, .val (.int p3), .val (.long (q0 &&& (9223372036854775807 : Int64))), .second, .val (.long q1), .second, .val (.int (p3 &&& (7 : Int32))), .val (.long (((((p3.toUInt32 >>> ((3 : Int32) &&& 31).toUInt32).toInt32) &&& (3 : Int32)) - (1 : Int32)).toInt64)), .second, .val (.long ((q0 &&& (9223372036854775807 : Int64)) + (((((p3.toUInt32 >>> ((3 : Int32) &&& 31).toUInt32).toInt32) &&& (3 : Int32)) - (1 : Int32)).toInt64))), .second, .unset, .unset, .unset] [(.long q1), (.long (q0 &&& (9223372036854775807 : Int64)))])
        refine own_st (X0.ldc2Long hx hown (mvT hZ (hw _ (List.mem_of_getElem? (i := 31) rfl))) (g := (mkF m 77 #[.val (.long q0), .second, .val (.long q1), .second, .val (.long q2), .second, .val (.int p3), .val (.long (q0 &&& (9223372036854775807 : Int64))), .second, .val (.long q1), .second, .val (.int (p3 &&& (7 : Int32))), .val (.long (((((p3.toUInt32 >>> ((3 : Int32) &&& 31).toUInt32).toInt32) &&& (3 : Int32)) - (1 : Int32)).toInt64)), .second, .val (.long ((q0 &&& (9223372036854775807 : Int64)) + (((((p3.toUInt32 >>> ((3 : Int32) &&& 31).toUInt32).toInt32) &&& (3 : Int32)) - (1 : Int32)).toInt64))), .second, .unset, .unset, .unset] [(.long q1), (.long (q0 &&& (9223372036854775807 : Int64)))])) rfl (hb hby at_77)) ?_
        show own_Go _ _ _ _ s₁ (mkF m 80 #[.val (.long q0), .second, .val (.long q1), .second, .val (.long q2), .second, .val (.int p3), .val (.long (q0 &&& (9223372036854775807 : Int64))), .second, .val (.long q1), .second, .val (.int (p3 &&& (7 : Int32))), .val (.long (((((p3.toUInt32 >>> ((3 : Int32) &&& 31).toUInt32).toInt32) &&& (3 : Int32)) - (1 : Int32)).toInt64)), .second, .val (.long ((q0 &&& (9223372036854775807 : Int64)) + (((((p3.toUInt32 >>> ((3 : Int32) &&& 31).toUInt32).toInt32) &&& (3 : Int32)) - (1 : Int32)).toInt64))), .second, .unset, .unset, .unset] [(.long (15 : Int64)), (.long q1), (.long (q0 &&& (9223372036854775807 : Int64)))])
        refine own_st (fun t k => XS.land X0.here hx rfl (hb hby at_80) rfl k) ?_
        show own_Go _ _ _ _ s₁ (mkF m 81 #[.val (.long q0), .second, .val (.long q1), .second, .val (.long q2), .second, .val (.int p3), .val (.long (q0 &&& (9223372036854775807 : Int64))), .second, .val (.long q1), .second, .val (.int (p3 &&& (7 : Int32))), .val (.long (((((p3.toUInt32 >>> ((3 : Int32) &&& 31).toUInt32).toInt32) &&& (3 : Int32)) - (1 : Int32)).toInt64)), .second, .val (.long ((q0 &&& (9223372036854775807 : Int64)) + (((((p3.toUInt32 >>> ((3 : Int32) &&& 31).toUInt32).toInt32) &&& (3 : Int32)) - (1 : Int32)).toInt64))), .second, .unset, .unset, .unset] [(.long (q1 &&& (15 : Int64))), (.long (q0 &&& (9223372036854775807 : Int64)))])
        refine own_st (fun t k => XS.ladd X0.here hx rfl (hb hby at_81) rfl k) ?_
        show own_Go _ _ _ _ s₁ (mkF m 82 #[.val (.long q0), .second, .val (.long q1), .second, .val (.long q2), .second, .val (.int p3), .val (.long (q0 &&& (9223372036854775807 : Int64))), .second, .val (.long q1), .second, .val (.int (p3 &&& (7 : Int32))), .val (.long (((((p3.toUInt32 >>> ((3 : Int32) &&& 31).toUInt32).toInt32) &&& (3 : Int32)) - (1 : Int32)).toInt64)), .second, .val (.long ((q0 &&& (9223372036854775807 : Int64)) + (((((p3.toUInt32 >>> ((3 : Int32) &&& 31).toUInt32).toInt32) &&& (3 : Int32)) - (1 : Int32)).toInt64))), .second, .unset, .unset, .unset] [(.long ((q0 &&& (9223372036854775807 : Int64)) + (q1 &&& (15 : Int64))))])
        refine own_st (fun t k => XS.lconst X0.here hx rfl (hb hby at_82) k) ?_
        show own_Go _ _ _ _ s₁ (mkF m 83 #[.val (.long q0), .second, .val (.long q1), .second, .val (.long q2), .second, .val (.int p3), .val (.long (q0 &&& (9223372036854775807 : Int64))), .second, .val (.long q1), .second, .val (.int (p3 &&& (7 : Int32))), .val (.long (((((p3.toUInt32 >>> ((3 : Int32) &&& 31).toUInt32).toInt32) &&& (3 : Int32)) - (1 : Int32)).toInt64)), .second, .val (.long ((q0 &&& (9223372036854775807 : Int64)) + (((((p3.toUInt32 >>> ((3 : Int32) &&& 31).toUInt32).toInt32) &&& (3 : Int32)) - (1 : Int32)).toInt64))), .second, .unset, .unset, .unset] [(.long (1 : Int64)), (.long ((q0 &&& (9223372036854775807 : Int64)) + (q1 &&& (15 : Int64))))])
        refine own_st (fun t k => XS.lsub X0.here hx rfl (hb hby at_83) rfl k) ?_
        show own_Go _ _ _ _ s₁ (mkF m 84 #[.val (.long q0), .second, .val (.long q1), .second, .val (.long q2), .second, .val (.int p3), .val (.long (q0 &&& (9223372036854775807 : Int64))), .second, .val (.long q1), .second, .val (.int (p3 &&& (7 : Int32))), .val (.long (((((p3.toUInt32 >>> ((3 : Int32) &&& 31).toUInt32).toInt32) &&& (3 : Int32)) - (1 : Int32)).toInt64)), .second, .val (.long ((q0 &&& (9223372036854775807 : Int64)) + (((((p3.toUInt32 >>> ((3 : Int32) &&& 31).toUInt32).toInt32) &&& (3 : Int32)) - (1 : Int32)).toInt64))), .second, .unset, .unset, .unset] [(.long (((q0 &&& (9223372036854775807 : Int64)) + (q1 &&& (15 : Int64))) - (1 : Int64)))])
        refine own_st (fun t k => XS.lstore X0.here hx rfl (hb hby at_84) rfl (l' := #[.val (.long q0), .second, .val (.long q1), .second, .val (.long q2), .second, .val (.int p3), .val (.long (q0 &&& (9223372036854775807 : Int64))), .second, .val (.long (((q0 &&& (9223372036854775807 : Int64)) + (q1 &&& (15 : Int64))) - (1 : Int64))), .second, .val (.int (p3 &&& (7 : Int32))), .val (.long (((((p3.toUInt32 >>> ((3 : Int32) &&& 31).toUInt32).toInt32) &&& (3 : Int32)) - (1 : Int32)).toInt64)), .second, .val (.long ((q0 &&& (9223372036854775807 : Int64)) + (((((p3.toUInt32 >>> ((3 : Int32) &&& 31).toUInt32).toInt32) &&& (3 : Int32)) - (1 : Int32)).toInt64))), .second, .unset, .unset, .unset]) rfl k) ?_
        show own_Go _ _ _ _ s₁ (mkF m 86 #[.val (.long q0), .second, .val (.long q1), .second, .val (.long q2), .second, .val (.int p3), .val (.long (q0 &&& (9223372036854775807 : Int64))), .second, .val (.long (((q0 &&& (9223372036854775807 : Int64)) + (q1 &&& (15 : Int64))) - (1 : Int64))), .second, .val (.int (p3 &&& (7 : Int32))), .val (.long (((((p3.toUInt32 >>> ((3 : Int32) &&& 31).toUInt32).toInt32) &&& (3 : Int32)) - (1 : Int32)).toInt64)), .second, .val (.long ((q0 &&& (9223372036854775807 : Int64)) + (((((p3.toUInt32 >>> ((3 : Int32) &&& 31).toUInt32).toInt32) &&& (3 : Int32)) - (1 : Int32)).toInt64))), .second, .unset, .unset, .unset] [])
        refine own_st (fun t k => XS.iload X0.here hx rfl (hb hby at_86) rfl k) ?_
        show own_Go _ _ _ _ s₁ (mkF m 88 #[.val (.long q0), .second, .val (.long q1), .second, .val (.long q2), .second, .val (.int p3), .val (.long (q0 &&& (9223372036854775807 : Int64))), .second, .val (.long (((q0 &&& (9223372036854775807 : Int64)) + (q1 &&& (15 : Int64))) - (1 : Int64))), .second, .val (.int (p3 &&& (7 : Int32))), .val (.long (((((p3.toUInt32 >>> ((3 : Int32) &&& 31).toUInt32).toInt32) &&& (3 : Int32)) - (1 : Int32)).toInt64)), .second, .val (.long ((q0 &&& (9223372036854775807 : Int64)) + (((((p3.toUInt32 >>> ((3 : Int32) &&& 31).toUInt32).toInt32) &&& (3 : Int32)) - (1 : Int32)).toInt64))), .second, .unset, .unset, .unset] [(.int (p3 &&& (7 : Int32)))])
        refine own_st (fun t k => XS.bipush X0.here hx rfl (hb hby at_88) k) ?_
        show own_Go _ _ _ _ s₁ (mkF m 90 #[.val (.long q0), .second, .val (.long q1), .second, .val (.long q2), .second, .val (.int p3), .val (.long (q0 &&& (9223372036854775807 : Int64))), .second, .val (.long (((q0 &&& (9223372036854775807 : Int64)) + (q1 &&& (15 : Int64))) - (1 : Int64))), .second, .val (.int (p3 &&& (7 : Int32))), .val (.long (((((p3.toUInt32 >>> ((3 : Int32) &&& 31).toUInt32).toInt32) &&& (3 : Int32)) - (1 : Int32)).toInt64)), .second, .val (.long ((q0 &&& (9223372036854775807 : Int64)) + (((((p3.toUInt32 >>> ((3 : Int32) &&& 31).toUInt32).toInt32) &&& (3 : Int32)) - (1 : Int32)).toInt64))), .second, .unset, .unset, .unset] [(.int (6 : Int32)), (.int (p3 &&& (7 : Int32)))])
        refine own_st (fun t k => XS.icmpYes X0.here hx rfl (pc0 := 90) (pc' := 100) rfl (hb hby at_90) rfl (tlt c45_14).1 (by decide) (by decide) k) ?_
        show own_Go _ _ _ _ s₁ (mkF m 100 #[.val (.long q0), .second, .val (.long q1), .second, .val (.long q2), .second, .val (.int p3), .val (.long (q0 &&& (9223372036854775807 : Int64))), .second, .val (.long (((q0 &&& (9223372036854775807 : Int64)) + (q1 &&& (15 : Int64))) - (1 : Int64))), .second, .val (.int (p3 &&& (7 : Int32))), .val (.long (((((p3.toUInt32 >>> ((3 : Int32) &&& 31).toUInt32).toInt32) &&& (3 : Int32)) - (1 : Int32)).toInt64)), .second, .val (.long ((q0 &&& (9223372036854775807 : Int64)) + (((((p3.toUInt32 >>> ((3 : Int32) &&& 31).toUInt32).toInt32) &&& (3 : Int32)) - (1 : Int32)).toInt64))), .second, .unset, .unset, .unset] [])
        exact JG100 (q0 &&& (9223372036854775807 : Int64)) (((q0 &&& (9223372036854775807 : Int64)) + (q1 &&& (15 : Int64))) - (1 : Int64)) ((q0 &&& (9223372036854775807 : Int64)) + (((((p3.toUInt32 >>> ((3 : Int32) &&& 31).toUInt32).toInt32) &&& (3 : Int32)) - (1 : Int32)).toInt64))  (own_pos _)
    ·
      refine own_st (fun t k => XS.icmpYes X0.here hx rfl (pc0 := 45) (pc' := 58) rfl (hb hby at_45) rfl (flt c45_14).2.1 (by decide) (by decide) k) ?_
      show own_Go _ _ _ _ s₁ (mkF m 58 #[.val (.long q0), .second, .val (.long q1), .second, .val (.long q2), .second, .val (.int p3), .val (.long (q0 &&& (9223372036854775807 : Int64))), .second, .val (.long q1), .second, .val (.int (p3 &&& (7 : Int32))), .val (.long (((((p3.toUInt32 >>> ((3 : Int32) &&& 31).toUInt32).toInt32) &&& (3 : Int32)) - (1 : Int32)).toInt64)), .second, .unset, .unset, .unset, .unset, .unset] [])
      refine own_st (fun t k => XS.lload X0.here hx rfl (hb hby at_58) rfl k) ?_
      show own_Go _ _ _ _ s₁ (mkF m 60 #[.val (.long q0), .second, .val (.long q1), .second, .val (.long q2), .second, .val (.int p3), .val (.long (q0 &&& (9223372036854775807 : Int64))), .second, .val (.long q1), .second, .val (.int (p3 &&& (7 : Int32))), .val (.long (((((p3.toUInt32 >>> ((3 : Int32) &&& 31).toUInt32).toInt32) &&& (3 : Int32)) - (1 : Int32)).toInt64)), .second, .unset, .unset, .unset, .unset, .unset] [(.long q1)])
      refine own_st (fun t k => XS.lload X0.here hx rfl (hb hby at_60) rfl k) ?_
      show own_Go _ _ _ _ s₁ (mkF m 62 #[.val (.long q0), .second, .val (.long q1), .second, .val (.long q2), .second, .val (.int p3), .val (.long (q0 &&& (9223372036854775807 : Int64))), .second, .val (.long q1), .second, .val (.int (p3 &&& (7 : Int32))), .val (.long (((((p3.toUInt32 >>> ((3 : Int32) &&& 31).toUInt32).toInt32) &&& (3 : Int32)) - (1 : Int32)).toInt64)), .second, .unset, .unset, .unset, .unset, .unset] [(.long (((((p3.toUInt32 >>> ((3 : Int32) &&& 31).toUInt32).toInt32) &&& (3 : Int32)) - (1 : Int32)).toInt64)), (.long q1)])
      refine own_st (fun t k => XS.ladd X0.here hx rfl (hb hby at_62) rfl k) ?_
      show own_Go _ _ _ _ s₁ (mkF m 63 #[.val (.long q0), .second, .val (.long q1), .second, .val (.long q2), .second, .val (.int p3), .val (.long (q0 &&& (9223372036854775807 : Int64))), .second, .val (.long q1), .second, .val (.int (p3 &&& (7 : Int32))), .val (.long (((((p3.toUInt32 >>> ((3 : Int32) &&& 31).toUInt32).toInt32) &&& (3 : Int32)) - (1 : Int32)).toInt64)), .second, .unset, .unset, .unset, .unset, .unset] [(.long (q1 + (((((p3.toUInt32 >>> ((3 : Int32) &&& 31).toUInt32).toInt32) &&& (3 : Int32)) - (1 : Int32)).toInt64)))])
      refine own_st (fun t k => XS.lstore X0.here hx rfl (hb hby at_63) rfl (l' := #[.val (.long q0), .second, .val (.long q1), .second, .val (.long q2), .second, .val (.int p3), .val (.long (q0 &&& (9223372036854775807 : Int64))), .second, .val (.long q1), .second, .val (.int (p3 &&& (7 : Int32))), .val (.long (((((p3.toUInt32 >>> ((3 : Int32) &&& 31).toUInt32).toInt32) &&& (3 : Int32)) - (1 : Int32)).toInt64)), .second, .val (.long (q1 + (((((p3.toUInt32 >>> ((3 : Int32) &&& 31).toUInt32).toInt32) &&& (3 : Int32)) - (1 : Int32)).toInt64))), .second, .unset, .unset, .unset]) rfl k) ?_
      show own_Go _ _ _ _ s₁ (mkF m 65 #[.val (.long q0), .second, .val (.long q1), .second, .val (.long q2), .second, .val (.int p3), .val (.long (q0 &&& (9223372036854775807 : Int64))), .second, .val (.long q1), .second, .val (.int (p3 &&& (7 : Int32))), .val (.long (((((p3.toUInt32 >>> ((3 : Int32) &&& 31).toUInt32).toInt32) &&& (3 : Int32)) - (1 : Int32)).toInt64)), .second, .val (.long (q1 + (((((p3.toUInt32 >>> ((3 : Int32) &&& 31).toUInt32).toInt32) &&& (3 : Int32)) - (1 : Int32)).toInt64))), .second, .unset, .unset, .unset] [])
      refine own_st (fun t k => XS.iload X0.here hx rfl (hb hby at_65) rfl k) ?_
      show own_Go _ _ _ _ s₁ (mkF m 67 #[.val (.long q0), .second, .val (.long q1), .second, .val (.long q2), .second, .val (.int p3), .val (.long (q0 &&& (9223372036854775807 : Int64))), .second, .val (.long q1), .second, .val (.int (p3 &&& (7 : Int32))), .val (.long (((((p3.toUInt32 >>> ((3 : Int32) &&& 31).toUInt32).toInt32) &&& (3 : Int32)) - (1 : Int32)).toInt64)), .second, .val (.long (q1 + (((((p3.toUInt32 >>> ((3 : Int32) &&& 31).toUInt32).toInt32) &&& (3 : Int32)) - (1 : Int32)).toInt64))), .second, .unset, .unset, .unset] [(.int p3)])
      refine own_st (fun t k => XS.iconst X0.here hx rfl (hb hby at_67) k) ?_
      show own_Go _ _ _ _ s₁ (mkF m 68 #[.val (.long q0), .second, .val (.long q1), .second, .val (.long q2), .second, .val (.int p3), .val (.long (q0 &&& (9223372036854775807 : Int64))), .second, .val (.long q1), .second, .val (.int (p3 &&& (7 : Int32))), .val (.long (((((p3.toUInt32 >>> ((3 : Int32) &&& 31).toUInt32).toInt32) &&& (3 : Int32)) - (1 : Int32)).toInt64)), .second, .val (.long (q1 + (((((p3.toUInt32 >>> ((3 : Int32) &&& 31).toUInt32).toInt32) &&& (3 : Int32)) - (1 : Int32)).toInt64))), .second, .unset, .unset, .unset] [(.int (5 : Int32)), (.int p3)])
      refine own_st (fun t k => XS.iushr X0.here hx rfl (hb hby at_68) rfl k) ?_
      show own_Go _ _ _ _ s₁ (mkF m 69 #[.val (.long q0), .second, .val (.long q1), .second, .val (.long q2), .second, .val (.int p3), .val (.long (q0 &&& (9223372036854775807 : Int64))), .second, .val (.long q1), .second, .val (.int (p3 &&& (7 : Int32))), .val (.long (((((p3.toUInt32 >>> ((3 : Int32) &&& 31).toUInt32).toInt32) &&& (3 : Int32)) - (1 : Int32)).toInt64)), .second, .val (.long (q1 + (((((p3.toUInt32 >>> ((3 : Int32) &&& 31).toUInt32).toInt32) &&& (3 : Int32)) - (1 : Int32)).toInt64))), .second, .unset, .unset, .unset] [(.int ((p3.toUInt32 >>> ((5 : Int32) &&& 31).toUInt32).toInt32))])
      refine own_st (fun t k => XS.iconst X0.here hx rfl (hb hby at_69) k) ?_
      show own_Go _ _ _ _ s₁ (mkF m 70 #[.val (.long q0), .second, .val (.long q1), .second, .val (.long q2), .second, .val (.int p3), .val (.long (q0 &&& (9223372036854775807 : Int64))), .second, .val (.long q1), .second, .val (.int (p3 &&& (7 : Int32))), .val (.long (((((p3.toUInt32 >>> ((3 : Int32) &&& 31).toUInt32).toInt32) &&& (3 : Int32)) - (1 : Int32)).toInt64)), .second, .val (.long (q1 + (((((p3.toUInt32 >>> ((3 : Int32) &&& 31).toUInt32).toInt32) &&& (3 : Int32)) - (1 : Int32)).toInt64))), .second, .unset, .unset, .unset] [(.int (1 : Int32)), (.int ((p3.toUInt32 >>> ((5 : Int32) &&& 31).toUInt32).toInt32))])
      refine own_st (fun t k => XS.iand X0.here hx rfl (hb hby at_70) rfl k) ?_
      show own_Go _ _ _ _ s₁ (mkF m 71 #[.val (.long q0), .second, .val (.long q1), .second, .val (.long q2), .second, .val (.int p3), .val (.long (q0 &&& (9223372036854775807 : Int64))), .second, .val (.long q1), .second, .val (.int (p3 &&& (7 : Int32))), .val (.long (((((p3.toUInt32 >>> ((3 : Int32) &&& 31).toUInt32).toInt32) &&& (3 : Int32)) - (1 : Int32)).toInt64)), .second, .val (.long (q1 + (((((p3.toUInt32 >>> ((3 : Int32) &&& 31).toUInt32).toInt32) &&& (3 : Int32)) - (1 : Int32)).toInt64))), .second, .unset, .unset, .unset] [(.int (((p3.toUInt32 >>> ((5 : Int32) &&& 31).toUInt32).toInt32) &&& (1 : Int32)))])
      by_cases c71_16 : (((p3.toUInt32 >>> ((5 : Int32) &&& 31).toUInt32).toInt32) &&& (1 : Int32)) = (0 : Int32)
      ·
        refine own_st (fun t k => XS.ifYes X0.here hx rfl (pc0 := 71) (pc' := 100) rfl (hb hby at_71) rfl ((if0 _ _).trans (teq c71_16).1) (by decide) (by decide) k) ?_
        show own_Go _ _ _ _ s₁ (mkF m 100 #[.val (.long q0), .second, .val (.long q1), .second, .val (.long q2), .second, .val (.int p3), .val (.long (q0 &&& (9223372036854775807 : Int64))), .second, .val (.long q1), .second, .val (.int (p3 &&& (7 : Int32))), .val (.long (((((p3.toUInt32 >>> ((3 : Int32) &&& 31).toUInt32).toInt32) &&& (3 : Int32)) - (1 : Int32)).toInt64)), .second, .val (.long (q1 + (((((p3.toUInt32 >>> ((3 : Int32) &&& 31).toUInt32).toInt32) &&& (3 : Int32)) - (1 : Int32)).toInt64))), .second, .unset, .unset, .unset] [])
        exact JG100 (q0 &&& (9223372036854775807 : Int64)) q1 (q1 + (((((p3.toUInt32 >>> ((3 : Int32) &&& 31).toUInt32).toInt32) &&& (3 : Int32)) - (1 : Int32)).toInt64))  (own_pos _)
      ·
        refine own_st (fun t k => XS.ifNo X0.here hx rfl (hb hby at_71) rfl ((if0 _ _).trans (feq c71_16).1) k) ?_
        show own_Go _ _ _ _ s₁ (mkF m 74 #[.val (.long q0), .second, .val (.long q1), .second, .val (.long q2), .second, .val (.int p3), .val (.long (q0 &&& (9223372036854775807 : Int64))), .second, .val (.long q1), .second, .val (.int (p3 &&& (7 : Int32))), .val (.long (((((p3.toUInt32 >>> ((3 : Int32) &&& 31).toUInt32).toInt32) &&& (3 : Int32)) - (1 : Int32)).toInt64)), .second, .val (.long (q1 + (((((p3.toUInt32 >>> ((3 : Int32) &&& 31).toUInt32).toInt32) &&& (3 : Int32)) - (1 : Int32)).toInt64))), .second, .unset, .unset, .unset] [])
        refine own_st (fun t k => XS.lload X0.here hx rfl (hb hby at_74) rfl k) ?_
        show own_Go _ _ _ _ s₁ (mkF m 76 #[.val (.long q0), .second, .val (.long q1), .second, .val (.long q2), .second, .val (.int p3), .val (.long (q0 &&& (9223372036854775807 : Int64))), .second, .val (.long q1), .second, .val (.int (p3 &&& (7 : Int32))), .val (.long (((((p3.toUInt32 >>> ((3 : Int32) &&& 31).toUInt32).toInt32) &&& (3 : Int32)) - (1 : Int32)).toInt64)), .second, .val (.long (q1 + (((((p3.toUInt32 >>> ((3 : Int32) &&& 31).toUInt32).toInt32) &&& (3 : Int32)) - (1 : Int32)).toInt64))), .second, .unset, .unset, .unset] [(.long (q0 &&& (9223372036854775807 : Int64)))])
        refine own_st (fun t k => XS.lloadN X0.here hx rfl (hb hby at_76) rfl k) ?_
        show own_Go _ _ _ _ s₁ (mkF m 77 #[.val (.long q0), .second, .val (.long q1), .second, .val (.long q2), .second, .val (.int p3), .val (.long (q0 &&& (9223372036854775807 : Int64))), .second, .val (.long q1), .second, .val (.int (p3 &&& (7 : Int32))), .val (.long (((((p3.toUInt32 >>> ((3 : Int32) &&& 31).toUInt32).toInt32) &&& (3 : Int32)) - (1 : Int32)).toInt64)), .second, .val (.long (q1 + (((((p3.toUInt32 >>> ((3 : Int32) &&& 31).toUInt32).toInt32) &&& (3 : Int32)) - (1 : Int32)).toInt64))), .second, .unset, .unset, .unset] [(.long q1), (.long (q0 &&& (9223372036854775807 : Int64)))])
        refine own_st (X0.ldc2Long hx hown (mvT hZ (hw _ (List.mem_of_getElem? (i := 31) rfl))) (g := (mkF m 77 #[.val (.long q0), .second, .val (.long q1), .second, .val (.long q2), .second, .val (.int p3), .val (.long (q0 &&& (9223372036854775807 : Int64))), .second, .val (.long q1), .second, .val (.int (p3 &&& (7 : Int32))), .val (.long (((((p3.toUInt32 >>> ((3 : Int32) &&& 31).toUInt32).toInt32) &&& (3 : Int32)) - (1 : Int32)).toInt64)), .second, .val (.long (q1 + (((((p3.toUInt32 >>> ((3 : Int32) &&& 31).toUInt32).toInt32) &&& (3 : Int32)) - (1 : Int32)).toInt64))), .second, .unset, .unset, .unset] [(.long q1), (.long (q0 &&& (9223372036854775807 : Int64)))])) rfl (hb hby at_77)) ?_
        show own_Go _ _ _ _ s₁ (mkF m 80 #[.val (.long q0), .second, .val (.long q1), .second, .val (.long q2), .second, .val (.int p3), .val (.long (q0 &&& (9223372036854775807 : Int64))), .second, .val (.long q1), .second, .val (.int (p3 &&& (7 : Int32))), .val (.long (((((p3.toUInt32 >>> ((3 : Int32) &&& 31).toUInt32).toInt32) &&& (3 : Int32)) - (1 : Int32)).toInt64)), .second, .val (.long (q1 + (((((p3.toUInt32 >>> ((3 : Int32) &&& 31).toUInt32).toInt32) &&& (3 : Int32)) - (1 : Int32)).toInt64))), .second, .unset, .unset, .unset] [(.long (15 : Int64)), (.long q1), (.long (q0 &&& (9223372036854775807 : Int64)))])
        refine own_st (fun t k => XS.land X0.here hx rfl (hb hby at_80) rfl k) ?_
        show own_Go _ _ _ _ s₁ (mkF m 81 #[.val (.long q0), .second, .val (.long q1), .second, .val (.long q2), .second, .val (.int p3), .val (.long (q0 &&& (9223372036854775807 : Int64))), .second, .val (.long q1), .second, .val (.int (p3 &&& (7 : Int32))), .val (.long (((((p3.toUInt32 >>> ((3 : Int32) &&& 31).toUInt32).toInt32) &&& (3 : Int32)) - (1 : Int32)).toInt64)), .second, .val (.long (q1 + (((((p3.toUInt32 >>> ((3 : Int32) &&& 31).toUInt32).toInt32) &&& (3 : Int32)) - (1 : Int32)).toInt64))), .second, .unset, .unset, .unset] [(.long (q1 &&& (15 : Int64))), (.long (q0 &&& (9223372036854775807 : Int64)))])
        refine own_st (fun t k => XS.ladd X0.here hx rfl (hb hby at_81) rfl k) ?_
        show own_Go _ _ _ _ s₁ (mkF m 82 #[.val (.long q0), .second, .val (.long q1), .second, .val (.long q2), .second, .val (.int p3), .val (.long (q0 &&& (9223372036854775807 : Int64))), .second, .val (.long q1), .second, .val (.int (p3 &&& (7 : Int32))), .val (.long (((((p3.toUInt32 >>> ((3 : Int32) &&& 31).toUInt32).toInt32) &&& (3 : Int32)) - (1 : Int32)).toInt64)), .second, .val (.long (q1 + (((((p3.toUInt32 >>> ((3 : Int32) &&& 31).toUInt32).toInt32) &&& (3 : Int32)) - (1 : Int32)).toInt64))), .second, .unset, .unset, .unset] [(.long ((q0 &&& (9223372036854775807 : Int64)) + (q1 &&& (15 : Int64))))])
        refine own_st (fun t k => XS.lconst X0.here hx rfl (hb hby at_82) k) ?_
        show own_Go _ _ _ _ s₁ (mkF m 83 #[.val (.long q0), .second, .val (.long q1), .second, .val (.long q2), .second, .val (.int p3), .val (.long (q0 &&& (9223372036854775807 : Int64))), .second, .val (.long q1), .second, .val (.int (p3 &&& (7 : Int32))), .val (.long (((((p3.toUInt32 >>> ((3 : Int32) &&& 31).toUInt32).toInt32) &&& (3 : Int32)) - (1 : Int32)).toInt64)), .second, .val (.long (q1 + (((((p3.toUInt32 >>> ((3 : Int32) &&& 31).toUInt32).toInt32) &&& (3 : Int32)) - (1 : Int32)).toInt64))), .second, .unset, .unset, .unset] [(.long (1 : Int64)), (.long ((q0 &&& (9223372036854775807 : Int64)) + (q1 &&& (15 : Int64))))])
        refine own_st (fun t k => XS.lsub X0.here hx rfl (hb hby at_83) rfl k) ?_
        show own_Go _ _ _ _ s₁ (mkF m 84 #[.val (.long q0), .second, .val (.long q1), .second, .val (.long q2), .second, .val (.int p3), .val (.long (q0 &&& (9223372036854775807 : Int64))), .second, .val (.long q1), .second, .val (.int (p3 &&& (7 : Int32))), .val (.long (((((p3.toUInt32 >>> ((3 : Int32) &&& 31).toUInt32).toInt32) &&& (3 : Int32)) - (1 : Int32)).toInt64)), .second, .val (.long (q1 + (((((p3.toUInt32 >>> ((3 : Int32) &&& 31).toUInt32).toInt32) &&& (3 : Int32)) - (1 : Int32)).toInt64))), .second, .unset, .unset, .unset] [(.long (((q0 &&& (9223372036854775807 : Int64)) + (q1 &&& (15 : Int64))) - (1 : Int64)))])
        refine own_st (fun t k => XS.lstore X0.here hx rfl (hb hby at_84) rfl (l' := #[.val (.long q0), .second, .val (.long q1), .second, .val (.long q2), .second, .val (.int p3), .val (.long (q0 &&& (9223372036854775807 : Int64))), .second, .val (.long (((q0 &&& (9223372036854775807 : Int64)) + (q1 &&& (15 : Int64))) - (1 : Int64))), .second, .val (.int (p3 &&& (7 : Int32))), .val (.long (((((p3.toUInt32 >>> ((3 : Int32) &&& 31).toUInt32).toInt32) &&& (3 : Int32)) - (1 : Int32)).toInt64)), .second, .val (.long (q1 + (((((p3.toUInt32 >>> ((3 : Int32) &&& 31).toUInt32).toInt32) &&& (3 : Int32)) - (1 : Int32)).toInt64))), .second, .unset, .unset, .unset]) rfl k) ?_
        show own_Go _ _ _ _ s₁ (mkF m 86 #[.val (.long q0), .second, .val (.long q1), .second, .val (.long q2), .second, .val (.int p3), .val (.long (q0 &&& (9223372036854775807 : Int64))), .second, .val (.long (((q0 &&& (9223372036854775807 : Int64)) + (q1 &&& (15 : Int64))) - (1 : Int64))), .second, .val (.int (p3 &&& (7 : Int32))), .val (.long (((((p3.toUInt32 >>> ((3 : Int32) &&& 31).toUInt32).toInt32) &&& (3 : Int32)) - (1 : Int32)).toInt64)), .second, .val (.long (q1 + (((((p3.toUInt32 >>> ((3 : Int32) &&& 31).toUInt32).toInt32) &&& (3 : Int32)) - (1 : Int32)).toInt64))), .second, .unset, .unset, .unset] [])
        refine own_st (fun t k => XS.iload X0.here hx rfl (hb hby at_86) rfl k) ?_
        show own_Go _ _ _ _ s₁ (mkF m 88 #[.val (.long q0), .second, .val (.long q1), .second, .val (.long q2), .second, .val (.int p3), .val (.long (q0 &&& (9223372036854775807 : Int64))), .second, .val (.long (((q0 &&& (9223372036854775807 : Int64)) + (q1 &&& (15 : Int64))) - (1 : Int64))), .second, .val (.int (p3 &&& (7 : Int32))), .val (.long (((((p3.toUInt32 >>> ((3 : Int32) &&& 31).toUInt32).toInt32) &&& (3 : Int32)) - (1 : Int32)).toInt64)), .second, .val (.long (q1 + (((((p3.toUInt32 >>> ((3 : Int32) &&& 31).toUInt32).toInt32) &&& (3 : Int32)) - (1 : Int32)).toInt64))), .second, .unset, .unset, .unset] [(.int (p3 &&& (7 : Int32)))])
        refine own_st (fun t k => XS.bipush X0.here hx rfl (hb hby at_88) k) ?_
        show own_Go _ _ _ _ s₁ (mkF m 90 #[.val (.long q0), .second, .val (.long q1), .second, .val (.long q2), .second, .val (.int p3), .val (.long (q0 &&& (9223372036854775807 : Int64))), .second, .val (.long (((q0 &&& (9223372036854775807 : Int64)) + (q1 &&& (15 : Int64))) - (1 : Int64))), .second, .val (.int (p3 &&& (7 : Int32))), .val (.long (((((p3.toUInt32 >>> ((3 : Int32) &&& 31).toUInt32).toInt32) &&& (3 : Int32)) - (1 : Int32)).toInt64)), .second, .val (.long (q1 + (((((p3.toUInt32 >>> ((3 : Int32) &&& 31).toUInt32).toInt32) &&& (3 : Int32)) - (1 : Int32)).toInt64))), .second, .unset, .unset, .unset] [(.int (6 : Int32)), (.int (p3 &&& (7 : Int32)))])
        refine own_st (fun t k => XS.icmpNo X0.here hx rfl (hb hby at_90) rfl (flt c45_14).1 k) ?_
        show own_Go _ _ _ _ s₁ (mkF m 93 #[.val (.long q0), .second, .val (.long q1), .second, .val (.long q2), .second, .val (.int p3), .val (.long (q0 &&& (9223372036854775807 : Int64))), .second, .val (.long (((q0 &&& (9223372036854775807 : Int64)) + (q1 &&& (15 : Int64))) - (1 : Int64))), .second, .val (.int (p3 &&& (7 : Int32))), .val (.long (((((p3.toUInt32 >>> ((3 : Int32) &&& 31).toUInt32).toInt32) &&& (3 : Int32)) - (1 : Int32)).toInt64)), .second, .val (.long (q1 + (((((p3.toUInt32 >>> ((3 : Int32) &&& 31).toUInt32).toInt32) &&& (3 : Int32)) - (1 : Int32)).toInt64))), .second, .unset, .unset, .unset] [])
        refine own_st (fun t k => XS.lload X0.here hx rfl (hb hby at_93) rfl k) ?_
        show own_Go _ _ _ _ s₁ (mkF m 95 #[.val (.long q0), .second, .val (.long q1), .second, .val (.long q2), .second, .val (.int p3), .val (.long (q0 &&& (9223372036854775807 : Int64))), .second, .val (.long (((q0 &&& (9223372036854775807 : Int64)) + (q1 &&& (15 : Int64))) - (1 : Int64))), .second, .val (.int (p3 &&& (7 : Int32))), .val (.long (((((p3.toUInt32 >>> ((3 : Int32) &&& 31).toUInt32).toInt32) &&& (3 : Int32)) - (1 : Int32)).toInt64)), .second, .val (.long (q1 + (((((p3.toUInt32 >>> ((3 : Int32) &&& 31).toUInt32).toInt32) &&& (3 : Int32)) - (1 : Int32)).toInt64))), .second, .unset, .unset, .unset] [(.long (((q0 &&& (9223372036854775807 : Int64)) + (q1 &&& (15 : Int64))) - (1 : Int64)))])
        refine own_st (fun t k => XS.lload X0.here hx rfl (hb hby at_95) rfl k) ?_
        show own_Go _ _ _ _ s₁ (mkF m 97 #[.val (.long q0), .second, .val (.long q1), .second, .val (.long q2), .second, .val (.int p3), .val (.long (q0 &&& (9223372036854775807 : Int64))), .second, .val (.long (((q0 &&& (9223372036854775807 : Int64)) + (q1 &&& (15 : Int64))) - (1 : Int64))), .second, .val (.int (p3 &&& (7 : Int32))), .val (.long (((((p3.toUInt32 >>> ((3 : Int32) &&& 31).toUInt32).toInt32) &&& (3 : Int32)) - (1 : Int32)).toInt64)), .second, .val (.long (q1 + (((((p3.toUInt32 >>> ((3 : Int32) &&& 31).toUInt32).toInt32) &&& (3 : Int32)) - (1 : Int32)).toInt64))), .second, .unset, .unset, .unset] [(.long (((((p3.toUInt32 >>> ((3 : Int32) &&& 31).toUInt32).toInt32) &&& (3 : Int32)) - (1 : Int32)).toInt64)), (.long (((q0 &&& (9223372036854775807 : Int64)) + (q1 &&& (15 : Int64))) - (1 : Int64)))])
        refine own_st (fun t k => XS.ladd X0.here hx rfl (hb hby at_97) rfl k) ?_
        show own_Go _ _ _ _ s₁ (mkF m 98 #[.val (.long q0), .second, .val (.long q1), .second, .val (.long q2), .second, .val (.int p3), .val (.long (q0 &&& (9223372036854775807 : Int64))), .second, .val (.long (((q0 &&& (9223372036854775807 : Int64)) + (q1 &&& (15 : Int64))) - (1 : Int64))), .second, .val (.int (p3 &&& (7 : Int32))), .val (.long (((((p3.toUInt32 >>> ((3 : Int32) &&& 31).toUInt32).toInt32) &&& (3 : Int32)) - (1 : Int32)).toInt64)), .second, .val (.long (q1 + (((((p3.toUInt32 >>> ((3 : Int32) &&& 31).toUInt32).toInt32) &&& (3 : Int32)) - (1 : Int32)).toInt64))), .second, .unset, .unset, .unset] [(.long ((((q0 &&& (9223372036854775807 : Int64)) + (q1 &&& (15 : Int64))) - (1 : Int64)) + (((((p3.toUInt32 >>> ((3 : Int32) &&& 31).toUInt32).toInt32) &&& (3 : Int32)) - (1 : Int32)).toInt64)))])
        refine own_st (fun t k => XS.lstore X0.here hx rfl (hb hby at_98) rfl (l' := #[.val (.long q0), .second, .val (.long q1), .second, .val (.long q2), .second, .val (.int p3), .val (.long (q0 &&& (9223372036854775807 : Int64))), .second, .val (.long (((q0 &&& (9223372036854775807 : Int64)) + (q1 &&& (15 : Int64))) - (1 : Int64))), .second, .val (.int (p3 &&& (7 : Int32))), .val (.long (((((p3.toUInt32 >>> ((3 : Int32) &&& 31).toUInt32).toInt32) &&& (3 : Int32)) - (1 : Int32)).toInt64)), .second, .val (.long ((((q0 &&& (9223372036854775807 : Int64)) + (q1 &&& (15 : Int64))) - (1 : Int64)) + (((((p3.toUInt32 >>> ((3 : Int32) &&& 31).toUInt32).toInt32) &&& (3 : Int32)) - (1 : Int32)).toInt64))), .second, .unset, .unset, .unset]) rfl k) ?_
        show own_Go _ _ _ _ s₁ (mkF m 100 #[.val (.long q0), .second, .val (.long q1), .second, .val (.long q2), .second, .val (.int p3), .val (.long (q0 &&& (9223372036854775807 : Int64))), .second, .val (.long (((q0 &&& (9223372036854775807 : Int64)) + (q1 &&& (15 : Int64))) - (1 : Int64))), .second, .val (.int (p3 &&& (7 : Int32))), .val (.long (((((p3.toUInt32 >>> ((3 : Int32) &&& 31).toUInt32).toInt32) &&& (3 : Int32)) - (1 : Int32)).toInt64)), .second, .val (.long ((((q0 &&& (9223372036854775807 : Int64)) + (q1 &&& (15 : Int64))) - (1 : Int64)) + (((((p3.toUInt32 >>> ((3 : Int32) &&& 31).toUInt32).toInt32) &&& (3 : Int32)) - (1 : Int32)).toInt64))), .second, .unset, .unset, .unset] [])
        exact JG100 (q0 &&& (9223372036854775807 : Int64)) (((q0 &&& (9223372036854775807 : Int64)) + (q1 &&& (15 : Int64))) - (1 : Int64)) ((((q0 &&& (9223372036854775807 : Int64)) + (q1 &&& (15 : Int64))) - (1 : Int64)) + (((((p3.toUInt32 >>> ((3 : Int32) &&& 31).toUInt32).toInt32) &&& (3 : Int32)) - (1 : Int32)).toInt64))  (own_pos _)
set_option maxRecDepth 65536 in
set_option maxHeartbeats 40000000 in
theorem comes_1 {Post : Tables → Env → Array Value → State → Outcome → State → Prop} (hpost : ∀ tb e args s v u, (limb_1_1.after args s (.returned v) u = true ∧ limb_1_2.after args s (.returned v) u = true ∧ True) → FrameEnd s (.returned v) u (Jvm.fieldLocs frame_1_writes args s ++ Jvm.arrayLocs frame_1_arrays args s ++ Jvm.staticLocs frame_1_statics s) 16 128 → Post tb e args s (.returned v) u) :
    ArmFor flags0 classFile x code maxLocals ret World_1 tables_1 room_1 Calls_1 rest_1 Pre_1 Post := by
  intro l hfl _ _ p e ha hc hk s m args below hf hA hF happ hP
  obtain ⟨hcalls, hrest, hpre⟩ := hP
  obtain ⟨-, -, -, hnamed, -, -, -, hat⟩ := (Spec.applies_iff hf).mp happ
  obtain ⟨hg, hn⟩ := and_e (Cond.before_iff.mp (show (Jvm.Cond.and given_1 narrow_1).before args s = true from hpre))
  obtain ⟨gc, gr0⟩ := and_e hg
  obtain ⟨ga0, gr1⟩ := and_e gr0
  obtain ⟨ga1, gr2⟩ := and_e gr1
  obtain ⟨ga2, gr3⟩ := and_e gr2
  obtain ⟨w0, w1, w2, w3, rfl⟩ : ∃ w0 w1 w2 w3 : Value, args = #[w0, w1, w2, w3] := by
    have hs : args.size = 4 := by simpa [Cond.value, given_1] using gc
    obtain ⟨L⟩ := args
    match L, hs with
    | [w0, w1, w2, w3], _ => exact ⟨w0, w1, w2, w3, rfl⟩
  have hw := fun d (hd : d ∈ tables_1) => atoms_spec (ws := Jvm.Cond.code x code maxLocals ret :: tables_1) hat d (List.mem_cons_of_mem _ hd)
  have hfit : Fit s := fun {y c} hc i hi => by
    obtain ⟨ha, rfl⟩ := Array.getElem?_eq_some_iff.mp hc
    have q := List.all_eq_true.mp ((Array.all_eq_true_iff_forall_mem.mp hF) _ (Array.getElem_mem ha)) i (List.mem_range.mpr hi)
    simpa [Array.getElem?_eq_getElem hi] using q
  obtain ⟨i0, ei0⟩ := isL_v ga0
  obtain rfl : w0 = (.long i0) := Option.some.inj ei0
  obtain ⟨i1, ei1⟩ := isL_v ga1
  obtain rfl : w1 = (.long i1) := Option.some.inj ei1
  obtain ⟨i2, ei2⟩ := isL_v ga2
  obtain rfl : w2 = (.long i2) := Option.some.inj ei2
  obtain ⟨i3, ei3⟩ := is_v gr3
  obtain rfl : w3 = (.int i3) := Option.some.inj ei3
  obtain ⟨n, o, h1, h2, h3, _, L, rfl, ⟨rfl, N⟩, hq⟩ := rm0 l s _ hw tables_1 i0 i1 i2 i3  s.heap s.heap.size (Nat.le_refl _)  p e ha hc hk s m _ below hf ((Spec.applies_iff_loose hf).mp happ).1 ⟨rfl, State.Warmed39.refl s, rfl⟩ trivial
  refine ⟨n, _, h1, h2, h3, hpost _ _ _ _ _ _ ⟨Cond.after_iff.mpr rfl, Cond.after_iff.mpr (eq_i res_at (Term.int_eval (1)) rfl), trivial⟩ ⟨hq.1, hq.2.1, (hq.2.2.sift fun y hy => Or.inr (N y hy)).mono (by decide) (by decide)⟩⟩
theorem main_1_1 : Claimed_1_1 := comes_1 fun _ _ _ _ _ _ h hF => ⟨h.1, hF⟩
theorem main_1_2 : Claimed_1_2 := comes_1 fun _ _ _ _ _ _ h hF => ⟨h.2.1, hF⟩
end Jvm.Pilot.@@N@@
namespace Jvm.Pilot.@@N@@
open Jvm Jvm.ClassFile Sem Op Lib Jvm.Free Jvm.Stand Jvm.Pilot.@@N@@.Jvm.D
/-! MADE BY PROGRAM (witnessworld.py) out of the Statement's table words and the real class files: 11 classes; the members and pool entries that the words name. The judged class is class 1, her method 1. -/
namespace start1
open Jvm.ClassFile
def u (s : String) : CpInfo := .utf8 (stringToUtf16 s)
/-- a pool by its gaps: so many unusable entries, then the entry; so many at the end -/
def gap : Nat → List CpInfo → List CpInfo
  | 0, r => r
  | n + 1, r => .unusable :: gap n r
def poolList (es : List (Nat × CpInfo)) (last : Nat) : List CpInfo := es.foldr (fun e r => gap e.1 (e.2 :: r)) (gap last [])
def pool (es : List (Nat × CpInfo)) (last : Nat) : Array CpInfo := ⟨poolList es last⟩
def fileOf (pool : Array CpInfo) (this : Nat) (attrs : Array Attribute := #[]) (ms : Array MethodInfo := #[]) (fl : Nat := 33) (sup : Nat := 0) (ifs : Array Nat := #[]) (fds : Array FieldInfo := #[]) : ClassFile where
  minorVersion := 0
  majorVersion := 65
  constantPool := pool
  accessFlags := fl
  thisClass := this
  superClass := sup
  interfaces := ifs
  fields := fds
  methods := ms
  attributes := attrs
def plain (name : String) (sup : Option ClassId) : Class where
  name := name
  kind := .ordinary
  loader := none
  accessFlags := 33
  super := sup
  interfaces := #[]
  cf := none
  fields := #[]
  methods := #[]
  instanceTypes := #[]
  staticTypes := #[]
  resolved := #[]
  callSites := []
  init := .initialized
  statics := none
  mirror := none

def pool0 : Array CpInfo := pool [(5, u "<init>"), (0, u "()V"), (1, .class_ 10), (1, u "java/lang/Object")] 113

def k0c0 : Code := { maxStack := 0, maxLocals := 1, code := object_method_1_code, exceptionTable := #[], attributes := #[] }
def k0m0 : Method := { name := "<init>", desc := "()V", sig := { parameters := [], returnType := none }, accessFlags := 1, code := some k0c0 }
/-- java/lang/Object -/
def k0 : Class := { plain "java/lang/Object" none with
  accessFlags := 33
  interfaces := #[]
  cf := some (fileOf pool0 8 #[] #[{ accessFlags := 1, nameIndex := 5, descriptorIndex := 6, attributes := #[] }] 33 0 #[] #[])
  fields := #[]
  methods := #[k0m0]
  instanceTypes := #[]
  staticTypes := #[]
  resolved := Array.replicate 124 none
  statics := none }

def pool1 : Array CpInfo := pool [(2, .class_ 4), (1, u "java/lang/Object"), (0, u "<init>"), (0, u "()V"), (2, .long 9223372036854775807), (1, .long 15), (1, .class_ 14), (0, u "com/example/decel/decel/store/VersionRange"), (0, .methodref 13 16), (0, .nameAndType 5 17), (0, u "(JJ)V"), (0, .methodref 13 19), (0, .nameAndType 20 21), (0, u "contains"), (0, u "(J)Z"), (0, .methodref 23 24), (0, .class_ 25), (0, .nameAndType 26 27), (0, u "java/lang/Math"), (0, u "min"), (0, u "(JJ)J"), (0, .methodref 23 29), (0, .nameAndType 30 27), (0, u "max"), (0, .class_ 32), (0, u "com/example/decel/decel/store/VersionRangeContainsPinLaw"), (2, u "law"), (0, u "(JJJI)Z")] 3

def k1m0 : Method := { name := "<init>", desc := "()V", sig := { parameters := [], returnType := none }, accessFlags := 1, code := none }
def k1c1 : Code := { maxStack := 6, maxLocals := 19, code := code, exceptionTable := #[], attributes := #[] }
def k1m1 : Method := { name := "law", desc := "(JJJI)Z", sig := { parameters := [.long, .long, .long, .int], returnType := some .boolean }, accessFlags := 9, code := some k1c1 }
/-- com/example/decel/decel/store/VersionRangeContainsPinLaw -/
def k1 : Class := { plain "com/example/decel/decel/store/VersionRangeContainsPinLaw" (some 0) with
  accessFlags := 49
  interfaces := #[]
  cf := some (fileOf pool1 31 #[] #[{ accessFlags := 1, nameIndex := 5, descriptorIndex := 6, attributes := #[] }, { accessFlags := 9, nameIndex := 35, descriptorIndex := 36, attributes := #[] }] 49 2 #[] #[])
  fields := #[]
  methods := #[k1m0, k1m1]
  instanceTypes := #[]
  staticTypes := #[]
  resolved := Array.replicate 40 none
  statics := none }

def pool2 : Array CpInfo := pool [(1, .methodref 2 3), (0, .class_ 4), (0, .nameAndType 5 6), (0, u "java/lang/Object"), (0, u "<init>"), (0, u "()V"), (0, .class_ 8), (0, u "java/lang/Record")] 13

def k2c0 : Code := { maxStack := 1, maxLocals := 1, code := jdk_30_method_1_code, exceptionTable := #[], attributes := #[] }
def k2m0 : Method := { name := "<init>", desc := "()V", sig := { parameters := [], returnType := none }, accessFlags := 4, code := some k2c0 }
/-- java/lang/Record -/
def k2 : Class := { plain "java/lang/Record" (some 0) with
  accessFlags := 1057
  interfaces := #[]
  cf := some (fileOf pool2 7 #[] #[{ accessFlags := 4, nameIndex := 5, descriptorIndex := 6, attributes := #[] }] 1057 2 #[] #[])
  fields := #[]
  methods := #[k2m0]
  instanceTypes := #[]
  staticTypes := #[]
  resolved := Array.replicate 22 none
  statics := none }

def pool3 : Array CpInfo := pool [(1, .methodref 2 3), (0, .class_ 4), (0, .nameAndType 5 6), (0, u "java/lang/Record"), (0, u "<init>"), (0, u "()V"), (9, .fieldref 17 18), (0, .class_ 19), (0, .nameAndType 20 21), (0, u "com/example/decel/decel/store/VersionRange"), (0, u "from"), (0, u "J"), (0, .fieldref 17 23), (0, .nameAndType 24 21), (0, u "last"), (18, u "(JJ)V"), (2, u "ALL"), (0, u "Lcom/example/decel/decel/store/VersionRange;"), (4, u "contains"), (0, u "(J)Z")] 36

def k3c0 : Code := { maxStack := 4, maxLocals := 5, code := prog_154_method_1_code, exceptionTable := #[], attributes := #[] }
def k3m0 : Method := { name := "<init>", desc := "(JJ)V", sig := { parameters := [.long, .long], returnType := none }, accessFlags := 1, code := some k3c0 }
def k3c1 : Code := { maxStack := 4, maxLocals := 3, code := prog_154_method_2_code, exceptionTable := #[], attributes := #[] }
def k3m1 : Method := { name := "contains", desc := "(J)Z", sig := { parameters := [.long], returnType := some .boolean }, accessFlags := 1, code := some k3c1 }
/-- com/example/decel/decel/store/VersionRange -/
def k3 : Class := { plain "com/example/decel/decel/store/VersionRange" (some 2) with
  accessFlags := 49
  interfaces := #[]
  cf := some (fileOf pool3 17 #[] #[{ accessFlags := 1, nameIndex := 5, descriptorIndex := 43, attributes := #[] }, { accessFlags := 1, nameIndex := 52, descriptorIndex := 53, attributes := #[] }] 49 2 #[] #[{ accessFlags := 18, nameIndex := 20, descriptorIndex := 21, attributes := #[] }, { accessFlags := 18, nameIndex := 24, descriptorIndex := 21, attributes := #[] }, { accessFlags := 25, nameIndex := 46, descriptorIndex := 47, attributes := #[] }])
  fields := #[{ name := "from", type := .long, accessFlags := 18, slot := 0, constantValue := 0 }, { name := "last", type := .long, accessFlags := 18, slot := 1, constantValue := 0 }, { name := "ALL", type := (.object "com/example/decel/decel/store/VersionRange"), accessFlags := 25, slot := 0, constantValue := 0 }]
  methods := #[k3m0, k3m1]
  instanceTypes := #[.long, .long]
  staticTypes := #[(.object "com/example/decel/decel/store/VersionRange")]
  resolved := Array.replicate 90 none
  statics := none }

def pool4 : Array CpInfo := pool [(1, .class_ 2), (0, u "java/lang/Math"), (1, .class_ 6), (1, u "java/lang/Object"), (0, u "<init>"), (0, u "()V"), (89, .class_ 100), (1, u "java/lang/Math$RandomNumberGeneratorHolder"), (20, u "(JJ)J"), (50, u "negativeZeroFloatBits"), (0, u "J"), (2, u "negativeZeroDoubleBits"), (21, u "max"), (2, u "min"), (43, u "$assertionsDisabled"), (0, u "Z"), (91, u "twoToTheDoubleScaleDown"), (0, u "D"), (4, u "twoToTheDoubleScaleUp"), (9, u "E"), (3, u "PI"), (2, u "TAU"), (2, u "DEGREES_TO_RADIANS"), (0, u "RADIANS_TO_DEGREES")] 94

def k4m0 : Method := { name := "<init>", desc := "()V", sig := { parameters := [], returnType := none }, accessFlags := 2, code := none }
def k4c1 : Code := { maxStack := 4, maxLocals := 4, code := jdk_29_method_66_code, exceptionTable := #[], attributes := #[] }
def k4m1 : Method := { name := "max", desc := "(JJ)J", sig := { parameters := [.long, .long], returnType := some .long }, accessFlags := 9, code := some k4c1 }
def k4c2 : Code := { maxStack := 4, maxLocals := 4, code := jdk_29_method_70_code, exceptionTable := #[], attributes := #[] }
def k4m2 : Method := { name := "min", desc := "(JJ)J", sig := { parameters := [.long, .long], returnType := some .long }, accessFlags := 9, code := some k4c2 }
/-- java/lang/Math -/
def k4 : Class := { plain "java/lang/Math" (some 0) with
  accessFlags := 49
  interfaces := #[]
  cf := some (fileOf pool4 1 #[.nestMembers #[98]] #[{ accessFlags := 2, nameIndex := 7, descriptorIndex := 8, attributes := #[] }, { accessFlags := 9, nameIndex := 198, descriptorIndex := 121, attributes := #[] }, { accessFlags := 9, nameIndex := 201, descriptorIndex := 121, attributes := #[] }] 49 4 #[] #[{ accessFlags := 25, nameIndex := 354, descriptorIndex := 339, attributes := #[] }, { accessFlags := 25, nameIndex := 358, descriptorIndex := 339, attributes := #[] }, { accessFlags := 25, nameIndex := 361, descriptorIndex := 339, attributes := #[] }, { accessFlags := 26, nameIndex := 364, descriptorIndex := 339, attributes := #[] }, { accessFlags := 26, nameIndex := 365, descriptorIndex := 339, attributes := #[] }, { accessFlags := 26, nameIndex := 172, descriptorIndex := 173, attributes := #[] }, { accessFlags := 26, nameIndex := 176, descriptorIndex := 173, attributes := #[] }, { accessFlags := 8, nameIndex := 344, descriptorIndex := 339, attributes := #[] }, { accessFlags := 8, nameIndex := 338, descriptorIndex := 339, attributes := #[] }, { accessFlags := 4120, nameIndex := 245, descriptorIndex := 246, attributes := #[] }])
  fields := #[{ name := "E", type := .double, accessFlags := 25, slot := 0, constantValue := 0 }, { name := "PI", type := .double, accessFlags := 25, slot := 1, constantValue := 0 }, { name := "TAU", type := .double, accessFlags := 25, slot := 2, constantValue := 0 }, { name := "DEGREES_TO_RADIANS", type := .double, accessFlags := 26, slot := 3, constantValue := 0 }, { name := "RADIANS_TO_DEGREES", type := .double, accessFlags := 26, slot := 4, constantValue := 0 }, { name := "negativeZeroFloatBits", type := .long, accessFlags := 26, slot := 5, constantValue := 0 }, { name := "negativeZeroDoubleBits", type := .long, accessFlags := 26, slot := 6, constantValue := 0 }, { name := "twoToTheDoubleScaleUp", type := .double, accessFlags := 8, slot := 7, constantValue := 0 }, { name := "twoToTheDoubleScaleDown", type := .double, accessFlags := 8, slot := 8, constantValue := 0 }, { name := "$assertionsDisabled", type := .boolean, accessFlags := 4120, slot := 9, constantValue := 0 }]
  methods := #[k4m0, k4m1, k4m2]
  instanceTypes := #[]
  staticTypes := #[.double, .double, .double, .double, .double, .long, .long, .double, .double, .boolean]
  resolved := Array.replicate 460 none
  statics := none }

def pool5 : Array CpInfo := pool [(1, u "java/lang/Cloneable"), (0, .class_ 1), (0, u "java/lang/Object"), (0, .class_ 3)] 3

/-- java/lang/Cloneable -/
def k5 : Class := { plain "java/lang/Cloneable" (some 0) with
  accessFlags := 1537
  interfaces := #[]
  cf := some (fileOf pool5 2 #[] #[] 1537 4 #[] #[])
  fields := #[]
  methods := #[]
  instanceTypes := #[]
  staticTypes := #[]
  resolved := Array.replicate 8 none
  statics := none }

def pool6 : Array CpInfo := pool [(1, u "java/io/Serializable"), (0, .class_ 1), (0, u "java/lang/Object"), (0, .class_ 3)] 3

/-- java/io/Serializable -/
def k6 : Class := { plain "java/io/Serializable" (some 0) with
  accessFlags := 1537
  interfaces := #[]
  cf := some (fileOf pool6 2 #[] #[] 1537 4 #[] #[])
  fields := #[]
  methods := #[]
  instanceTypes := #[]
  staticTypes := #[]
  resolved := Array.replicate 8 none
  statics := none }

/-- the primitive byte -/
def k7 : Class := { plain "byte" none with kind := .primitive 'B', accessFlags := 0x411 }
/-- [B -/
def k8 : Class := { plain "[B" (some 0) with kind := .array 7 .byte, interfaces := #[5, 6], accessFlags := 1041 }

/-- the primitive int -/
def k9 : Class := { plain "int" none with kind := .primitive 'I', accessFlags := 0x411 }
/-- [I -/
def k10 : Class := { plain "[I" (some 0) with kind := .array 9 .int, interfaces := #[5, 6], accessFlags := 1041 }

def heap : Heap := #[]
def classes : Array Class := #[k0, k1, k2, k3, k4, k5, k6, k7, k8, k9, k10]
def interned : List (Array UInt16 × Addr) := []
def slotsUsed : Nat := 0
def theMethod : MethodId := ⟨1, 1⟩
def args0 : Array Value := #[.long 5, .long 300, .long 2, .int 1]
def aboutOver (below : List Frame) : State where
  vm := { classes := classes, interned := interned.toArray }
  heap := heap
  slotsUsed := slotsUsed
  threads := #[{ frames := .invoking theMethod args0 :: below }]
def below0 : List Frame := [.native { method := ⟨0, 0⟩, args := #[] }]
def about1 : State := aboutOver below0
def p0 : Program := .bare "" "" ""
def e0 : Env := launch0.env 0 0 0
theorem w_frames : about1.frames = Frame.invoking theMethod args0 :: below0 := rfl
set_option maxRecDepth 65536 in
theorem w_args : argsFit about1.vm theMethod args0 = true := by decide +kernel
set_option maxRecDepth 65536 in
theorem w_heap : heapFits about1 = true := by decide +kernel
set_option maxRecDepth 65536 in
theorem w_runnable : about1.curStatus? = some .runnable := by decide +kernel
set_option maxRecDepth 65536 in
theorem w_alone : about1.alone = true := by decide +kernel
set_option maxRecDepth 65536 in
theorem w_named : about1.methodNamed? x = some theMethod := by decide +kernel
set_option maxRecDepth 65536 in
theorem w_hears : about1.hears theMethod below0 = true := by decide +kernel
set_option maxRecDepth 65536 in
theorem w_ripe : about1.ripe theMethod args0 below0 = true := by decide +kernel
theorem w_running : about1.status = .running := rfl
set_option maxRecDepth 65536 in
theorem w_room : about1.hasRoom e0.platform room_1 = true :=
  launch0.hasRoom_least _ room_1 (by decide +kernel) (by decide +kernel) (by decide +kernel) (by decide +kernel) (by decide +kernel) (by decide +kernel)
theorem allAtoms_all (ts : List Jvm.Cond) (a : Array Jvm.Value) (st : Jvm.State) : (allAtoms ts).before a st = ts.all (fun c => c.before a st) := by
  induction ts with
  | nil => rfl
  | cons c t ih =>
    show (Jvm.Cond.and c (allAtoms t)).before a st = _
    rw [Jvm.Cond.before_and, ih, List.all_cons]
def words1 : List Jvm.Cond := Jvm.Cond.code x code maxLocals ret :: tables_1
/-- a 'code' word, met by the world's own term for the bytes: nothing is compared byte by byte -/
theorem code_word {y : MethodName} {bytes : ByteArray} {mx : Nat} {rt : Option FieldType} {a : Array Value} {s : State} {m : MethodId} {meth : Method} {c : Code} (h1 : s.methodNamed? y = some m) (h2 : s.vm.method? m = some meth) (h3 : meth.code = some c) (h4 : c.code = bytes)
    (h5 : (c.maxLocals == mx && c.exceptionTable.isEmpty && decide (c.maxStack ≤ mostOperands) && decide (meth.sig.returnType = rt) && !meth.locks && decide (parseMethodDescriptor y.desc = some meth.sig)) = true) : (Jvm.Cond.code y bytes mx rt).before a s = true := by
  simp only [Bool.and_eq_true, beq_iff_eq, Bool.not_eq_true', decide_eq_true_eq] at h5
  obtain ⟨⟨⟨⟨⟨g1, g2⟩, g3⟩, g4⟩, g5⟩, g6⟩ := h5
  simp [Cond.before, Cond.holds, Cond.value, h1, h2, h3, h4, g1, g2, g3, g4, g5, g6]
def isCode : Jvm.Cond → Bool
  | .code _ _ _ _ => true
  | _ => false
theorem all_split {L : List Jvm.Cond} {P : Jvm.Cond → Bool} (h1 : L.all (fun c => isCode c || P c) = true) (h2 : ∀ c ∈ L.filter isCode, P c = true) : L.all P = true := by
  refine List.all_eq_true.mpr fun c hc => ?_
  have h := List.all_eq_true.mp h1 c hc
  rcases Bool.eq_false_or_eq_true (isCode c) with hi | hi
  · exact h2 c (List.mem_filter.mpr ⟨hc, hi⟩)
  · simpa [hi] using h
set_option maxRecDepth 65536 in
theorem w_c0 : (Jvm.Cond.code x code maxLocals ret).before args0 about1 = true := code_word (m := ⟨1, 1⟩) (meth := k1m1) (c := k1c1) (by decide +kernel) rfl rfl rfl (by decide +kernel)
set_option maxRecDepth 65536 in
theorem w_c1 : (Jvm.Cond.code ({ cls := "com/example/decel/decel/store/VersionRange", name := "<init>", desc := "(JJ)V" } : Jvm.MethodName) prog_154_method_1_code (5 : Nat) (Option.none : Option Jvm.ClassFile.FieldType)).before args0 about1 = true := code_word (m := ⟨3, 0⟩) (meth := k3m0) (c := k3c0) (by decide +kernel) rfl rfl rfl (by decide +kernel)
set_option maxRecDepth 65536 in
theorem w_c2 : (Jvm.Cond.code ({ cls := "java/lang/Record", name := "<init>", desc := "()V" } : Jvm.MethodName) jdk_30_method_1_code (1 : Nat) (Option.none : Option Jvm.ClassFile.FieldType)).before args0 about1 = true := code_word (m := ⟨2, 0⟩) (meth := k2m0) (c := k2c0) (by decide +kernel) rfl rfl rfl (by decide +kernel)
set_option maxRecDepth 65536 in
theorem w_c3 : (Jvm.Cond.code ({ cls := "java/lang/Object", name := "<init>", desc := "()V" } : Jvm.MethodName) object_method_1_code (1 : Nat) (Option.none : Option Jvm.ClassFile.FieldType)).before args0 about1 = true := code_word (m := ⟨0, 0⟩) (meth := k0m0) (c := k0c0) (by decide +kernel) rfl rfl rfl (by decide +kernel)
set_option maxRecDepth 65536 in
theorem w_c4 : (Jvm.Cond.code ({ cls := "com/example/decel/decel/store/VersionRange", name := "contains", desc := "(J)Z" } : Jvm.MethodName) prog_154_method_2_code (3 : Nat) (Option.some Jvm.ClassFile.FieldType.boolean)).before args0 about1 = true := code_word (m := ⟨3, 1⟩) (meth := k3m1) (c := k3c1) (by decide +kernel) rfl rfl rfl (by decide +kernel)
set_option maxRecDepth 65536 in
theorem w_c5 : (Jvm.Cond.code ({ cls := "java/lang/Math", name := "min", desc := "(JJ)J" } : Jvm.MethodName) jdk_29_method_70_code (4 : Nat) (Option.some Jvm.ClassFile.FieldType.long)).before args0 about1 = true := code_word (m := ⟨4, 2⟩) (meth := k4m2) (c := k4c2) (by decide +kernel) rfl rfl rfl (by decide +kernel)
set_option maxRecDepth 65536 in
theorem w_c6 : (Jvm.Cond.code ({ cls := "java/lang/Math", name := "max", desc := "(JJ)J" } : Jvm.MethodName) jdk_29_method_66_code (4 : Nat) (Option.some Jvm.ClassFile.FieldType.long)).before args0 about1 = true := code_word (m := ⟨4, 1⟩) (meth := k4m1) (c := k4c1) (by decide +kernel) rfl rfl rfl (by decide +kernel)
def codes1 : List Jvm.Cond := [Jvm.Cond.code x code maxLocals ret, Jvm.Cond.code ({ cls := "com/example/decel/decel/store/VersionRange", name := "<init>", desc := "(JJ)V" } : Jvm.MethodName) prog_154_method_1_code (5 : Nat) (Option.none : Option Jvm.ClassFile.FieldType), Jvm.Cond.code ({ cls := "java/lang/Record", name := "<init>", desc := "()V" } : Jvm.MethodName) jdk_30_method_1_code (1 : Nat) (Option.none : Option Jvm.ClassFile.FieldType), Jvm.Cond.code ({ cls := "java/lang/Object", name := "<init>", desc := "()V" } : Jvm.MethodName) object_method_1_code (1 : Nat) (Option.none : Option Jvm.ClassFile.FieldType), Jvm.Cond.code ({ cls := "com/example/decel/decel/store/VersionRange", name := "contains", desc := "(J)Z" } : Jvm.MethodName) prog_154_method_2_code (3 : Nat) (Option.some Jvm.ClassFile.FieldType.boolean), Jvm.Cond.code ({ cls := "java/lang/Math", name := "min", desc := "(JJ)J" } : Jvm.MethodName) jdk_29_method_70_code (4 : Nat) (Option.some Jvm.ClassFile.FieldType.long), Jvm.Cond.code ({ cls := "java/lang/Math", name := "max", desc := "(JJ)J" } : Jvm.MethodName) jdk_29_method_66_code (4 : Nat) (Option.some Jvm.ClassFile.FieldType.long)]
set_option maxRecDepth 65536 in
theorem codes_eq : words1.filter isCode = codes1 := rfl
theorem w_codes : ∀ c ∈ words1.filter isCode, c.before args0 about1 = true := by
  rw [codes_eq]
  intro c hc
  simp only [codes1, List.mem_cons, List.not_mem_nil, or_false] at hc
  rcases hc with rfl | rfl | rfl | rfl | rfl | rfl | rfl
  · exact w_c0
  · exact w_c1
  · exact w_c2
  · exact w_c3
  · exact w_c4
  · exact w_c5
  · exact w_c6
set_option maxRecDepth 65536 in
theorem w_t1 : (words1.take 24).all (fun c => isCode c || c.before args0 about1) = true := by decide +kernel
set_option maxRecDepth 65536 in
theorem w_t2 : (words1.drop 24).all (fun c => isCode c || c.before args0 about1) = true := by decide +kernel
theorem w_tables : (allAtoms (Jvm.Cond.code x code maxLocals ret :: tables_1)).before args0 about1 = true := by
  rw [allAtoms_all]
  show words1.all (fun c => c.before args0 about1) = true
  refine all_split ?_ w_codes
  rw [← List.take_append_drop 24 words1, List.all_append, w_t1, w_t2]
  rfl
set_option maxRecDepth 65536 in
theorem w_case : (Jvm.Cond.and given_1 narrow_1).before args0 about1 = true := by decide +kernel
theorem w_applies : (headSpec (Jvm.Cond.code x code maxLocals ret :: tables_1) room_1).applies x e0.platform about1 = true :=
  (Spec.applies_iff w_frames).mpr ⟨w_running, w_runnable, w_alone, w_named, w_hears, w_ripe, w_room, w_tables⟩
theorem atStart : AtStart classFile x code maxLocals ret World_1 tables_1 room_1 Calls_1 rest_1 Pre_1 launch0 p0 e0 about1 theMethod args0 below0 :=
  ⟨lists_1, trivial, launch0.admits_env _ _ _, launch0.least_env, fairChoices_fair.cas, fairChoices_fair.clock, w_frames, w_args, w_heap, w_applies, trivial, trivial, w_case⟩
end start1
theorem witness_1 : WitnessClaimed_1 := ⟨start1.p0, start1.e0, start1.about1, start1.theMethod, start1.args0, start1.below0, start1.atStart⟩
end Jvm.Pilot.@@N@@
