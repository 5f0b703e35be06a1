import JvmDerived
import JvmDerived.Pilot.@@N@@Statement
import JvmDerived.Pilot.@@N@@Code
set_option linter.unusedVariables false
set_option linter.unusedSimpArgs false
namespace Jvm.RoadKit
open Sem ClassFile Op Lib Jvm.Stand Jvm.Free Jvm.LawKit
section OwnGo
/-- from the state T with the frame g on top the run comes to a state of which K holds -/
def own_Go (tb : Tables) (e : Env) (below : List Frame) (K : State → Prop) (T : State) (g : JFrame) : Prop := ∃ t, Steps tb e below (T.setTop g) t ∧ K t
/-- the invocation has ended by a return, with what Q says of the value, the heap and the written places -/
def own_Fin (below : List Frame) (s : State) (Q : Option Value → Heap → List Loc → Prop) (k n : Nat) (t : State) : Prop := ∃ o, t.status = .running ∧ Ended t below o ∧ ∃ v L, o = .returned v ∧ Q v t.heap L ∧ FrameEnd s o t L k n
variable {p : Program} {l : Launch} {e : Env} {R : Room} {s : State} {m : MethodId} {args : Array Value} {below : List Frame} {meth : Method} {c : Code} {T : State} {locs : List Loc} {cells slots : Nat}
variable {K : State → Prop} {T' : State} {g g' : JFrame} {tb : Tables} {Q : Option Value → Heap → List Loc → Prop} {k n : Nat}
theorem own_st (h : ∀ t, Steps tb e below (T'.setTop g') t → Steps tb e below (T.setTop g) t) (q : own_Go tb e below K T' g') : own_Go tb e below K T g := by
  obtain ⟨t, h1, h2⟩ := q
  exact ⟨t, h _ h1, h2⟩
theorem own_tr (h : Steps tb e below (T.setTop g) (T'.setTop g')) (q : own_Go tb e below K T' g') : own_Go tb e below K T g := by
  obtain ⟨t, h1, h2⟩ := q
  exact ⟨t, h.trans h1, h2⟩
theorem own_in (h : g = g') (q : own_Go tb e below K T g') : own_Go tb e below K T g := h ▸ q
theorem own_out (q : own_Go tb e below (own_Fin below s Q k n) T g) : ∃ s₂ o, Steps tb e below (T.setTop g) s₂ ∧ s₂.status = .running ∧ Ended s₂ below o ∧ ∃ v L, o = .returned v ∧ Q v s₂.heap L ∧ FrameEnd s o s₂ L k n := by
  obtain ⟨t, h1, o, h2, h3, h4⟩ := q
  exact ⟨t, o, h1, h2, h3, h4⟩
theorem own_leave (X : Stand p l e R s m args below meth c T locs cells slots) (hlk : meth.locks = false) {v : Option Value} (hv : meth.sig.returnType = none → v = none) (hq : Q v T.heap locs) (hk : cells ≤ k) (hn : slots ≤ n)
    (st : ∀ fs, (∀ (f : JFrame) (acts : List Action), f.method = m → f.locked = none → f.entered = [] → (doReturn e (T.setTop f) acts v).1 = T.setFrames fs) → Steps p.tables e below (T.setTop g) (T.setFrames fs)) :
    own_Go p.tables e below (own_Fin below s Q k n) T g := by
  obtain ⟨fs, hr, hrun, hended, hW, hsame⟩ := X.leave (v := v) hv hlk
  exact ⟨_, st fs hr, _, hrun, hended, _, _, rfl, hq, ⟨_, rfl⟩, hW, hsame.mono hk hn⟩
variable {pc : Nat} {Ls : Array Slot} {rest : List Value}
theorem own_retV (X : Stand p l e R s m args below meth c T locs cells slots) (hx : p.tables.exec = Jvm.exec) (hlk : meth.locks = false) (hret : meth.sig.returnType = none) (hd : decode c.code pc = .ok (.return_, 1)) (hq : Q none T.heap locs) (hk : cells ≤ k) (hn : slots ≤ n) :
    own_Go p.tables e below (own_Fin below s Q k n) T (mkF m pc Ls []) :=
  own_leave X hlk (fun _ => rfl) hq hk hn fun _ hr => X.returnOut hx hret hd hr
theorem own_retW (X : Stand p l e R s m args below meth c T locs cells slots) (hx : p.tables.exec = Jvm.exec) (hlk : meth.locks = false) {w : Value} {t : FieldType} {i : Instr} (hret : meth.sig.returnType = some t) (hn' : narrow t w = w)
    (hi : (i = .ireturn ∧ (t = .int ∨ t = .boolean ∨ t = .byte ∨ t = .char ∨ t = .short) ∧ ∃ z, w = .int z) ∨ (i = .lreturn ∧ t = .long ∧ ∃ z, w = .long z) ∨ (i = .dreturn ∧ t = .double ∧ ∃ z, w = .double z) ∨ (i = .freturn ∧ t = .float ∧ ∃ z, w = .float z) ∨ (i = .areturn ∧ t.isReference = true ∧ w.isRef = true))
    (hd : decode c.code pc = .ok (i, 1)) (hq : Q (some w) T.heap locs) (hk : cells ≤ k) (hn : slots ≤ n) :
    own_Go p.tables e below (own_Fin below s Q k n) T (mkF m pc Ls (w :: rest)) :=
  own_leave X hlk (fun h => by rw [hret] at h; cases h) hq hk hn fun _ hr => retOut X hx hret hn' hi hd hr
theorem own_retI (X : Stand p l e R s m args below meth c T locs cells slots) (hx : p.tables.exec = Jvm.exec) (hlk : meth.locks = false) {z : Int32} (hret : meth.sig.returnType = some .int) (hd : decode c.code pc = .ok (.ireturn, 1)) (hq : Q (some (.int z)) T.heap locs) (hk : cells ≤ k) (hn : slots ≤ n) :
    own_Go p.tables e below (own_Fin below s Q k n) T (mkF m pc Ls (.int z :: rest)) :=
  own_retW X hx hlk hret rfl (Or.inl ⟨rfl, Or.inl rfl, _, rfl⟩) hd hq hk hn
theorem own_retJ (X : Stand p l e R s m args below meth c T locs cells slots) (hx : p.tables.exec = Jvm.exec) (hlk : meth.locks = false) {z : Int64} (hret : meth.sig.returnType = some .long) (hd : decode c.code pc = .ok (.lreturn, 1)) (hq : Q (some (.long z)) T.heap locs) (hk : cells ≤ k) (hn : slots ≤ n) :
    own_Go p.tables e below (own_Fin below s Q k n) T (mkF m pc Ls (.long z :: rest)) :=
  own_retW X hx hlk hret rfl (Or.inr (Or.inl ⟨rfl, rfl, _, rfl⟩)) hd hq hk hn
theorem own_retR (X : Stand p l e R s m args below meth c T locs cells slots) (hx : p.tables.exec = Jvm.exec) (hlk : meth.locks = false) {w : Value} {t : FieldType} (hret : meth.sig.returnType = some t) (ht : t.isReference = true) (hw : w.isRef = true) (hn' : narrow t w = w) (hd : decode c.code pc = .ok (.areturn, 1)) (hq : Q (some w) T.heap locs) (hk : cells ≤ k) (hn : slots ≤ n) :
    own_Go p.tables e below (own_Fin below s Q k n) T (mkF m pc Ls (w :: rest)) :=
  own_retW X hx hlk hret hn' (Or.inr (Or.inr (Or.inr (Or.inr ⟨rfl, ht, hw⟩)))) hd hq hk hn
theorem own_retN (X : Stand p l e R s m args below meth c T locs cells slots) (hx : p.tables.exec = Jvm.exec) (hlk : meth.locks = false) {z : Int32} {t : FieldType} (hret : meth.sig.returnType = some t) (ht : t = .boolean ∨ t = .byte ∨ t = .char ∨ t = .short) (hd : decode c.code pc = .ok (.ireturn, 1)) (hq : Q (some (.int (nar t z))) T.heap locs) (hk : cells ≤ k) (hn : slots ≤ n) :
    own_Go p.tables e below (own_Fin below s Q k n) T (mkF m pc Ls (.int z :: rest)) :=
  own_leave X hlk (fun h => by rw [hret] at h; cases h) hq hk hn fun _ hr => retN X hx hret ht hd hr
/-- the same, where String constants may have been resolved -/
def own_FinW (below : List Frame) (s : State) (Q : Option Value → Heap → List Loc → Prop) (k n : Nat) (t : State) : Prop := ∃ o, t.status = .running ∧ Ended t below o ∧ ∃ v L, o = .returned v ∧ Q v t.heap L ∧ ReturnedEndW s o t L k n
theorem own_outW (q : own_Go tb e below (own_FinW below s Q k n) T g) : ∃ s₂ o, Steps tb e below (T.setTop g) s₂ ∧ s₂.status = .running ∧ Ended s₂ below o ∧ ∃ v L, o = .returned v ∧ Q v s₂.heap L ∧ ReturnedEndW s o s₂ L k n := by
  obtain ⟨t, h1, o, h2, h3, h4⟩ := q
  exact ⟨t, o, h1, h2, h3, h4⟩
theorem own_leaveW {vm0 : Vm} {k0 : Nat} (X : Stand p l e R (s.setVm vm0) m args below meth c T locs cells slots) (hS : s.Since vm0 k0) (hk0 : k0 ≤ T.heap.size) (hlk : meth.locks = false) {v : Option Value} (hv : meth.sig.returnType = none → v = none) (hq : Q v T.heap locs) (hk : cells ≤ k) (hn : slots ≤ n)
    (st : ∀ fs, (∀ (f : JFrame) (acts : List Action), f.method = m → f.locked = none → f.entered = [] → (doReturn e (T.setTop f) acts v).1 = T.setFrames fs) → Steps p.tables e below (T.setTop g) (T.setFrames fs)) :
    own_Go p.tables e below (own_FinW below s Q k n) T g := by
  obtain ⟨fs, hr, hrun, hended, h1, h2, h3, h4⟩ := X.leaveW hS hk0 (v := v) hv hlk
  exact ⟨_, st fs hr, _, hrun, hended, _, _, rfl, hq, h1, h2, h3, h4.mono hk hn⟩
theorem own_retVW {vm0 : Vm} {k0 : Nat} (X : Stand p l e R (s.setVm vm0) m args below meth c T locs cells slots) (hS : s.Since vm0 k0) (hk0 : k0 ≤ T.heap.size) (hx : p.tables.exec = Jvm.exec) (hlk : meth.locks = false) (hret : meth.sig.returnType = none) (hd : decode c.code pc = .ok (.return_, 1)) (hq : Q none T.heap locs) (hk : cells ≤ k) (hn : slots ≤ n) :
    own_Go p.tables e below (own_FinW below s Q k n) T (mkF m pc Ls []) :=
  own_leaveW X hS hk0 hlk (fun _ => rfl) hq hk hn fun _ hr => X.returnOut hx hret hd hr
theorem own_retWW {vm0 : Vm} {k0 : Nat} (X : Stand p l e R (s.setVm vm0) m args below meth c T locs cells slots) (hS : s.Since vm0 k0) (hk0 : k0 ≤ T.heap.size) (hx : p.tables.exec = Jvm.exec) (hlk : meth.locks = false) {w : Value} {t : FieldType} {i : Instr} (hret : meth.sig.returnType = some t) (hn' : narrow t w = w)
    (hi : (i = .ireturn ∧ (t = .int ∨ t = .boolean ∨ t = .byte ∨ t = .char ∨ t = .short) ∧ ∃ z, w = .int z) ∨ (i = .lreturn ∧ t = .long ∧ ∃ z, w = .long z) ∨ (i = .dreturn ∧ t = .double ∧ ∃ z, w = .double z) ∨ (i = .freturn ∧ t = .float ∧ ∃ z, w = .float z) ∨ (i = .areturn ∧ t.isReference = true ∧ w.isRef = true))
    (hd : decode c.code pc = .ok (i, 1)) (hq : Q (some w) T.heap locs) (hk : cells ≤ k) (hn : slots ≤ n) :
    own_Go p.tables e below (own_FinW below s Q k n) T (mkF m pc Ls (w :: rest)) :=
  own_leaveW X hS hk0 hlk (fun h => by rw [hret] at h; cases h) hq hk hn fun _ hr => retOut X hx hret hn' hi hd hr
theorem own_retNW {vm0 : Vm} {k0 : Nat} (X : Stand p l e R (s.setVm vm0) m args below meth c T locs cells slots) (hS : s.Since vm0 k0) (hk0 : k0 ≤ T.heap.size) (hx : p.tables.exec = Jvm.exec) (hlk : meth.locks = false) {z : Int32} {t : FieldType} (hret : meth.sig.returnType = some t) (ht : t = .boolean ∨ t = .byte ∨ t = .char ∨ t = .short) (hd : decode c.code pc = .ok (.ireturn, 1)) (hq : Q (some (.int (nar t z))) T.heap locs) (hk : cells ≤ k) (hn : slots ≤ n) :
    own_Go p.tables e below (own_FinW below s Q k n) T (mkF m pc Ls (.int z :: rest)) :=
  own_leaveW X hS hk0 hlk (fun h => by rw [hret] at h; cases h) hq hk hn fun _ hr => retN X hx hret ht hd hr
theorem own_wz {Z : State} {vm0 vm1 : Vm} {k1 : Nat} (hZ : Z.Warmed39 vm0) (hs : (s.setVm vm0).Since vm1 k1) : Z.Warmed39 (s.setVm vm1).vm := State.Warmed39.trans (t := s.setVm vm0) hZ hs.1
theorem own_wo {vm0 vm1 : Vm} {k1 : Nat} {own : String} {q : ClassId} (h : (s.setVm vm0).vm.findClass own = some q) (hs : (s.setVm vm0).Since vm1 k1) : (s.setVm vm1).vm.findClass own = some q := by
  rw [show (s.setVm vm1).vm = vm1 from rfl, hs.1.alike.findClass]; exact h
theorem own_sta_keep {Z : State} {h h' : Heap} {C f d : String} {v : Value} {ws : List Addr} (F : Sta Z h C f d v) (K : Keep h h' ws) (hs : ∀ x ∈ ws, ∀ cl : Cell, h[x]? = some cl → cl.vm.isStatics = false) : Sta Z h' C f d v := by
  obtain ⟨cf, i, k, f', st, cell, h1, h2, h3, h4, h5, h6, h7⟩ := F
  refine ⟨cf, i, k, f', st, cell, h1, h2, h3, h4, K.2.1 _ _ h5 fun q => ?_, h6, h7⟩
  rw [hs st q cell h5] at h6
  cases h6
theorem own_getD_int (es : List Int32) (i : Nat) : (es.map Value.int).getD i (.int 0) = .int (es.getD i 0) := by
  induction es generalizing i with
  | nil => rfl
  | cons a t ih => cases i with
    | zero => rfl
    | succ j => simpa using ih j
theorem own_getD_long (es : List Int64) (i : Nat) : (es.map Value.long).getD i (.long 0) = .long (es.getD i 0) := by
  induction es generalizing i with
  | nil => rfl
  | cons a t ih => cases i with
    | zero => rfl
    | succ j => simpa using ih j
theorem own_eq_int {args : Array Value} {s : State} {t : Term} {k : Int32} (h : (Cond.eq t (.int k)).value args s none s [] = some true) : t.eval args s none [] s = some (.int k) := by
  obtain ⟨x, y, e1, e2, hk, hk'⟩ := cmp_v (Or.inl h)
  have e3 : y = .int k := by simpa [Term.eval] using e2.symm
  subst e3
  cases x with
  | int z => simp [Cond.value, e1, e2] at h; rw [e1, h]
  | _ => simp [Kin] at hk'
end OwnGo
end Jvm.RoadKit
namespace Jvm.Pilot.@@N@@
open Jvm Jvm.ClassFile Sem Op Lib Jvm.Free Jvm.Stand Jvm.LawKit Jvm.RoadKit Bundle Jvm.Pilot.@@N@@.Jvm.D
theorem own_nn (x : Int32) : ¬ ((x &&& (2147483647 : Int32)) < (0 : Int32)) := by
  have h := c_and x (2147483647 : Int32) (by decide)
  rw [Int32.lt_iff_toInt_lt]
  simp only [Int32.reduceToInt]
  omega
theorem own_pos (x : Int64) : ¬ ((x &&& (9223372036854775807 : Int64)) < (0 : Int64)) := by
  have h := c_maskL x (9223372036854775807 : Int64) 63 (by decide) (by decide)
  rw [Int64.lt_iff_toInt_lt, h]
  simp only [Int64.reduceToInt]
  omega
theorem own_p0 {x : Int64} (h : x = (0 : Int64)) : ¬ ((0 : Int64) < x) := by rw [h]; decide
theorem own_pn {x : Int32} (h : (0 : Int32) < x) : ¬ x = (0 : Int32) := by intro q; rw [q] at h; exact absurd h (by decide)
theorem own_pl {x : Int64} (h : (0 : Int64) < x) : ¬ x = (0 : Int64) := by intro q; rw [q] at h; exact absurd h (by decide)
/-! body 2: Record.<init> -/
theorem d2_0 : decode jdk_30_method_1_code 0 = .ok (.aload_n 0, 1) := by decide +kernel
theorem d2_1 : decode jdk_30_method_1_code 1 = .ok (.invokespecial 1, 3) := by decide +kernel
theorem d2_4 : decode jdk_30_method_1_code 4 = .ok (.return_, 1) := by decide +kernel
theorem pn_java_lang_Record : plainName "java/lang/Record" = true := by first | (simp [plainName, overriddenIn]; done) | decide +kernel
theorem ef_2 (m : MethodId) (x0 : Addr) : entryFrame m #[(.ref x0)] 1 = mkF m 0 #[.val (.ref x0)] [] := by first | (simp [entryFrame, mkF, argsToLocals, Value.category]; done) | rfl
def Q2 (Z : State) (r0 : Addr) (h0 : Heap) (n0 : Nat) (v : Option Value) (h : Heap) (L : List Loc) : Prop := v = none ∧ Fr n0 L ∧ h = h0
set_option maxRecDepth 65536 in
set_option maxHeartbeats 40000000 in
theorem rm2 (l : Launch) (Z : State) (a0 : Array Value) (hw : ∀ d ∈ tables_1, d.before a0 Z = true) (ws : List Jvm.Cond) (r0 : Addr) (h0 : Heap) (n0 : Nat) (Z0 : n0 ≤ h0.size) :
    MetFree l (⟨"java/lang/Record", "<init>", "()V"⟩ : MethodName) (head1 (Jvm.Cond.code (⟨"java/lang/Record", "<init>", "()V"⟩ : MethodName) jdk_30_method_1_code 1 none :: ws) ({ frames := 1, cells := 0, slots := 0, locals := 12 } : Room)) (fun a U => a = #[(.ref r0)] ∧ Z.Warmed39 U.vm ∧ U.heap = h0) (fun _ _ _ _ _ => True) (fun _ U o U' => ∃ v L, o = .returned v ∧ Q2 Z r0 h0 n0 v U'.heap L ∧ FrameEnd U o U' L ({ frames := 1, cells := 0, slots := 0, locals := 12 } : Room).cells ({ frames := 1, cells := 0, slots := 0, locals := 12 } : Room).slots) := by
  refine MetFree.of_bodySF (plainFor_of_name pn_java_lang_Record) hisR ?_
  intro p e s m args below meth c s₁ Bd hml0 hP hK
  obtain ⟨rfl, hZ, hh⟩ := hP
  have hx := Bd.exec
  have hby := Bd.bytes
  have hlk := Bd.notSynchronized
  have hrt := Bd.returns
  have hml : c.maxLocals = 1 := hml0
  have hown : s.vm.findClass "java/lang/Record" = some m.cls := findClass_of_methodNamed Bd.named
  have hnm := (name_of_methodNamed Bd.named Bd.method).1
  have X0 : Stand p l e ({ frames := 1, cells := 0, slots := 0, locals := 12 } : Room) s m #[(.ref r0)] below meth c s₁ [] 0 0 := Stand.of_body Bd
  have e0 : s₁.heap = h0 := by rw [← hh, Bd.state]; rfl
  have N0 := Fr.nil n0
  have K0 := Keep.refl h0 []
  refine own_out (Q := Q2 Z r0 h0 n0) ?_
  refine own_in (ef_2 m r0) ?_
  show own_Go _ _ _ _ s₁ (mkF m 0 #[.val (.ref r0)] [])
  refine own_st (fun t k => XS.aloadN X0.here hx rfl (hb hby d2_0) rfl rfl k) ?_
  show own_Go _ _ _ _ s₁ (mkF m 1 #[.val (.ref r0)] [(.ref r0)])
  obtain ⟨T1, X1, e1, st1⟩ := initO X0 hx hZ hown (hw _ (List.mem_of_getElem? (i := 16) rfl)) (hw _ (List.mem_of_getElem? (i := 17) rfl)) (hw _ (List.mem_of_getElem? (i := 18) rfl)) e0 (g := (mkF m 1 #[.val (.ref r0)] [(.ref r0)])) rfl (by rw [hml]; rfl) rfl (hb hby d2_1) (by decide) (W := 0) (by show 2 * 0 + _ ≤ _; exact Nat.le_of_eq rfl) (by decide)
  refine own_st st1 ?_
  show own_Go _ _ _ _ T1 (mkF m 4 #[.val (.ref r0)] [])
  exact own_retV X1 hx hlk hrt (hb hby d2_4) ⟨rfl, N0, e1⟩ (by decide) (by decide)
/-! body 4: Objects.requireNonNull -/
theorem d4_0 : decode jdk_31_method_11_code 0 = .ok (.aload_n 0, 1) := by decide +kernel
theorem d4_1 : decode jdk_31_method_11_code 1 = .ok (.ifnonnull 12, 3) := by decide +kernel
theorem d4_13 : decode jdk_31_method_11_code 13 = .ok (.aload_n 0, 1) := by decide +kernel
theorem d4_14 : decode jdk_31_method_11_code 14 = .ok (.areturn, 1) := by decide +kernel
theorem pn_java_util_Objects : plainName "java/util/Objects" = true := by first | (simp [plainName, overriddenIn]; done) | decide +kernel
theorem ef_4 (m : MethodId) (x0 : Addr) (x1 : Addr) : entryFrame m #[(.ref x0), (.ref x1)] 2 = mkF m 0 #[.val (.ref x0), .val (.ref x1)] [] := by first | (simp [entryFrame, mkF, argsToLocals, Value.category]; done) | rfl
def Q4 (Z : State) (r0 : Addr) (r1 : Addr) (h0 : Heap) (n0 : Nat) (v : Option Value) (h : Heap) (L : List Loc) : Prop := v = some (.ref r0) ∧ Fr n0 L ∧ h = h0
set_option maxRecDepth 65536 in
set_option maxHeartbeats 40000000 in
theorem rm4 (l : Launch) (Z : State) (a0 : Array Value) (hw : ∀ d ∈ tables_1, d.before a0 Z = true) (ws : List Jvm.Cond) (r0 : Addr) (r1 : Addr) (h0 : Heap) (n0 : Nat) (Z0 : n0 ≤ h0.size) :
    MetFree l (⟨"java/util/Objects", "requireNonNull", "(Ljava/lang/Object;Ljava/lang/String;)Ljava/lang/Object;"⟩ : MethodName) (head1 (Jvm.Cond.code (⟨"java/util/Objects", "requireNonNull", "(Ljava/lang/Object;Ljava/lang/String;)Ljava/lang/Object;"⟩ : MethodName) jdk_31_method_11_code 2 (some (.object "java/lang/Object")) :: ws) ({ frames := 0, cells := 0, slots := 0, locals := 0 } : Room)) (fun a U => a = #[(.ref r0), (.ref r1)] ∧ Z.Warmed39 U.vm ∧ U.heap = h0) (fun _ _ _ _ _ => True) (fun _ U o U' => ∃ v L, o = .returned v ∧ Q4 Z r0 r1 h0 n0 v U'.heap L ∧ FrameEnd U o U' L ({ frames := 0, cells := 0, slots := 0, locals := 0 } : Room).cells ({ frames := 0, cells := 0, slots := 0, locals := 0 } : Room).slots) := by
  refine MetFree.of_bodySF (plainFor_of_name pn_java_util_Objects) hisR ?_
  intro p e s m args below meth c s₁ Bd hml0 hP hK
  obtain ⟨rfl, hZ, hh⟩ := hP
  have hx := Bd.exec
  have hby := Bd.bytes
  have hlk := Bd.notSynchronized
  have hrt := Bd.returns
  have hml : c.maxLocals = 2 := hml0
  have hown : s.vm.findClass "java/util/Objects" = some m.cls := findClass_of_methodNamed Bd.named
  have hnm := (name_of_methodNamed Bd.named Bd.method).1
  have X0 : Stand p l e ({ frames := 0, cells := 0, slots := 0, locals := 0 } : Room) s m #[(.ref r0), (.ref r1)] below meth c s₁ [] 0 0 := Stand.of_body Bd
  have e0 : s₁.heap = h0 := by rw [← hh, Bd.state]; rfl
  have N0 := Fr.nil n0
  have K0 := Keep.refl h0 []
  refine own_out (Q := Q4 Z r0 r1 h0 n0) ?_
  refine own_in (ef_4 m r0 r1) ?_
  show own_Go _ _ _ _ s₁ (mkF m 0 #[.val (.ref r0), .val (.ref r1)] [])
  refine own_st (fun t k => XS.aloadN X0.here hx rfl (hb hby d4_0) rfl rfl k) ?_
  show own_Go _ _ _ _ s₁ (mkF m 1 #[.val (.ref r0), .val (.ref r1)] [(.ref r0)])
  refine own_st (fun t k => XS.ifnonnullYes X0.here hx rfl (pc0 := 1) (pc' := 13) rfl (hb hby d4_1) rfl (by decide) (by decide) k) ?_
  show own_Go _ _ _ _ s₁ (mkF m 13 #[.val (.ref r0), .val (.ref r1)] [])
  refine own_st (fun t k => XS.aloadN X0.here hx rfl (hb hby d4_13) rfl rfl k) ?_
  show own_Go _ _ _ _ s₁ (mkF m 14 #[.val (.ref r0), .val (.ref r1)] [(.ref r0)])
  exact own_retR X0 hx hlk hrt rfl rfl rfl (hb hby d4_14) ⟨rfl, N0, e0⟩ (by decide) (by decide)
theorem pd__28_29V : parseMethodDescriptor "()V" = some ⟨[], none⟩ := by decide +kernel
theorem own_sA {a0 : Array Value} {Z : State} (hw : ∀ d ∈ tables_1, d.before a0 Z = true) : ∀ a ∈ Bundle.stringAtoms, a.before a0 Z = true := by
  intro a ha
  simp only [Bundle.stringAtoms, List.mem_cons, List.not_mem_nil, or_false] at ha
  rcases ha with rfl | rfl | rfl | rfl | rfl | rfl | rfl
  · exact (hw _ (List.mem_of_getElem? (i := 20) rfl))
  · exact (hw _ (List.mem_of_getElem? (i := 21) rfl))
  · exact (hw _ (List.mem_of_getElem? (i := 22) rfl))
  · exact (hw _ (List.mem_of_getElem? (i := 23) rfl))
  · exact (hw _ (List.mem_of_getElem? (i := 24) rfl))
  · exact (hw _ (List.mem_of_getElem? (i := 25) rfl))
  · exact (hw _ (List.mem_of_getElem? (i := 26) rfl))
theorem pd_176935 : parseMethodDescriptor "(Ljava/lang/Object;Ljava/lang/String;)Ljava/lang/Object;" = some ⟨[(.object "java/lang/Object"), (.object "java/lang/String")], some (.object "java/lang/Object")⟩ := by decide +kernel
/-! body 1: Retention.<init> -/
theorem d1_0 : decode prog_28_method_1_code 0 = .ok (.aload_n 0, 1) := by decide +kernel
theorem d1_1 : decode prog_28_method_1_code 1 = .ok (.invokespecial 1, 3) := by decide +kernel
theorem d1_4 : decode prog_28_method_1_code 4 = .ok (.aload 4, 2) := by decide +kernel
theorem d1_6 : decode prog_28_method_1_code 6 = .ok (.ldc 7, 2) := by decide +kernel
theorem d1_8 : decode prog_28_method_1_code 8 = .ok (.invokestatic 9, 3) := by decide +kernel
theorem d1_11 : decode prog_28_method_1_code 11 = .ok (.pop, 1) := by decide +kernel
theorem d1_12 : decode prog_28_method_1_code 12 = .ok (.iload_n 1, 1) := by decide +kernel
theorem d1_13 : decode prog_28_method_1_code 13 = .ok (.ifCond .ge 17, 3) := by decide +kernel
theorem d1_30 : decode prog_28_method_1_code 30 = .ok (.lload_n 2, 1) := by decide +kernel
theorem d1_31 : decode prog_28_method_1_code 31 = .ok (.lconst 0, 1) := by decide +kernel
theorem d1_32 : decode prog_28_method_1_code 32 = .ok (.lcmp, 1) := by decide +kernel
theorem d1_33 : decode prog_28_method_1_code 33 = .ok (.ifCond .ge 17, 3) := by decide +kernel
theorem d1_50 : decode prog_28_method_1_code 50 = .ok (.aload 4, 2) := by decide +kernel
theorem d1_52 : decode prog_28_method_1_code 52 = .ok (.getstatic 27, 3) := by decide +kernel
theorem d1_55 : decode prog_28_method_1_code 55 = .ok (.if_acmp .ne 23, 3) := by decide +kernel
theorem d1_58 : decode prog_28_method_1_code 58 = .ok (.iload_n 1, 1) := by decide +kernel
theorem d1_59 : decode prog_28_method_1_code 59 = .ok (.ifCond .eq 9, 3) := by decide +kernel
theorem d1_62 : decode prog_28_method_1_code 62 = .ok (.lload_n 2, 1) := by decide +kernel
theorem d1_63 : decode prog_28_method_1_code 63 = .ok (.lconst 0, 1) := by decide +kernel
theorem d1_64 : decode prog_28_method_1_code 64 = .ok (.lcmp, 1) := by decide +kernel
theorem d1_65 : decode prog_28_method_1_code 65 = .ok (.ifCond .ne 13, 3) := by decide +kernel
theorem d1_78 : decode prog_28_method_1_code 78 = .ok (.lload 5, 2) := by decide +kernel
theorem d1_80 : decode prog_28_method_1_code 80 = .ok (.lconst 0, 1) := by decide +kernel
theorem d1_81 : decode prog_28_method_1_code 81 = .ok (.lcmp, 1) := by decide +kernel
theorem d1_82 : decode prog_28_method_1_code 82 = .ok (.ifCond .ge 18, 3) := by decide +kernel
theorem d1_100 : decode prog_28_method_1_code 100 = .ok (.iload 7, 2) := by decide +kernel
theorem d1_102 : decode prog_28_method_1_code 102 = .ok (.ifCond .eq 26, 3) := by decide +kernel
theorem d1_105 : decode prog_28_method_1_code 105 = .ok (.lload_n 2, 1) := by decide +kernel
theorem d1_106 : decode prog_28_method_1_code 106 = .ok (.lconst 0, 1) := by decide +kernel
theorem d1_107 : decode prog_28_method_1_code 107 = .ok (.lcmp, 1) := by decide +kernel
theorem d1_108 : decode prog_28_method_1_code 108 = .ok (.ifCond .gt 10, 3) := by decide +kernel
theorem d1_111 : decode prog_28_method_1_code 111 = .ok (.lload 5, 2) := by decide +kernel
theorem d1_113 : decode prog_28_method_1_code 113 = .ok (.lconst 0, 1) := by decide +kernel
theorem d1_114 : decode prog_28_method_1_code 114 = .ok (.lcmp, 1) := by decide +kernel
theorem d1_115 : decode prog_28_method_1_code 115 = .ok (.ifCond .le 13, 3) := by decide +kernel
theorem d1_128 : decode prog_28_method_1_code 128 = .ok (.aload_n 0, 1) := by decide +kernel
theorem d1_129 : decode prog_28_method_1_code 129 = .ok (.iload_n 1, 1) := by decide +kernel
theorem d1_130 : decode prog_28_method_1_code 130 = .ok (.putfield 38, 3) := by decide +kernel
theorem d1_133 : decode prog_28_method_1_code 133 = .ok (.aload_n 0, 1) := by decide +kernel
theorem d1_134 : decode prog_28_method_1_code 134 = .ok (.lload_n 2, 1) := by decide +kernel
theorem d1_135 : decode prog_28_method_1_code 135 = .ok (.putfield 44, 3) := by decide +kernel
theorem d1_138 : decode prog_28_method_1_code 138 = .ok (.aload_n 0, 1) := by decide +kernel
theorem d1_139 : decode prog_28_method_1_code 139 = .ok (.aload 4, 2) := by decide +kernel
theorem d1_141 : decode prog_28_method_1_code 141 = .ok (.putfield 48, 3) := by decide +kernel
theorem d1_144 : decode prog_28_method_1_code 144 = .ok (.aload_n 0, 1) := by decide +kernel
theorem d1_145 : decode prog_28_method_1_code 145 = .ok (.lload 5, 2) := by decide +kernel
theorem d1_147 : decode prog_28_method_1_code 147 = .ok (.putfield 50, 3) := by decide +kernel
theorem d1_150 : decode prog_28_method_1_code 150 = .ok (.aload_n 0, 1) := by decide +kernel
theorem d1_151 : decode prog_28_method_1_code 151 = .ok (.iload 7, 2) := by decide +kernel
theorem d1_153 : decode prog_28_method_1_code 153 = .ok (.putfield 53, 3) := by decide +kernel
theorem d1_156 : decode prog_28_method_1_code 156 = .ok (.return_, 1) := by decide +kernel
theorem pn_com_example_decel_decel_retention_Retention : plainName "com/example/decel/decel/retention/Retention" = true := by first | (simp [plainName, overriddenIn]; done) | decide +kernel
theorem ef_1 (m : MethodId) (x0 : Addr) (x1 : Int32) (x2 : Int64) (x3 : Addr) (x4 : Int64) (x5 : Int32) : entryFrame m #[(.ref x0), (.int x1), (.long x2), (.ref x3), (.long x4), (.int x5)] 8 = mkF m 0 #[.val (.ref x0), .val (.int x1), .val (.long x2), .second, .val (.ref x3), .val (.long x4), .second, .val (.int x5)] [] := by first | (simp [entryFrame, mkF, argsToLocals, Value.category]; done) | rfl
def Q1 (Z : State) (r0 : Addr) (ve : Int32) (ag : Int64) (cb : Addr) (wi : Int64) (se : Int32) (al : Addr) (h0 : Heap) (n0 : Nat) (v : Option Value) (h : Heap) (L : List Loc) : Prop := v = none ∧ Fr n0 L ∧ Keep h0 h [r0] ∧ Fld Z h r0 "com/example/decel/decel/retention/Retention" "maxVersions" "I" (.int ve) ∧ Fld Z h r0 "com/example/decel/decel/retention/Retention" "maxAgeMillis" "J" (.long ag) ∧ Fld Z h r0 "com/example/decel/decel/retention/Retention" "combine" "Lcom/example/decel/decel/retention/Retention$Combine;" (.ref cb) ∧ Fld Z h r0 "com/example/decel/decel/retention/Retention" "windowMillis" "J" (.long wi) ∧ Fld Z h r0 "com/example/decel/decel/retention/Retention" "sequence" "Z" (.int (nar .boolean se))
set_option maxRecDepth 65536 in
set_option maxHeartbeats 40000000 in
theorem rm1 (l : Launch) (Z : State) (a0 : Array Value) (hw : ∀ d ∈ tables_1, d.before a0 Z = true) (ws : List Jvm.Cond) (r0 : Addr) (ve : Int32) (ag : Int64) (cb : Addr) (wi : Int64) (se : Int32) (al : Addr) (h0 : Heap) (n0 : Nat) (Z0 : n0 ≤ h0.size) (E_r0 : Exa Z h0 r0 "com/example/decel/decel/retention/Retention") (F_maxVersions_r0 : Fld Z h0 r0 "com/example/decel/decel/retention/Retention" "maxVersions" "I" (.int (0 : Int32))) (F_maxAgeMillis_r0 : Fld Z h0 r0 "com/example/decel/decel/retention/Retention" "maxAgeMillis" "J" (.long (0 : Int64))) (F_combine_r0 : Fld Z h0 r0 "com/example/decel/decel/retention/Retention" "combine" "Lcom/example/decel/decel/retention/Retention$Combine;" .null) (F_windowMillis_r0 : Fld Z h0 r0 "com/example/decel/decel/retention/Retention" "windowMillis" "J" (.long (0 : Int64))) (F_sequence_r0 : Fld Z h0 r0 "com/example/decel/decel/retention/Retention" "sequence" "Z" (.int (0 : Int32))) (g_r0 : n0 ≤ r0) (S_ALL : Sta Z h0 "com/example/decel/decel/retention/Retention$Combine" "ALL" "Lcom/example/decel/decel/retention/Retention$Combine;" (.ref al)) (hve : ¬ (ve < (0 : Int32))) (hag : ¬ (ag < (0 : Int64))) (hcb : cb = al → (¬ (ve = (0 : Int32)) ∧ ¬ (ag = (0 : Int64)))) (hwi : ¬ (wi < (0 : Int64))) (hse : se = (0 : Int32) ∨ (¬ ((0 : Int64) < ag) ∧ ¬ ((0 : Int64) < wi))) :
    MetFree l (⟨"com/example/decel/decel/retention/Retention", "<init>", "(IJLcom/example/decel/decel/retention/Retention$Combine;JZ)V"⟩ : MethodName) (head1 (Jvm.Cond.code (⟨"com/example/decel/decel/retention/Retention", "<init>", "(IJLcom/example/decel/decel/retention/Retention$Combine;JZ)V"⟩ : MethodName) prog_28_method_1_code 8 none :: ws) ({ frames := 2, cells := 2, slots := 32, locals := 24 } : Room)) (fun a U => a = #[(.ref r0), (.int ve), (.long ag), (.ref cb), (.long wi), (.int se)] ∧ Z.Warmed39 U.vm ∧ U.heap = h0) (fun _ _ _ _ _ => True) (fun _ U o U' => ∃ v L, o = .returned v ∧ Q1 Z r0 ve ag cb wi se al h0 n0 v U'.heap L ∧ ReturnedEndW U o U' L ({ frames := 2, cells := 2, slots := 32, locals := 24 } : Room).cells ({ frames := 2, cells := 2, slots := 32, locals := 24 } : Room).slots) := by
  refine MetFree.of_bodySF (plainFor_of_name pn_com_example_decel_decel_retention_Retention) hisR ?_
  intro p e s m args below meth c s₁ Bd hml0 hP hK
  obtain ⟨rfl, hZ, hh⟩ := hP
  have hx := Bd.exec
  have hby := Bd.bytes
  have hlk := Bd.notSynchronized
  have hrt := Bd.returns
  have hml : c.maxLocals = 8 := hml0
  have hown : s.vm.findClass "com/example/decel/decel/retention/Retention" = some m.cls := findClass_of_methodNamed Bd.named
  have hnm := (name_of_methodNamed Bd.named Bd.method).1
  have X0 : Stand p l e ({ frames := 2, cells := 2, slots := 32, locals := 24 } : Room) (s.setVm s.vm) m #[(.ref r0), (.int ve), (.long ag), (.ref cb), (.long wi), (.int se)] below meth c s₁ [] 0 0 := Stand.of_body Bd
  have e0 : s₁.heap = h0 := by rw [← hh, Bd.state]; rfl
  have N0 := Fr.nil n0
  have K0 := Keep.refl h0 [r0]
  have hS0 : s.Since s.vm 0 := (State.WarmedH.refl s).since 0
  have hk0 : 0 ≤ h0.size := Nat.zero_le _
  refine own_outW (Q := Q1 Z r0 ve ag cb wi se al h0 n0) ?_
  refine own_in (ef_1 m r0 ve ag cb wi se) ?_
  show own_Go _ _ _ _ s₁ (mkF m 0 #[.val (.ref r0), .val (.int ve), .val (.long ag), .second, .val (.ref cb), .val (.long wi), .second, .val (.int se)] [])
  refine own_st (fun t k => XS.aloadN X0.here hx rfl (hb hby d1_0) rfl rfl k) ?_
  show own_Go _ _ _ _ s₁ (mkF m 1 #[.val (.ref r0), .val (.int ve), .val (.long ag), .second, .val (.ref cb), .val (.long wi), .second, .val (.int se)] [(.ref r0)])
  obtain ⟨_, _, ⟨T1, L1, k1, n1⟩, -, X1, ⟨Lc1, hQ1, l1, y1, z1⟩, st1⟩ := X0.specialBack hx (y := (⟨"java/lang/Record", "<init>", "()V"⟩ : MethodName)) rfl hown (mvT hZ (hw _ (List.mem_of_getElem? (i := 11) rfl))) (mvT hZ (hw _ (List.mem_of_getElem? (i := 12) rfl))) (mvT hZ (hw _ (List.mem_of_getElem? (i := 15) rfl))) (by decide) (backOf (W := 0) (rm2 l Z a0 hw [] r0  h0 n0 Z0 ) hZ (hw _ (List.mem_of_getElem? (i := 15) rfl)) (hw _ (List.mem_of_getElem? (i := 14) rfl)) (by decide) (by decide)) (g := (mkF m 1 #[.val (.ref r0), .val (.int ve), .val (.long ag), .second, .val (.ref cb), .val (.long wi), .second, .val (.int se)] [(.ref r0)])) rfl (by rw [hml]; rfl) (Steps.refl _) (a := r0) (argsL := []) (rest := []) (lenOf pd__28_29V rfl) rfl (by show 2 * 0 + _ ≤ _; exact Nat.le_of_eq rfl) (hb hby d1_1) (fun _ _ => ⟨rfl, e0, (by decide : 0 + 0 ≤ _), (by decide : 0 + 0 ≤ _)⟩)
  dsimp only [Pt.U, Pt.locs, Pt.cells, Pt.slots] at X1 l1 y1 z1 st1 hQ1
  subst l1 y1 z1
  obtain ⟨rfl, N1q, e1⟩ := hQ1
  have N1 := Fr.app N0 N1q
  refine own_tr st1 ?_
  show own_Go _ _ _ _ T1 (mkF m 4 #[.val (.ref r0), .val (.int ve), .val (.long ag), .second, .val (.ref cb), .val (.long wi), .second, .val (.int se)] [])
  refine own_st (fun t k => XS.aload X1.here hx rfl (hb hby d1_4) rfl rfl k) ?_
  show own_Go _ _ _ _ T1 (mkF m 6 #[.val (.ref r0), .val (.int ve), .val (.long ag), .second, .val (.ref cb), .val (.long wi), .second, .val (.int se)] [(.ref cb)])
  obtain ⟨b2, T2, h2, k2, X2, e2, E2, hS2, hk2, hZ2, hown2, st2⟩ := ldcS X1 hx hZ hown (hw _ (List.mem_of_getElem? (i := 19) rfl)) (own_sA hw) e1 hS0 hk0 (g := (mkF m 6 #[.val (.ref r0), .val (.int ve), .val (.long ag), .second, .val (.ref cb), .val (.long wi), .second, .val (.int se)] [(.ref cb)])) rfl (hb hby d1_6) (n := 28) (by decide) (by decide) (by decide) (by decide)
  refine own_st st2 ?_
  show own_Go _ _ _ _ T2 (mkF m 8 #[.val (.ref r0), .val (.int ve), .val (.long ag), .second, .val (.ref cb), .val (.long wi), .second, .val (.int se)] [(.ref b2), (.ref cb)])
  have K0_4 := (K0.ext E2)
  obtain ⟨_, _, ⟨T3, L3, k3, n3⟩, -, X3, ⟨Lc3, hQ3, l3, y3, z3⟩, st3⟩ := Jvm.LawKit.callS X2 hx (y := (⟨"java/util/Objects", "requireNonNull", "(Ljava/lang/Object;Ljava/lang/String;)Ljava/lang/Object;"⟩ : MethodName)) hown2 (mvT hZ2 (hw _ (List.mem_of_getElem? (i := 27) rfl))) (mvT hZ2 (hw _ (List.mem_of_getElem? (i := 28) rfl))) (mvT hZ2 (hw _ (List.mem_of_getElem? (i := 29) rfl))) (mvT hZ2 (hw _ (List.mem_of_getElem? (i := 30) rfl))) (by decide) (backOf (W := 0) (rm4 l Z a0 hw [] cb b2  h2 n0 (Nat.le_trans Z0 K0_4.1) ) hZ2 (hw _ (List.mem_of_getElem? (i := 30) rfl)) (hw _ (List.mem_of_getElem? (i := 29) rfl)) (by decide) (by decide)) (g := (mkF m 8 #[.val (.ref r0), .val (.int ve), .val (.long ag), .second, .val (.ref cb), .val (.long wi), .second, .val (.int se)] [(.ref b2), (.ref cb)])) rfl (by rw [hml]; rfl) (argsL := [(.ref cb), (.ref b2)]) (rest := []) (lenOf pd_176935 rfl) rfl (by show 2 * 0 + _ ≤ _; exact Nat.le_of_eq rfl) (hb hby d1_8) (fun _ _ => ⟨rfl, e2, (by decide : 2 + 0 ≤ _), (by decide : 32 + 0 ≤ _)⟩)
  dsimp only [Pt.U, Pt.locs, Pt.cells, Pt.slots] at X3 l3 y3 z3 st3 hQ3
  subst l3 y3 z3
  obtain ⟨rfl, N3q, e3⟩ := hQ3
  have N3 := Fr.app N1 N3q
  refine own_st st3 ?_
  show own_Go _ _ _ _ T3 (mkF m 11 #[.val (.ref r0), .val (.int ve), .val (.long ag), .second, .val (.ref cb), .val (.long wi), .second, .val (.int se)] [(.ref cb)])
  refine own_st (fun t k => XS.pop X3.here hx rfl (hb hby d1_11) rfl rfl k) ?_
  show own_Go _ _ _ _ T3 (mkF m 12 #[.val (.ref r0), .val (.int ve), .val (.long ag), .second, .val (.ref cb), .val (.long wi), .second, .val (.int se)] [])
  refine own_st (fun t k => XS.iloadN X3.here hx rfl (hb hby d1_12) rfl k) ?_
  show own_Go _ _ _ _ T3 (mkF m 13 #[.val (.ref r0), .val (.int ve), .val (.long ag), .second, .val (.ref cb), .val (.long wi), .second, .val (.int se)] [(.int ve)])
  refine own_st (fun t k => XS.ifYes X3.here hx rfl (pc0 := 13) (pc' := 30) rfl (hb hby d1_13) rfl ((if0 _ _).trans (flt hve).2.1) (by decide) (by decide) k) ?_
  show own_Go _ _ _ _ T3 (mkF m 30 #[.val (.ref r0), .val (.int ve), .val (.long ag), .second, .val (.ref cb), .val (.long wi), .second, .val (.int se)] [])
  refine own_st (fun t k => XS.lloadN X3.here hx rfl (hb hby d1_30) rfl k) ?_
  show own_Go _ _ _ _ T3 (mkF m 31 #[.val (.ref r0), .val (.int ve), .val (.long ag), .second, .val (.ref cb), .val (.long wi), .second, .val (.int se)] [(.long ag)])
  refine own_st (fun t k => XS.lconst X3.here hx rfl (hb hby d1_31) k) ?_
  show own_Go _ _ _ _ T3 (mkF m 32 #[.val (.ref r0), .val (.int ve), .val (.long ag), .second, .val (.ref cb), .val (.long wi), .second, .val (.int se)] [(.long (0 : Int64)), (.long ag)])
  refine own_st (fun t k => XS.lcmp X3.here hx rfl (hb hby d1_32) rfl k) ?_
  show own_Go _ _ _ _ T3 (mkF m 33 #[.val (.ref r0), .val (.int ve), .val (.long ag), .second, .val (.ref cb), .val (.long wi), .second, .val (.int se)] [(.int (lcmpW ag (0 : Int64)))])
  refine own_st (fun t k => XS.ifYes X3.here hx rfl (pc0 := 33) (pc' := 50) rfl (hb hby d1_33) rfl ((if0 _ _).trans (flt (fun q => hag ((lw_lt _ _).mp q))).2.1) (by decide) (by decide) k) ?_
  show own_Go _ _ _ _ T3 (mkF m 50 #[.val (.ref r0), .val (.int ve), .val (.long ag), .second, .val (.ref cb), .val (.long wi), .second, .val (.int se)] [])
  refine own_st (fun t k => XS.aload X3.here hx rfl (hb hby d1_50) rfl rfl k) ?_
  show own_Go _ _ _ _ T3 (mkF m 52 #[.val (.ref r0), .val (.int ve), .val (.long ag), .second, .val (.ref cb), .val (.long wi), .second, .val (.int se)] [(.ref cb)])
  have S_ALL_5 := (S_ALL.ext E2)
  obtain ⟨T6, X6, e6, st6⟩ := getS2 X3 hx hZ2 hown2 (host := "") (Or.inl (hw _ (List.mem_of_getElem? (i := 31) rfl))) Via.refl e3 S_ALL_5 (g := (mkF m 52 #[.val (.ref r0), .val (.int ve), .val (.long ag), .second, .val (.ref cb), .val (.long wi), .second, .val (.int se)] [(.ref cb)])) rfl (hb hby d1_52)
  refine own_st st6 ?_
  show own_Go _ _ _ _ T6 (mkF m 55 #[.val (.ref r0), .val (.int ve), .val (.long ag), .second, .val (.ref cb), .val (.long wi), .second, .val (.int se)] [(.ref al), (.ref cb)])
  by_cases c55_7 : cb = al
  ·
    refine own_st (fun t k => Jvm.RoadKit.acmp (g := (mkF m 55 #[.val (.ref r0), .val (.int ve), .val (.long ag), .second, .val (.ref cb), .val (.long wi), .second, .val (.int se)] [(.ref al), (.ref cb)])) X6 hx rfl rfl rfl (pc0 := 55) (pc' := 58) (same := true) rfl (hb hby d1_55) rfl (decide_eq_true (congrArg Value.ref c55_7)) (by decide) (by decide) k) ?_
    show own_Go _ _ _ _ T6 (mkF m 58 #[.val (.ref r0), .val (.int ve), .val (.long ag), .second, .val (.ref cb), .val (.long wi), .second, .val (.int se)] [])
    refine own_st (fun t k => XS.iloadN X6.here hx rfl (hb hby d1_58) rfl k) ?_
    show own_Go _ _ _ _ T6 (mkF m 59 #[.val (.ref r0), .val (.int ve), .val (.long ag), .second, .val (.ref cb), .val (.long wi), .second, .val (.int se)] [(.int ve)])
    refine own_st (fun t k => XS.ifNo X6.here hx rfl (hb hby d1_59) rfl ((if0 _ _).trans (feq ((hcb c55_7).1 : ¬ (ve = (0 : Int32)))).1) k) ?_
    show own_Go _ _ _ _ T6 (mkF m 62 #[.val (.ref r0), .val (.int ve), .val (.long ag), .second, .val (.ref cb), .val (.long wi), .second, .val (.int se)] [])
    refine own_st (fun t k => XS.lloadN X6.here hx rfl (hb hby d1_62) rfl k) ?_
    show own_Go _ _ _ _ T6 (mkF m 63 #[.val (.ref r0), .val (.int ve), .val (.long ag), .second, .val (.ref cb), .val (.long wi), .second, .val (.int se)] [(.long ag)])
    refine own_st (fun t k => XS.lconst X6.here hx rfl (hb hby d1_63) k) ?_
    show own_Go _ _ _ _ T6 (mkF m 64 #[.val (.ref r0), .val (.int ve), .val (.long ag), .second, .val (.ref cb), .val (.long wi), .second, .val (.int se)] [(.long (0 : Int64)), (.long ag)])
    refine own_st (fun t k => XS.lcmp X6.here hx rfl (hb hby d1_64) rfl k) ?_
    show own_Go _ _ _ _ T6 (mkF m 65 #[.val (.ref r0), .val (.int ve), .val (.long ag), .second, .val (.ref cb), .val (.long wi), .second, .val (.int se)] [(.int (lcmpW ag (0 : Int64)))])
    refine own_st (fun t k => XS.ifYes X6.here hx rfl (pc0 := 65) (pc' := 78) rfl (hb hby d1_65) rfl ((if0 _ _).trans (feq (fun q => ((hcb c55_7).2 : ¬ (ag = (0 : Int64))) ((lw_eq _ _).mp q))).2) (by decide) (by decide) k) ?_
    show own_Go _ _ _ _ T6 (mkF m 78 #[.val (.ref r0), .val (.int ve), .val (.long ag), .second, .val (.ref cb), .val (.long wi), .second, .val (.int se)] [])
    refine own_st (fun t k => XS.lload X6.here hx rfl (hb hby d1_78) rfl k) ?_
    show own_Go _ _ _ _ T6 (mkF m 80 #[.val (.ref r0), .val (.int ve), .val (.long ag), .second, .val (.ref cb), .val (.long wi), .second, .val (.int se)] [(.long wi)])
    refine own_st (fun t k => XS.lconst X6.here hx rfl (hb hby d1_80) k) ?_
    show own_Go _ _ _ _ T6 (mkF m 81 #[.val (.ref r0), .val (.int ve), .val (.long ag), .second, .val (.ref cb), .val (.long wi), .second, .val (.int se)] [(.long (0 : Int64)), (.long wi)])
    refine own_st (fun t k => XS.lcmp X6.here hx rfl (hb hby d1_81) rfl k) ?_
    show own_Go _ _ _ _ T6 (mkF m 82 #[.val (.ref r0), .val (.int ve), .val (.long ag), .second, .val (.ref cb), .val (.long wi), .second, .val (.int se)] [(.int (lcmpW wi (0 : Int64)))])
    refine own_st (fun t k => XS.ifYes X6.here hx rfl (pc0 := 82) (pc' := 100) rfl (hb hby d1_82) rfl ((if0 _ _).trans (flt (fun q => hwi ((lw_lt _ _).mp q))).2.1) (by decide) (by decide) k) ?_
    show own_Go _ _ _ _ T6 (mkF m 100 #[.val (.ref r0), .val (.int ve), .val (.long ag), .second, .val (.ref cb), .val (.long wi), .second, .val (.int se)] [])
    refine own_st (fun t k => XS.iload X6.here hx rfl (hb hby d1_100) rfl k) ?_
    show own_Go _ _ _ _ T6 (mkF m 102 #[.val (.ref r0), .val (.int ve), .val (.long ag), .second, .val (.ref cb), .val (.long wi), .second, .val (.int se)] [(.int se)])
    by_cases c102_8 : se = (0 : Int32)
    ·
      refine own_st (fun t k => XS.ifYes X6.here hx rfl (pc0 := 102) (pc' := 128) rfl (hb hby d1_102) rfl ((if0 _ _).trans (teq c102_8).1) (by decide) (by decide) k) ?_
      show own_Go _ _ _ _ T6 (mkF m 128 #[.val (.ref r0), .val (.int ve), .val (.long ag), .second, .val (.ref cb), .val (.long wi), .second, .val (.int se)] [])
      refine own_st (fun t k => XS.aloadN X6.here hx rfl (hb hby d1_128) rfl rfl k) ?_
      show own_Go _ _ _ _ T6 (mkF m 129 #[.val (.ref r0), .val (.int ve), .val (.long ag), .second, .val (.ref cb), .val (.long wi), .second, .val (.int se)] [(.ref r0)])
      refine own_st (fun t k => XS.iloadN X6.here hx rfl (hb hby d1_129) rfl k) ?_
      show own_Go _ _ _ _ T6 (mkF m 130 #[.val (.ref r0), .val (.int ve), .val (.long ag), .second, .val (.ref cb), .val (.long wi), .second, .val (.int se)] [(.int ve), (.ref r0)])
      have F_maxVersions_r0_9 := (F_maxVersions_r0.ext E2)
      have E_r0_10 := (E_r0.ext E2)
      obtain ⟨T11, h11, X11, e11, W11, st11⟩ := putF X6 hx hZ2 hown2 (host := "") (Or.inl (hw _ (List.mem_of_getElem? (i := 32) rfl))) Via.refl e6 F_maxVersions_r0_9 E_r0_10 (Or.inr ⟨(hw _ (List.mem_of_getElem? (i := 33) rfl)), rfl, hnm⟩) (hw _ (List.mem_of_getElem? (i := 6) rfl)) (ty := .int) (by decide) rfl rfl (g := (mkF m 130 #[.val (.ref r0), .val (.int ve), .val (.long ag), .second, .val (.ref cb), .val (.long wi), .second, .val (.int se)] [(.int ve), (.ref r0)])) rfl rfl (hb hby d1_130)
      have F11 := F_maxVersions_r0_9.same W11
      have N11 := Fr.snoc X11 N3 g_r0
      refine own_st st11 ?_
      show own_Go _ _ _ _ T11 (mkF m 133 #[.val (.ref r0), .val (.int ve), .val (.long ag), .second, .val (.ref cb), .val (.long wi), .second, .val (.int se)] [])
      refine own_st (fun t k => XS.aloadN X11.here hx rfl (hb hby d1_133) rfl rfl k) ?_
      show own_Go _ _ _ _ T11 (mkF m 134 #[.val (.ref r0), .val (.int ve), .val (.long ag), .second, .val (.ref cb), .val (.long wi), .second, .val (.int se)] [(.ref r0)])
      refine own_st (fun t k => XS.lloadN X11.here hx rfl (hb hby d1_134) rfl k) ?_
      show own_Go _ _ _ _ T11 (mkF m 135 #[.val (.ref r0), .val (.int ve), .val (.long ag), .second, .val (.ref cb), .val (.long wi), .second, .val (.int se)] [(.long ag), (.ref r0)])
      have F_maxAgeMillis_r0_12 := ((F_maxAgeMillis_r0.ext E2).other W11 (Or.inr (slot_ne (Or.inr (hw _ (List.mem_of_getElem? (i := 35) rfl))) (Or.inr (hw _ (List.mem_of_getElem? (i := 33) rfl))) (by decide) (t := .long) (t' := .int) (by decide) (by decide))))
      have E_r0_13 := (E_r0_10.wr W11)
      have K0_14 := (K0_4.wr W11 (Or.inl (List.mem_of_getElem? (i := 0) rfl)))
      obtain ⟨T15, h15, X15, e15, W15, st15⟩ := putF X11 hx hZ2 hown2 (host := "") (Or.inl (hw _ (List.mem_of_getElem? (i := 34) rfl))) Via.refl e11 F_maxAgeMillis_r0_12 E_r0_13 (Or.inr ⟨(hw _ (List.mem_of_getElem? (i := 35) rfl)), rfl, hnm⟩) (hw _ (List.mem_of_getElem? (i := 6) rfl)) (ty := .long) (by decide) rfl rfl (g := (mkF m 135 #[.val (.ref r0), .val (.int ve), .val (.long ag), .second, .val (.ref cb), .val (.long wi), .second, .val (.int se)] [(.long ag), (.ref r0)])) rfl rfl (hb hby d1_135)
      have F15 := F_maxAgeMillis_r0_12.same W15
      have N15 := Fr.snoc X15 N11 g_r0
      refine own_st st15 ?_
      show own_Go _ _ _ _ T15 (mkF m 138 #[.val (.ref r0), .val (.int ve), .val (.long ag), .second, .val (.ref cb), .val (.long wi), .second, .val (.int se)] [])
      refine own_st (fun t k => XS.aloadN X15.here hx rfl (hb hby d1_138) rfl rfl k) ?_
      show own_Go _ _ _ _ T15 (mkF m 139 #[.val (.ref r0), .val (.int ve), .val (.long ag), .second, .val (.ref cb), .val (.long wi), .second, .val (.int se)] [(.ref r0)])
      refine own_st (fun t k => XS.aload X15.here hx rfl (hb hby d1_139) rfl rfl k) ?_
      show own_Go _ _ _ _ T15 (mkF m 141 #[.val (.ref r0), .val (.int ve), .val (.long ag), .second, .val (.ref cb), .val (.long wi), .second, .val (.int se)] [(.ref cb), (.ref r0)])
      have F_combine_r0_16 := (((F_combine_r0.ext E2).other W11 (Or.inr (slot_ne (Or.inr (hw _ (List.mem_of_getElem? (i := 37) rfl))) (Or.inr (hw _ (List.mem_of_getElem? (i := 33) rfl))) (by decide) (t := (.object "com/example/decel/decel/retention/Retention$Combine")) (t' := .int) (by decide) (by decide)))).other W15 (Or.inr (slot_ne (Or.inr (hw _ (List.mem_of_getElem? (i := 37) rfl))) (Or.inr (hw _ (List.mem_of_getElem? (i := 35) rfl))) (by decide) (t := (.object "com/example/decel/decel/retention/Retention$Combine")) (t' := .long) (by decide) (by decide))))
      have E_r0_17 := (E_r0_13.wr W15)
      have K0_18 := (K0_14.wr W15 (Or.inl (List.mem_of_getElem? (i := 0) rfl)))
      obtain ⟨T19, h19, X19, e19, W19, st19⟩ := putF X15 hx hZ2 hown2 (host := "") (Or.inl (hw _ (List.mem_of_getElem? (i := 36) rfl))) Via.refl e15 F_combine_r0_16 E_r0_17 (Or.inr ⟨(hw _ (List.mem_of_getElem? (i := 37) rfl)), rfl, hnm⟩) (hw _ (List.mem_of_getElem? (i := 6) rfl)) (ty := (.object "com/example/decel/decel/retention/Retention$Combine")) (by decide) rfl rfl (g := (mkF m 141 #[.val (.ref r0), .val (.int ve), .val (.long ag), .second, .val (.ref cb), .val (.long wi), .second, .val (.int se)] [(.ref cb), (.ref r0)])) rfl rfl (hb hby d1_141)
      have F19 := F_combine_r0_16.same W19
      have N19 := Fr.snoc X19 N15 g_r0
      refine own_st st19 ?_
      show own_Go _ _ _ _ T19 (mkF m 144 #[.val (.ref r0), .val (.int ve), .val (.long ag), .second, .val (.ref cb), .val (.long wi), .second, .val (.int se)] [])
      refine own_st (fun t k => XS.aloadN X19.here hx rfl (hb hby d1_144) rfl rfl k) ?_
      show own_Go _ _ _ _ T19 (mkF m 145 #[.val (.ref r0), .val (.int ve), .val (.long ag), .second, .val (.ref cb), .val (.long wi), .second, .val (.int se)] [(.ref r0)])
      refine own_st (fun t k => XS.lload X19.here hx rfl (hb hby d1_145) rfl k) ?_
      show own_Go _ _ _ _ T19 (mkF m 147 #[.val (.ref r0), .val (.int ve), .val (.long ag), .second, .val (.ref cb), .val (.long wi), .second, .val (.int se)] [(.long wi), (.ref r0)])
      have F_windowMillis_r0_20 := ((((F_windowMillis_r0.ext E2).other W11 (Or.inr (slot_ne (Or.inr (hw _ (List.mem_of_getElem? (i := 39) rfl))) (Or.inr (hw _ (List.mem_of_getElem? (i := 33) rfl))) (by decide) (t := .long) (t' := .int) (by decide) (by decide)))).other W15 (Or.inr (slot_ne (Or.inr (hw _ (List.mem_of_getElem? (i := 39) rfl))) (Or.inr (hw _ (List.mem_of_getElem? (i := 35) rfl))) (by decide) (t := .long) (t' := .long) (by decide) (by decide)))).other W19 (Or.inr (slot_ne (Or.inr (hw _ (List.mem_of_getElem? (i := 39) rfl))) (Or.inr (hw _ (List.mem_of_getElem? (i := 37) rfl))) (by decide) (t := .long) (t' := (.object "com/example/decel/decel/retention/Retention$Combine")) (by decide) (by decide))))
      have E_r0_21 := (E_r0_17.wr W19)
      have K0_22 := (K0_18.wr W19 (Or.inl (List.mem_of_getElem? (i := 0) rfl)))
      obtain ⟨T23, h23, X23, e23, W23, st23⟩ := putF X19 hx hZ2 hown2 (host := "") (Or.inl (hw _ (List.mem_of_getElem? (i := 38) rfl))) Via.refl e19 F_windowMillis_r0_20 E_r0_21 (Or.inr ⟨(hw _ (List.mem_of_getElem? (i := 39) rfl)), rfl, hnm⟩) (hw _ (List.mem_of_getElem? (i := 6) rfl)) (ty := .long) (by decide) rfl rfl (g := (mkF m 147 #[.val (.ref r0), .val (.int ve), .val (.long ag), .second, .val (.ref cb), .val (.long wi), .second, .val (.int se)] [(.long wi), (.ref r0)])) rfl rfl (hb hby d1_147)
      have F23 := F_windowMillis_r0_20.same W23
      have N23 := Fr.snoc X23 N19 g_r0
      refine own_st st23 ?_
      show own_Go _ _ _ _ T23 (mkF m 150 #[.val (.ref r0), .val (.int ve), .val (.long ag), .second, .val (.ref cb), .val (.long wi), .second, .val (.int se)] [])
      refine own_st (fun t k => XS.aloadN X23.here hx rfl (hb hby d1_150) rfl rfl k) ?_
      show own_Go _ _ _ _ T23 (mkF m 151 #[.val (.ref r0), .val (.int ve), .val (.long ag), .second, .val (.ref cb), .val (.long wi), .second, .val (.int se)] [(.ref r0)])
      refine own_st (fun t k => XS.iload X23.here hx rfl (hb hby d1_151) rfl k) ?_
      show own_Go _ _ _ _ T23 (mkF m 153 #[.val (.ref r0), .val (.int ve), .val (.long ag), .second, .val (.ref cb), .val (.long wi), .second, .val (.int se)] [(.int se), (.ref r0)])
      have F_sequence_r0_24 := (((((F_sequence_r0.ext E2).other W11 (Or.inr (slot_ne (Or.inr (hw _ (List.mem_of_getElem? (i := 41) rfl))) (Or.inr (hw _ (List.mem_of_getElem? (i := 33) rfl))) (by decide) (t := .boolean) (t' := .int) (by decide) (by decide)))).other W15 (Or.inr (slot_ne (Or.inr (hw _ (List.mem_of_getElem? (i := 41) rfl))) (Or.inr (hw _ (List.mem_of_getElem? (i := 35) rfl))) (by decide) (t := .boolean) (t' := .long) (by decide) (by decide)))).other W19 (Or.inr (slot_ne (Or.inr (hw _ (List.mem_of_getElem? (i := 41) rfl))) (Or.inr (hw _ (List.mem_of_getElem? (i := 37) rfl))) (by decide) (t := .boolean) (t' := (.object "com/example/decel/decel/retention/Retention$Combine")) (by decide) (by decide)))).other W23 (Or.inr (slot_ne (Or.inr (hw _ (List.mem_of_getElem? (i := 41) rfl))) (Or.inr (hw _ (List.mem_of_getElem? (i := 39) rfl))) (by decide) (t := .boolean) (t' := .long) (by decide) (by decide))))
      have E_r0_25 := (E_r0_21.wr W23)
      have K0_26 := (K0_22.wr W23 (Or.inl (List.mem_of_getElem? (i := 0) rfl)))
      obtain ⟨T27, h27, X27, e27, W27, st27⟩ := putFN X23 hx hZ2 hown2 (hw _ (List.mem_of_getElem? (i := 40) rfl)) Via.refl e23 F_sequence_r0_24 E_r0_25 (Or.inr ⟨(hw _ (List.mem_of_getElem? (i := 41) rfl)), rfl, hnm⟩) (hw _ (List.mem_of_getElem? (i := 6) rfl)) (ty := .boolean) (v' := (.int (nar .boolean se))) (by decide) rfl (fits_nar_bool _) (g := (mkF m 153 #[.val (.ref r0), .val (.int ve), .val (.long ag), .second, .val (.ref cb), .val (.long wi), .second, .val (.int se)] [(.int se), (.ref r0)])) rfl rfl (hb hby d1_153)
      have F27 := F_sequence_r0_24.same W27
      have N27 := Fr.snoc X27 N23 g_r0
      refine own_st st27 ?_
      show own_Go _ _ _ _ T27 (mkF m 156 #[.val (.ref r0), .val (.int ve), .val (.long ag), .second, .val (.ref cb), .val (.long wi), .second, .val (.int se)] [])
      have K0_28 := (K0_26.wr W27 (Or.inl (List.mem_of_getElem? (i := 0) rfl)))
      have F11_maxVersions_29 := ((((F11.other W15 (Or.inr (slot_ne (Or.inr (hw _ (List.mem_of_getElem? (i := 33) rfl))) (Or.inr (hw _ (List.mem_of_getElem? (i := 35) rfl))) (by decide) (t := .int) (t' := .long) (by decide) (by decide)))).other W19 (Or.inr (slot_ne (Or.inr (hw _ (List.mem_of_getElem? (i := 33) rfl))) (Or.inr (hw _ (List.mem_of_getElem? (i := 37) rfl))) (by decide) (t := .int) (t' := (.object "com/example/decel/decel/retention/Retention$Combine")) (by decide) (by decide)))).other W23 (Or.inr (slot_ne (Or.inr (hw _ (List.mem_of_getElem? (i := 33) rfl))) (Or.inr (hw _ (List.mem_of_getElem? (i := 39) rfl))) (by decide) (t := .int) (t' := .long) (by decide) (by decide)))).other W27 (Or.inr (slot_ne (Or.inr (hw _ (List.mem_of_getElem? (i := 33) rfl))) (Or.inr (hw _ (List.mem_of_getElem? (i := 41) rfl))) (by decide) (t := .int) (t' := .boolean) (by decide) (by decide))))
      have F15_maxAgeMillis_30 := (((F15.other W19 (Or.inr (slot_ne (Or.inr (hw _ (List.mem_of_getElem? (i := 35) rfl))) (Or.inr (hw _ (List.mem_of_getElem? (i := 37) rfl))) (by decide) (t := .long) (t' := (.object "com/example/decel/decel/retention/Retention$Combine")) (by decide) (by decide)))).other W23 (Or.inr (slot_ne (Or.inr (hw _ (List.mem_of_getElem? (i := 35) rfl))) (Or.inr (hw _ (List.mem_of_getElem? (i := 39) rfl))) (by decide) (t := .long) (t' := .long) (by decide) (by decide)))).other W27 (Or.inr (slot_ne (Or.inr (hw _ (List.mem_of_getElem? (i := 35) rfl))) (Or.inr (hw _ (List.mem_of_getElem? (i := 41) rfl))) (by decide) (t := .long) (t' := .boolean) (by decide) (by decide))))
      have F19_combine_31 := ((F19.other W23 (Or.inr (slot_ne (Or.inr (hw _ (List.mem_of_getElem? (i := 37) rfl))) (Or.inr (hw _ (List.mem_of_getElem? (i := 39) rfl))) (by decide) (t := (.object "com/example/decel/decel/retention/Retention$Combine")) (t' := .long) (by decide) (by decide)))).other W27 (Or.inr (slot_ne (Or.inr (hw _ (List.mem_of_getElem? (i := 37) rfl))) (Or.inr (hw _ (List.mem_of_getElem? (i := 41) rfl))) (by decide) (t := (.object "com/example/decel/decel/retention/Retention$Combine")) (t' := .boolean) (by decide) (by decide))))
      have F23_windowMillis_32 := (F23.other W27 (Or.inr (slot_ne (Or.inr (hw _ (List.mem_of_getElem? (i := 39) rfl))) (Or.inr (hw _ (List.mem_of_getElem? (i := 41) rfl))) (by decide) (t := .long) (t' := .boolean) (by decide) (by decide))))
      have hk2_33 := (Nat.le_trans (Nat.le_trans (Nat.le_trans (Nat.le_trans (Nat.le_trans hk2 (Nat.le_of_eq W11.size.symm)) (Nat.le_of_eq W15.size.symm)) (Nat.le_of_eq W19.size.symm)) (Nat.le_of_eq W23.size.symm)) (Nat.le_of_eq W27.size.symm))
      exact own_retVW X27 hS2 (by rw [e27]; exact hk2_33) hx hlk hrt (hb hby d1_156) (by rw [e27]; exact ⟨rfl, N27, K0_28, F11_maxVersions_29, F15_maxAgeMillis_30, F19_combine_31, F23_windowMillis_32, F27⟩) (by decide) (by decide)
    ·
      refine own_st (fun t k => XS.ifNo X6.here hx rfl (hb hby d1_102) rfl ((if0 _ _).trans (feq c102_8).1) k) ?_
      show own_Go _ _ _ _ T6 (mkF m 105 #[.val (.ref r0), .val (.int ve), .val (.long ag), .second, .val (.ref cb), .val (.long wi), .second, .val (.int se)] [])
      refine own_st (fun t k => XS.lloadN X6.here hx rfl (hb hby d1_105) rfl k) ?_
      show own_Go _ _ _ _ T6 (mkF m 106 #[.val (.ref r0), .val (.int ve), .val (.long ag), .second, .val (.ref cb), .val (.long wi), .second, .val (.int se)] [(.long ag)])
      refine own_st (fun t k => XS.lconst X6.here hx rfl (hb hby d1_106) k) ?_
      show own_Go _ _ _ _ T6 (mkF m 107 #[.val (.ref r0), .val (.int ve), .val (.long ag), .second, .val (.ref cb), .val (.long wi), .second, .val (.int se)] [(.long (0 : Int64)), (.long ag)])
      refine own_st (fun t k => XS.lcmp X6.here hx rfl (hb hby d1_107) rfl k) ?_
      show own_Go _ _ _ _ T6 (mkF m 108 #[.val (.ref r0), .val (.int ve), .val (.long ag), .second, .val (.ref cb), .val (.long wi), .second, .val (.int se)] [(.int (lcmpW ag (0 : Int64)))])
      refine own_st (fun t k => XS.ifNo X6.here hx rfl (hb hby d1_108) rfl ((if0 _ _).trans (flt (fun q => ((hse.resolve_left c102_8).1 : ¬ ((0 : Int64) < ag)) ((lw_gt _ _).mp q))).2.2.1) k) ?_
      show own_Go _ _ _ _ T6 (mkF m 111 #[.val (.ref r0), .val (.int ve), .val (.long ag), .second, .val (.ref cb), .val (.long wi), .second, .val (.int se)] [])
      refine own_st (fun t k => XS.lload X6.here hx rfl (hb hby d1_111) rfl k) ?_
      show own_Go _ _ _ _ T6 (mkF m 113 #[.val (.ref r0), .val (.int ve), .val (.long ag), .second, .val (.ref cb), .val (.long wi), .second, .val (.int se)] [(.long wi)])
      refine own_st (fun t k => XS.lconst X6.here hx rfl (hb hby d1_113) k) ?_
      show own_Go _ _ _ _ T6 (mkF m 114 #[.val (.ref r0), .val (.int ve), .val (.long ag), .second, .val (.ref cb), .val (.long wi), .second, .val (.int se)] [(.long (0 : Int64)), (.long wi)])
      refine own_st (fun t k => XS.lcmp X6.here hx rfl (hb hby d1_114) rfl k) ?_
      show own_Go _ _ _ _ T6 (mkF m 115 #[.val (.ref r0), .val (.int ve), .val (.long ag), .second, .val (.ref cb), .val (.long wi), .second, .val (.int se)] [(.int (lcmpW wi (0 : Int64)))])
      refine own_st (fun t k => XS.ifYes X6.here hx rfl (pc0 := 115) (pc' := 128) rfl (hb hby d1_115) rfl ((if0 _ _).trans (flt (fun q => ((hse.resolve_left c102_8).2 : ¬ ((0 : Int64) < wi)) ((lw_gt _ _).mp q))).2.2.2) (by decide) (by decide) k) ?_
      show own_Go _ _ _ _ T6 (mkF m 128 #[.val (.ref r0), .val (.int ve), .val (.long ag), .second, .val (.ref cb), .val (.long wi), .second, .val (.int se)] [])
      refine own_st (fun t k => XS.aloadN X6.here hx rfl (hb hby d1_128) rfl rfl k) ?_
      show own_Go _ _ _ _ T6 (mkF m 129 #[.val (.ref r0), .val (.int ve), .val (.long ag), .second, .val (.ref cb), .val (.long wi), .second, .val (.int se)] [(.ref r0)])
      refine own_st (fun t k => XS.iloadN X6.here hx rfl (hb hby d1_129) rfl k) ?_
      show own_Go _ _ _ _ T6 (mkF m 130 #[.val (.ref r0), .val (.int ve), .val (.long ag), .second, .val (.ref cb), .val (.long wi), .second, .val (.int se)] [(.int ve), (.ref r0)])
      have F_maxVersions_r0_34 := (F_maxVersions_r0.ext E2)
      have E_r0_35 := (E_r0.ext E2)
      obtain ⟨T36, h36, X36, e36, W36, st36⟩ := putF X6 hx hZ2 hown2 (host := "") (Or.inl (hw _ (List.mem_of_getElem? (i := 32) rfl))) Via.refl e6 F_maxVersions_r0_34 E_r0_35 (Or.inr ⟨(hw _ (List.mem_of_getElem? (i := 33) rfl)), rfl, hnm⟩) (hw _ (List.mem_of_getElem? (i := 6) rfl)) (ty := .int) (by decide) rfl rfl (g := (mkF m 130 #[.val (.ref r0), .val (.int ve), .val (.long ag), .second, .val (.ref cb), .val (.long wi), .second, .val (.int se)] [(.int ve), (.ref r0)])) rfl rfl (hb hby d1_130)
      have F36 := F_maxVersions_r0_34.same W36
      have N36 := Fr.snoc X36 N3 g_r0
      refine own_st st36 ?_
      show own_Go _ _ _ _ T36 (mkF m 133 #[.val (.ref r0), .val (.int ve), .val (.long ag), .second, .val (.ref cb), .val (.long wi), .second, .val (.int se)] [])
      refine own_st (fun t k => XS.aloadN X36.here hx rfl (hb hby d1_133) rfl rfl k) ?_
      show own_Go _ _ _ _ T36 (mkF m 134 #[.val (.ref r0), .val (.int ve), .val (.long ag), .second, .val (.ref cb), .val (.long wi), .second, .val (.int se)] [(.ref r0)])
      refine own_st (fun t k => XS.lloadN X36.here hx rfl (hb hby d1_134) rfl k) ?_
      show own_Go _ _ _ _ T36 (mkF m 135 #[.val (.ref r0), .val (.int ve), .val (.long ag), .second, .val (.ref cb), .val (.long wi), .second, .val (.int se)] [(.long ag), (.ref r0)])
      have F_maxAgeMillis_r0_37 := ((F_maxAgeMillis_r0.ext E2).other W36 (Or.inr (slot_ne (Or.inr (hw _ (List.mem_of_getElem? (i := 35) rfl))) (Or.inr (hw _ (List.mem_of_getElem? (i := 33) rfl))) (by decide) (t := .long) (t' := .int) (by decide) (by decide))))
      have E_r0_38 := (E_r0_35.wr W36)
      have K0_39 := (K0_4.wr W36 (Or.inl (List.mem_of_getElem? (i := 0) rfl)))
      obtain ⟨T40, h40, X40, e40, W40, st40⟩ := putF X36 hx hZ2 hown2 (host := "") (Or.inl (hw _ (List.mem_of_getElem? (i := 34) rfl))) Via.refl e36 F_maxAgeMillis_r0_37 E_r0_38 (Or.inr ⟨(hw _ (List.mem_of_getElem? (i := 35) rfl)), rfl, hnm⟩) (hw _ (List.mem_of_getElem? (i := 6) rfl)) (ty := .long) (by decide) rfl rfl (g := (mkF m 135 #[.val (.ref r0), .val (.int ve), .val (.long ag), .second, .val (.ref cb), .val (.long wi), .second, .val (.int se)] [(.long ag), (.ref r0)])) rfl rfl (hb hby d1_135)
      have F40 := F_maxAgeMillis_r0_37.same W40
      have N40 := Fr.snoc X40 N36 g_r0
      refine own_st st40 ?_
      show own_Go _ _ _ _ T40 (mkF m 138 #[.val (.ref r0), .val (.int ve), .val (.long ag), .second, .val (.ref cb), .val (.long wi), .second, .val (.int se)] [])
      refine own_st (fun t k => XS.aloadN X40.here hx rfl (hb hby d1_138) rfl rfl k) ?_
      show own_Go _ _ _ _ T40 (mkF m 139 #[.val (.ref r0), .val (.int ve), .val (.long ag), .second, .val (.ref cb), .val (.long wi), .second, .val (.int se)] [(.ref r0)])
      refine own_st (fun t k => XS.aload X40.here hx rfl (hb hby d1_139) rfl rfl k) ?_
      show own_Go _ _ _ _ T40 (mkF m 141 #[.val (.ref r0), .val (.int ve), .val (.long ag), .second, .val (.ref cb), .val (.long wi), .second, .val (.int se)] [(.ref cb), (.ref r0)])
      have F_combine_r0_41 := (((F_combine_r0.ext E2).other W36 (Or.inr (slot_ne (Or.inr (hw _ (List.mem_of_getElem? (i := 37) rfl))) (Or.inr (hw _ (List.mem_of_getElem? (i := 33) rfl))) (by decide) (t := (.object "com/example/decel/decel/retention/Retention$Combine")) (t' := .int) (by decide) (by decide)))).other W40 (Or.inr (slot_ne (Or.inr (hw _ (List.mem_of_getElem? (i := 37) rfl))) (Or.inr (hw _ (List.mem_of_getElem? (i := 35) rfl))) (by decide) (t := (.object "com/example/decel/decel/retention/Retention$Combine")) (t' := .long) (by decide) (by decide))))
      have E_r0_42 := (E_r0_38.wr W40)
      have K0_43 := (K0_39.wr W40 (Or.inl (List.mem_of_getElem? (i := 0) rfl)))
      obtain ⟨T44, h44, X44, e44, W44, st44⟩ := putF X40 hx hZ2 hown2 (host := "") (Or.inl (hw _ (List.mem_of_getElem? (i := 36) rfl))) Via.refl e40 F_combine_r0_41 E_r0_42 (Or.inr ⟨(hw _ (List.mem_of_getElem? (i := 37) rfl)), rfl, hnm⟩) (hw _ (List.mem_of_getElem? (i := 6) rfl)) (ty := (.object "com/example/decel/decel/retention/Retention$Combine")) (by decide) rfl rfl (g := (mkF m 141 #[.val (.ref r0), .val (.int ve), .val (.long ag), .second, .val (.ref cb), .val (.long wi), .second, .val (.int se)] [(.ref cb), (.ref r0)])) rfl rfl (hb hby d1_141)
      have F44 := F_combine_r0_41.same W44
      have N44 := Fr.snoc X44 N40 g_r0
      refine own_st st44 ?_
      show own_Go _ _ _ _ T44 (mkF m 144 #[.val (.ref r0), .val (.int ve), .val (.long ag), .second, .val (.ref cb), .val (.long wi), .second, .val (.int se)] [])
      refine own_st (fun t k => XS.aloadN X44.here hx rfl (hb hby d1_144) rfl rfl k) ?_
      show own_Go _ _ _ _ T44 (mkF m 145 #[.val (.ref r0), .val (.int ve), .val (.long ag), .second, .val (.ref cb), .val (.long wi), .second, .val (.int se)] [(.ref r0)])
      refine own_st (fun t k => XS.lload X44.here hx rfl (hb hby d1_145) rfl k) ?_
      show own_Go _ _ _ _ T44 (mkF m 147 #[.val (.ref r0), .val (.int ve), .val (.long ag), .second, .val (.ref cb), .val (.long wi), .second, .val (.int se)] [(.long wi), (.ref r0)])
      have F_windowMillis_r0_45 := ((((F_windowMillis_r0.ext E2).other W36 (Or.inr (slot_ne (Or.inr (hw _ (List.mem_of_getElem? (i := 39) rfl))) (Or.inr (hw _ (List.mem_of_getElem? (i := 33) rfl))) (by decide) (t := .long) (t' := .int) (by decide) (by decide)))).other W40 (Or.inr (slot_ne (Or.inr (hw _ (List.mem_of_getElem? (i := 39) rfl))) (Or.inr (hw _ (List.mem_of_getElem? (i := 35) rfl))) (by decide) (t := .long) (t' := .long) (by decide) (by decide)))).other W44 (Or.inr (slot_ne (Or.inr (hw _ (List.mem_of_getElem? (i := 39) rfl))) (Or.inr (hw _ (List.mem_of_getElem? (i := 37) rfl))) (by decide) (t := .long) (t' := (.object "com/example/decel/decel/retention/Retention$Combine")) (by decide) (by decide))))
      have E_r0_46 := (E_r0_42.wr W44)
      have K0_47 := (K0_43.wr W44 (Or.inl (List.mem_of_getElem? (i := 0) rfl)))
      obtain ⟨T48, h48, X48, e48, W48, st48⟩ := putF X44 hx hZ2 hown2 (host := "") (Or.inl (hw _ (List.mem_of_getElem? (i := 38) rfl))) Via.refl e44 F_windowMillis_r0_45 E_r0_46 (Or.inr ⟨(hw _ (List.mem_of_getElem? (i := 39) rfl)), rfl, hnm⟩) (hw _ (List.mem_of_getElem? (i := 6) rfl)) (ty := .long) (by decide) rfl rfl (g := (mkF m 147 #[.val (.ref r0), .val (.int ve), .val (.long ag), .second, .val (.ref cb), .val (.long wi), .second, .val (.int se)] [(.long wi), (.ref r0)])) rfl rfl (hb hby d1_147)
      have F48 := F_windowMillis_r0_45.same W48
      have N48 := Fr.snoc X48 N44 g_r0
      refine own_st st48 ?_
      show own_Go _ _ _ _ T48 (mkF m 150 #[.val (.ref r0), .val (.int ve), .val (.long ag), .second, .val (.ref cb), .val (.long wi), .second, .val (.int se)] [])
      refine own_st (fun t k => XS.aloadN X48.here hx rfl (hb hby d1_150) rfl rfl k) ?_
      show own_Go _ _ _ _ T48 (mkF m 151 #[.val (.ref r0), .val (.int ve), .val (.long ag), .second, .val (.ref cb), .val (.long wi), .second, .val (.int se)] [(.ref r0)])
      refine own_st (fun t k => XS.iload X48.here hx rfl (hb hby d1_151) rfl k) ?_
      show own_Go _ _ _ _ T48 (mkF m 153 #[.val (.ref r0), .val (.int ve), .val (.long ag), .second, .val (.ref cb), .val (.long wi), .second, .val (.int se)] [(.int se), (.ref r0)])
      have F_sequence_r0_49 := (((((F_sequence_r0.ext E2).other W36 (Or.inr (slot_ne (Or.inr (hw _ (List.mem_of_getElem? (i := 41) rfl))) (Or.inr (hw _ (List.mem_of_getElem? (i := 33) rfl))) (by decide) (t := .boolean) (t' := .int) (by decide) (by decide)))).other W40 (Or.inr (slot_ne (Or.inr (hw _ (List.mem_of_getElem? (i := 41) rfl))) (Or.inr (hw _ (List.mem_of_getElem? (i := 35) rfl))) (by decide) (t := .boolean) (t' := .long) (by decide) (by decide)))).other W44 (Or.inr (slot_ne (Or.inr (hw _ (List.mem_of_getElem? (i := 41) rfl))) (Or.inr (hw _ (List.mem_of_getElem? (i := 37) rfl))) (by decide) (t := .boolean) (t' := (.object "com/example/decel/decel/retention/Retention$Combine")) (by decide) (by decide)))).other W48 (Or.inr (slot_ne (Or.inr (hw _ (List.mem_of_getElem? (i := 41) rfl))) (Or.inr (hw _ (List.mem_of_getElem? (i := 39) rfl))) (by decide) (t := .boolean) (t' := .long) (by decide) (by decide))))
      have E_r0_50 := (E_r0_46.wr W48)
      have K0_51 := (K0_47.wr W48 (Or.inl (List.mem_of_getElem? (i := 0) rfl)))
      obtain ⟨T52, h52, X52, e52, W52, st52⟩ := putFN X48 hx hZ2 hown2 (hw _ (List.mem_of_getElem? (i := 40) rfl)) Via.refl e48 F_sequence_r0_49 E_r0_50 (Or.inr ⟨(hw _ (List.mem_of_getElem? (i := 41) rfl)), rfl, hnm⟩) (hw _ (List.mem_of_getElem? (i := 6) rfl)) (ty := .boolean) (v' := (.int (nar .boolean se))) (by decide) rfl (fits_nar_bool _) (g := (mkF m 153 #[.val (.ref r0), .val (.int ve), .val (.long ag), .second, .val (.ref cb), .val (.long wi), .second, .val (.int se)] [(.int se), (.ref r0)])) rfl rfl (hb hby d1_153)
      have F52 := F_sequence_r0_49.same W52
      have N52 := Fr.snoc X52 N48 g_r0
      refine own_st st52 ?_
      show own_Go _ _ _ _ T52 (mkF m 156 #[.val (.ref r0), .val (.int ve), .val (.long ag), .second, .val (.ref cb), .val (.long wi), .second, .val (.int se)] [])
      have K0_53 := (K0_51.wr W52 (Or.inl (List.mem_of_getElem? (i := 0) rfl)))
      have F36_maxVersions_54 := ((((F36.other W40 (Or.inr (slot_ne (Or.inr (hw _ (List.mem_of_getElem? (i := 33) rfl))) (Or.inr (hw _ (List.mem_of_getElem? (i := 35) rfl))) (by decide) (t := .int) (t' := .long) (by decide) (by decide)))).other W44 (Or.inr (slot_ne (Or.inr (hw _ (List.mem_of_getElem? (i := 33) rfl))) (Or.inr (hw _ (List.mem_of_getElem? (i := 37) rfl))) (by decide) (t := .int) (t' := (.object "com/example/decel/decel/retention/Retention$Combine")) (by decide) (by decide)))).other W48 (Or.inr (slot_ne (Or.inr (hw _ (List.mem_of_getElem? (i := 33) rfl))) (Or.inr (hw _ (List.mem_of_getElem? (i := 39) rfl))) (by decide) (t := .int) (t' := .long) (by decide) (by decide)))).other W52 (Or.inr (slot_ne (Or.inr (hw _ (List.mem_of_getElem? (i := 33) rfl))) (Or.inr (hw _ (List.mem_of_getElem? (i := 41) rfl))) (by decide) (t := .int) (t' := .boolean) (by decide) (by decide))))
      have F40_maxAgeMillis_55 := (((F40.other W44 (Or.inr (slot_ne (Or.inr (hw _ (List.mem_of_getElem? (i := 35) rfl))) (Or.inr (hw _ (List.mem_of_getElem? (i := 37) rfl))) (by decide) (t := .long) (t' := (.object "com/example/decel/decel/retention/Retention$Combine")) (by decide) (by decide)))).other W48 (Or.inr (slot_ne (Or.inr (hw _ (List.mem_of_getElem? (i := 35) rfl))) (Or.inr (hw _ (List.mem_of_getElem? (i := 39) rfl))) (by decide) (t := .long) (t' := .long) (by decide) (by decide)))).other W52 (Or.inr (slot_ne (Or.inr (hw _ (List.mem_of_getElem? (i := 35) rfl))) (Or.inr (hw _ (List.mem_of_getElem? (i := 41) rfl))) (by decide) (t := .long) (t' := .boolean) (by decide) (by decide))))
      have F44_combine_56 := ((F44.other W48 (Or.inr (slot_ne (Or.inr (hw _ (List.mem_of_getElem? (i := 37) rfl))) (Or.inr (hw _ (List.mem_of_getElem? (i := 39) rfl))) (by decide) (t := (.object "com/example/decel/decel/retention/Retention$Combine")) (t' := .long) (by decide) (by decide)))).other W52 (Or.inr (slot_ne (Or.inr (hw _ (List.mem_of_getElem? (i := 37) rfl))) (Or.inr (hw _ (List.mem_of_getElem? (i := 41) rfl))) (by decide) (t := (.object "com/example/decel/decel/retention/Retention$Combine")) (t' := .boolean) (by decide) (by decide))))
      have F48_windowMillis_57 := (F48.other W52 (Or.inr (slot_ne (Or.inr (hw _ (List.mem_of_getElem? (i := 39) rfl))) (Or.inr (hw _ (List.mem_of_getElem? (i := 41) rfl))) (by decide) (t := .long) (t' := .boolean) (by decide) (by decide))))
      have hk2_58 := (Nat.le_trans (Nat.le_trans (Nat.le_trans (Nat.le_trans (Nat.le_trans hk2 (Nat.le_of_eq W36.size.symm)) (Nat.le_of_eq W40.size.symm)) (Nat.le_of_eq W44.size.symm)) (Nat.le_of_eq W48.size.symm)) (Nat.le_of_eq W52.size.symm))
      exact own_retVW X52 hS2 (by rw [e52]; exact hk2_58) hx hlk hrt (hb hby d1_156) (by rw [e52]; exact ⟨rfl, N52, K0_53, F36_maxVersions_54, F40_maxAgeMillis_55, F44_combine_56, F48_windowMillis_57, F52⟩) (by decide) (by decide)
  ·
    refine own_st (fun t k => Jvm.RoadKit.acmp (g := (mkF m 55 #[.val (.ref r0), .val (.int ve), .val (.long ag), .second, .val (.ref cb), .val (.long wi), .second, .val (.int se)] [(.ref al), (.ref cb)])) X6 hx rfl rfl rfl (pc0 := 55) (pc' := 78) (same := false) rfl (hb hby d1_55) rfl (decide_eq_false fun q => c55_7 (Value.ref.inj q)) (by decide) (by decide) k) ?_
    show own_Go _ _ _ _ T6 (mkF m 78 #[.val (.ref r0), .val (.int ve), .val (.long ag), .second, .val (.ref cb), .val (.long wi), .second, .val (.int se)] [])
    refine own_st (fun t k => XS.lload X6.here hx rfl (hb hby d1_78) rfl k) ?_
    show own_Go _ _ _ _ T6 (mkF m 80 #[.val (.ref r0), .val (.int ve), .val (.long ag), .second, .val (.ref cb), .val (.long wi), .second, .val (.int se)] [(.long wi)])
    refine own_st (fun t k => XS.lconst X6.here hx rfl (hb hby d1_80) k) ?_
    show own_Go _ _ _ _ T6 (mkF m 81 #[.val (.ref r0), .val (.int ve), .val (.long ag), .second, .val (.ref cb), .val (.long wi), .second, .val (.int se)] [(.long (0 : Int64)), (.long wi)])
    refine own_st (fun t k => XS.lcmp X6.here hx rfl (hb hby d1_81) rfl k) ?_
    show own_Go _ _ _ _ T6 (mkF m 82 #[.val (.ref r0), .val (.int ve), .val (.long ag), .second, .val (.ref cb), .val (.long wi), .second, .val (.int se)] [(.int (lcmpW wi (0 : Int64)))])
    refine own_st (fun t k => XS.ifYes X6.here hx rfl (pc0 := 82) (pc' := 100) rfl (hb hby d1_82) rfl ((if0 _ _).trans (flt (fun q => hwi ((lw_lt _ _).mp q))).2.1) (by decide) (by decide) k) ?_
    show own_Go _ _ _ _ T6 (mkF m 100 #[.val (.ref r0), .val (.int ve), .val (.long ag), .second, .val (.ref cb), .val (.long wi), .second, .val (.int se)] [])
    refine own_st (fun t k => XS.iload X6.here hx rfl (hb hby d1_100) rfl k) ?_
    show own_Go _ _ _ _ T6 (mkF m 102 #[.val (.ref r0), .val (.int ve), .val (.long ag), .second, .val (.ref cb), .val (.long wi), .second, .val (.int se)] [(.int se)])
    by_cases c102_59 : se = (0 : Int32)
    ·
      refine own_st (fun t k => XS.ifYes X6.here hx rfl (pc0 := 102) (pc' := 128) rfl (hb hby d1_102) rfl ((if0 _ _).trans (teq c102_59).1) (by decide) (by decide) k) ?_
      show own_Go _ _ _ _ T6 (mkF m 128 #[.val (.ref r0), .val (.int ve), .val (.long ag), .second, .val (.ref cb), .val (.long wi), .second, .val (.int se)] [])
      refine own_st (fun t k => XS.aloadN X6.here hx rfl (hb hby d1_128) rfl rfl k) ?_
      show own_Go _ _ _ _ T6 (mkF m 129 #[.val (.ref r0), .val (.int ve), .val (.long ag), .second, .val (.ref cb), .val (.long wi), .second, .val (.int se)] [(.ref r0)])
      refine own_st (fun t k => XS.iloadN X6.here hx rfl (hb hby d1_129) rfl k) ?_
      show own_Go _ _ _ _ T6 (mkF m 130 #[.val (.ref r0), .val (.int ve), .val (.long ag), .second, .val (.ref cb), .val (.long wi), .second, .val (.int se)] [(.int ve), (.ref r0)])
      have F_maxVersions_r0_60 := (F_maxVersions_r0.ext E2)
      have E_r0_61 := (E_r0.ext E2)
      obtain ⟨T62, h62, X62, e62, W62, st62⟩ := putF X6 hx hZ2 hown2 (host := "") (Or.inl (hw _ (List.mem_of_getElem? (i := 32) rfl))) Via.refl e6 F_maxVersions_r0_60 E_r0_61 (Or.inr ⟨(hw _ (List.mem_of_getElem? (i := 33) rfl)), rfl, hnm⟩) (hw _ (List.mem_of_getElem? (i := 6) rfl)) (ty := .int) (by decide) rfl rfl (g := (mkF m 130 #[.val (.ref r0), .val (.int ve), .val (.long ag), .second, .val (.ref cb), .val (.long wi), .second, .val (.int se)] [(.int ve), (.ref r0)])) rfl rfl (hb hby d1_130)
      have F62 := F_maxVersions_r0_60.same W62
      have N62 := Fr.snoc X62 N3 g_r0
      refine own_st st62 ?_
      show own_Go _ _ _ _ T62 (mkF m 133 #[.val (.ref r0), .val (.int ve), .val (.long ag), .second, .val (.ref cb), .val (.long wi), .second, .val (.int se)] [])
      refine own_st (fun t k => XS.aloadN X62.here hx rfl (hb hby d1_133) rfl rfl k) ?_
      show own_Go _ _ _ _ T62 (mkF m 134 #[.val (.ref r0), .val (.int ve), .val (.long ag), .second, .val (.ref cb), .val (.long wi), .second, .val (.int se)] [(.ref r0)])
      refine own_st (fun t k => XS.lloadN X62.here hx rfl (hb hby d1_134) rfl k) ?_
      show own_Go _ _ _ _ T62 (mkF m 135 #[.val (.ref r0), .val (.int ve), .val (.long ag), .second, .val (.ref cb), .val (.long wi), .second, .val (.int se)] [(.long ag), (.ref r0)])
      have F_maxAgeMillis_r0_63 := ((F_maxAgeMillis_r0.ext E2).other W62 (Or.inr (slot_ne (Or.inr (hw _ (List.mem_of_getElem? (i := 35) rfl))) (Or.inr (hw _ (List.mem_of_getElem? (i := 33) rfl))) (by decide) (t := .long) (t' := .int) (by decide) (by decide))))
      have E_r0_64 := (E_r0_61.wr W62)
      have K0_65 := (K0_4.wr W62 (Or.inl (List.mem_of_getElem? (i := 0) rfl)))
      obtain ⟨T66, h66, X66, e66, W66, st66⟩ := putF X62 hx hZ2 hown2 (host := "") (Or.inl (hw _ (List.mem_of_getElem? (i := 34) rfl))) Via.refl e62 F_maxAgeMillis_r0_63 E_r0_64 (Or.inr ⟨(hw _ (List.mem_of_getElem? (i := 35) rfl)), rfl, hnm⟩) (hw _ (List.mem_of_getElem? (i := 6) rfl)) (ty := .long) (by decide) rfl rfl (g := (mkF m 135 #[.val (.ref r0), .val (.int ve), .val (.long ag), .second, .val (.ref cb), .val (.long wi), .second, .val (.int se)] [(.long ag), (.ref r0)])) rfl rfl (hb hby d1_135)
      have F66 := F_maxAgeMillis_r0_63.same W66
      have N66 := Fr.snoc X66 N62 g_r0
      refine own_st st66 ?_
      show own_Go _ _ _ _ T66 (mkF m 138 #[.val (.ref r0), .val (.int ve), .val (.long ag), .second, .val (.ref cb), .val (.long wi), .second, .val (.int se)] [])
      refine own_st (fun t k => XS.aloadN X66.here hx rfl (hb hby d1_138) rfl rfl k) ?_
      show own_Go _ _ _ _ T66 (mkF m 139 #[.val (.ref r0), .val (.int ve), .val (.long ag), .second, .val (.ref cb), .val (.long wi), .second, .val (.int se)] [(.ref r0)])
      refine own_st (fun t k => XS.aload X66.here hx rfl (hb hby d1_139) rfl rfl k) ?_
      show own_Go _ _ _ _ T66 (mkF m 141 #[.val (.ref r0), .val (.int ve), .val (.long ag), .second, .val (.ref cb), .val (.long wi), .second, .val (.int se)] [(.ref cb), (.ref r0)])
      have F_combine_r0_67 := (((F_combine_r0.ext E2).other W62 (Or.inr (slot_ne (Or.inr (hw _ (List.mem_of_getElem? (i := 37) rfl))) (Or.inr (hw _ (List.mem_of_getElem? (i := 33) rfl))) (by decide) (t := (.object "com/example/decel/decel/retention/Retention$Combine")) (t' := .int) (by decide) (by decide)))).other W66 (Or.inr (slot_ne (Or.inr (hw _ (List.mem_of_getElem? (i := 37) rfl))) (Or.inr (hw _ (List.mem_of_getElem? (i := 35) rfl))) (by decide) (t := (.object "com/example/decel/decel/retention/Retention$Combine")) (t' := .long) (by decide) (by decide))))
      have E_r0_68 := (E_r0_64.wr W66)
      have K0_69 := (K0_65.wr W66 (Or.inl (List.mem_of_getElem? (i := 0) rfl)))
      obtain ⟨T70, h70, X70, e70, W70, st70⟩ := putF X66 hx hZ2 hown2 (host := "") (Or.inl (hw _ (List.mem_of_getElem? (i := 36) rfl))) Via.refl e66 F_combine_r0_67 E_r0_68 (Or.inr ⟨(hw _ (List.mem_of_getElem? (i := 37) rfl)), rfl, hnm⟩) (hw _ (List.mem_of_getElem? (i := 6) rfl)) (ty := (.object "com/example/decel/decel/retention/Retention$Combine")) (by decide) rfl rfl (g := (mkF m 141 #[.val (.ref r0), .val (.int ve), .val (.long ag), .second, .val (.ref cb), .val (.long wi), .second, .val (.int se)] [(.ref cb), (.ref r0)])) rfl rfl (hb hby d1_141)
      have F70 := F_combine_r0_67.same W70
      have N70 := Fr.snoc X70 N66 g_r0
      refine own_st st70 ?_
      show own_Go _ _ _ _ T70 (mkF m 144 #[.val (.ref r0), .val (.int ve), .val (.long ag), .second, .val (.ref cb), .val (.long wi), .second, .val (.int se)] [])
      refine own_st (fun t k => XS.aloadN X70.here hx rfl (hb hby d1_144) rfl rfl k) ?_
      show own_Go _ _ _ _ T70 (mkF m 145 #[.val (.ref r0), .val (.int ve), .val (.long ag), .second, .val (.ref cb), .val (.long wi), .second, .val (.int se)] [(.ref r0)])
      refine own_st (fun t k => XS.lload X70.here hx rfl (hb hby d1_145) rfl k) ?_
      show own_Go _ _ _ _ T70 (mkF m 147 #[.val (.ref r0), .val (.int ve), .val (.long ag), .second, .val (.ref cb), .val (.long wi), .second, .val (.int se)] [(.long wi), (.ref r0)])
      have F_windowMillis_r0_71 := ((((F_windowMillis_r0.ext E2).other W62 (Or.inr (slot_ne (Or.inr (hw _ (List.mem_of_getElem? (i := 39) rfl))) (Or.inr (hw _ (List.mem_of_getElem? (i := 33) rfl))) (by decide) (t := .long) (t' := .int) (by decide) (by decide)))).other W66 (Or.inr (slot_ne (Or.inr (hw _ (List.mem_of_getElem? (i := 39) rfl))) (Or.inr (hw _ (List.mem_of_getElem? (i := 35) rfl))) (by decide) (t := .long) (t' := .long) (by decide) (by decide)))).other W70 (Or.inr (slot_ne (Or.inr (hw _ (List.mem_of_getElem? (i := 39) rfl))) (Or.inr (hw _ (List.mem_of_getElem? (i := 37) rfl))) (by decide) (t := .long) (t' := (.object "com/example/decel/decel/retention/Retention$Combine")) (by decide) (by decide))))
      have E_r0_72 := (E_r0_68.wr W70)
      have K0_73 := (K0_69.wr W70 (Or.inl (List.mem_of_getElem? (i := 0) rfl)))
      obtain ⟨T74, h74, X74, e74, W74, st74⟩ := putF X70 hx hZ2 hown2 (host := "") (Or.inl (hw _ (List.mem_of_getElem? (i := 38) rfl))) Via.refl e70 F_windowMillis_r0_71 E_r0_72 (Or.inr ⟨(hw _ (List.mem_of_getElem? (i := 39) rfl)), rfl, hnm⟩) (hw _ (List.mem_of_getElem? (i := 6) rfl)) (ty := .long) (by decide) rfl rfl (g := (mkF m 147 #[.val (.ref r0), .val (.int ve), .val (.long ag), .second, .val (.ref cb), .val (.long wi), .second, .val (.int se)] [(.long wi), (.ref r0)])) rfl rfl (hb hby d1_147)
      have F74 := F_windowMillis_r0_71.same W74
      have N74 := Fr.snoc X74 N70 g_r0
      refine own_st st74 ?_
      show own_Go _ _ _ _ T74 (mkF m 150 #[.val (.ref r0), .val (.int ve), .val (.long ag), .second, .val (.ref cb), .val (.long wi), .second, .val (.int se)] [])
      refine own_st (fun t k => XS.aloadN X74.here hx rfl (hb hby d1_150) rfl rfl k) ?_
      show own_Go _ _ _ _ T74 (mkF m 151 #[.val (.ref r0), .val (.int ve), .val (.long ag), .second, .val (.ref cb), .val (.long wi), .second, .val (.int se)] [(.ref r0)])
      refine own_st (fun t k => XS.iload X74.here hx rfl (hb hby d1_151) rfl k) ?_
      show own_Go _ _ _ _ T74 (mkF m 153 #[.val (.ref r0), .val (.int ve), .val (.long ag), .second, .val (.ref cb), .val (.long wi), .second, .val (.int se)] [(.int se), (.ref r0)])
      have F_sequence_r0_75 := (((((F_sequence_r0.ext E2).other W62 (Or.inr (slot_ne (Or.inr (hw _ (List.mem_of_getElem? (i := 41) rfl))) (Or.inr (hw _ (List.mem_of_getElem? (i := 33) rfl))) (by decide) (t := .boolean) (t' := .int) (by decide) (by decide)))).other W66 (Or.inr (slot_ne (Or.inr (hw _ (List.mem_of_getElem? (i := 41) rfl))) (Or.inr (hw _ (List.mem_of_getElem? (i := 35) rfl))) (by decide) (t := .boolean) (t' := .long) (by decide) (by decide)))).other W70 (Or.inr (slot_ne (Or.inr (hw _ (List.mem_of_getElem? (i := 41) rfl))) (Or.inr (hw _ (List.mem_of_getElem? (i := 37) rfl))) (by decide) (t := .boolean) (t' := (.object "com/example/decel/decel/retention/Retention$Combine")) (by decide) (by decide)))).other W74 (Or.inr (slot_ne (Or.inr (hw _ (List.mem_of_getElem? (i := 41) rfl))) (Or.inr (hw _ (List.mem_of_getElem? (i := 39) rfl))) (by decide) (t := .boolean) (t' := .long) (by decide) (by decide))))
      have E_r0_76 := (E_r0_72.wr W74)
      have K0_77 := (K0_73.wr W74 (Or.inl (List.mem_of_getElem? (i := 0) rfl)))
      obtain ⟨T78, h78, X78, e78, W78, st78⟩ := putFN X74 hx hZ2 hown2 (hw _ (List.mem_of_getElem? (i := 40) rfl)) Via.refl e74 F_sequence_r0_75 E_r0_76 (Or.inr ⟨(hw _ (List.mem_of_getElem? (i := 41) rfl)), rfl, hnm⟩) (hw _ (List.mem_of_getElem? (i := 6) rfl)) (ty := .boolean) (v' := (.int (nar .boolean se))) (by decide) rfl (fits_nar_bool _) (g := (mkF m 153 #[.val (.ref r0), .val (.int ve), .val (.long ag), .second, .val (.ref cb), .val (.long wi), .second, .val (.int se)] [(.int se), (.ref r0)])) rfl rfl (hb hby d1_153)
      have F78 := F_sequence_r0_75.same W78
      have N78 := Fr.snoc X78 N74 g_r0
      refine own_st st78 ?_
      show own_Go _ _ _ _ T78 (mkF m 156 #[.val (.ref r0), .val (.int ve), .val (.long ag), .second, .val (.ref cb), .val (.long wi), .second, .val (.int se)] [])
      have K0_79 := (K0_77.wr W78 (Or.inl (List.mem_of_getElem? (i := 0) rfl)))
      have F62_maxVersions_80 := ((((F62.other W66 (Or.inr (slot_ne (Or.inr (hw _ (List.mem_of_getElem? (i := 33) rfl))) (Or.inr (hw _ (List.mem_of_getElem? (i := 35) rfl))) (by decide) (t := .int) (t' := .long) (by decide) (by decide)))).other W70 (Or.inr (slot_ne (Or.inr (hw _ (List.mem_of_getElem? (i := 33) rfl))) (Or.inr (hw _ (List.mem_of_getElem? (i := 37) rfl))) (by decide) (t := .int) (t' := (.object "com/example/decel/decel/retention/Retention$Combine")) (by decide) (by decide)))).other W74 (Or.inr (slot_ne (Or.inr (hw _ (List.mem_of_getElem? (i := 33) rfl))) (Or.inr (hw _ (List.mem_of_getElem? (i := 39) rfl))) (by decide) (t := .int) (t' := .long) (by decide) (by decide)))).other W78 (Or.inr (slot_ne (Or.inr (hw _ (List.mem_of_getElem? (i := 33) rfl))) (Or.inr (hw _ (List.mem_of_getElem? (i := 41) rfl))) (by decide) (t := .int) (t' := .boolean) (by decide) (by decide))))
      have F66_maxAgeMillis_81 := (((F66.other W70 (Or.inr (slot_ne (Or.inr (hw _ (List.mem_of_getElem? (i := 35) rfl))) (Or.inr (hw _ (List.mem_of_getElem? (i := 37) rfl))) (by decide) (t := .long) (t' := (.object "com/example/decel/decel/retention/Retention$Combine")) (by decide) (by decide)))).other W74 (Or.inr (slot_ne (Or.inr (hw _ (List.mem_of_getElem? (i := 35) rfl))) (Or.inr (hw _ (List.mem_of_getElem? (i := 39) rfl))) (by decide) (t := .long) (t' := .long) (by decide) (by decide)))).other W78 (Or.inr (slot_ne (Or.inr (hw _ (List.mem_of_getElem? (i := 35) rfl))) (Or.inr (hw _ (List.mem_of_getElem? (i := 41) rfl))) (by decide) (t := .long) (t' := .boolean) (by decide) (by decide))))
      have F70_combine_82 := ((F70.other W74 (Or.inr (slot_ne (Or.inr (hw _ (List.mem_of_getElem? (i := 37) rfl))) (Or.inr (hw _ (List.mem_of_getElem? (i := 39) rfl))) (by decide) (t := (.object "com/example/decel/decel/retention/Retention$Combine")) (t' := .long) (by decide) (by decide)))).other W78 (Or.inr (slot_ne (Or.inr (hw _ (List.mem_of_getElem? (i := 37) rfl))) (Or.inr (hw _ (List.mem_of_getElem? (i := 41) rfl))) (by decide) (t := (.object "com/example/decel/decel/retention/Retention$Combine")) (t' := .boolean) (by decide) (by decide))))
      have F74_windowMillis_83 := (F74.other W78 (Or.inr (slot_ne (Or.inr (hw _ (List.mem_of_getElem? (i := 39) rfl))) (Or.inr (hw _ (List.mem_of_getElem? (i := 41) rfl))) (by decide) (t := .long) (t' := .boolean) (by decide) (by decide))))
      have hk2_84 := (Nat.le_trans (Nat.le_trans (Nat.le_trans (Nat.le_trans (Nat.le_trans hk2 (Nat.le_of_eq W62.size.symm)) (Nat.le_of_eq W66.size.symm)) (Nat.le_of_eq W70.size.symm)) (Nat.le_of_eq W74.size.symm)) (Nat.le_of_eq W78.size.symm))
      exact own_retVW X78 hS2 (by rw [e78]; exact hk2_84) hx hlk hrt (hb hby d1_156) (by rw [e78]; exact ⟨rfl, N78, K0_79, F62_maxVersions_80, F66_maxAgeMillis_81, F70_combine_82, F74_windowMillis_83, F78⟩) (by decide) (by decide)
    ·
      refine own_st (fun t k => XS.ifNo X6.here hx rfl (hb hby d1_102) rfl ((if0 _ _).trans (feq c102_59).1) k) ?_
      show own_Go _ _ _ _ T6 (mkF m 105 #[.val (.ref r0), .val (.int ve), .val (.long ag), .second, .val (.ref cb), .val (.long wi), .second, .val (.int se)] [])
      refine own_st (fun t k => XS.lloadN X6.here hx rfl (hb hby d1_105) rfl k) ?_
      show own_Go _ _ _ _ T6 (mkF m 106 #[.val (.ref r0), .val (.int ve), .val (.long ag), .second, .val (.ref cb), .val (.long wi), .second, .val (.int se)] [(.long ag)])
      refine own_st (fun t k => XS.lconst X6.here hx rfl (hb hby d1_106) k) ?_
      show own_Go _ _ _ _ T6 (mkF m 107 #[.val (.ref r0), .val (.int ve), .val (.long ag), .second, .val (.ref cb), .val (.long wi), .second, .val (.int se)] [(.long (0 : Int64)), (.long ag)])
      refine own_st (fun t k => XS.lcmp X6.here hx rfl (hb hby d1_107) rfl k) ?_
      show own_Go _ _ _ _ T6 (mkF m 108 #[.val (.ref r0), .val (.int ve), .val (.long ag), .second, .val (.ref cb), .val (.long wi), .second, .val (.int se)] [(.int (lcmpW ag (0 : Int64)))])
      refine own_st (fun t k => XS.ifNo X6.here hx rfl (hb hby d1_108) rfl ((if0 _ _).trans (flt (fun q => ((hse.resolve_left c102_59).1 : ¬ ((0 : Int64) < ag)) ((lw_gt _ _).mp q))).2.2.1) k) ?_
      show own_Go _ _ _ _ T6 (mkF m 111 #[.val (.ref r0), .val (.int ve), .val (.long ag), .second, .val (.ref cb), .val (.long wi), .second, .val (.int se)] [])
      refine own_st (fun t k => XS.lload X6.here hx rfl (hb hby d1_111) rfl k) ?_
      show own_Go _ _ _ _ T6 (mkF m 113 #[.val (.ref r0), .val (.int ve), .val (.long ag), .second, .val (.ref cb), .val (.long wi), .second, .val (.int se)] [(.long wi)])
      refine own_st (fun t k => XS.lconst X6.here hx rfl (hb hby d1_113) k) ?_
      show own_Go _ _ _ _ T6 (mkF m 114 #[.val (.ref r0), .val (.int ve), .val (.long ag), .second, .val (.ref cb), .val (.long wi), .second, .val (.int se)] [(.long (0 : Int64)), (.long wi)])
      refine own_st (fun t k => XS.lcmp X6.here hx rfl (hb hby d1_114) rfl k) ?_
      show own_Go _ _ _ _ T6 (mkF m 115 #[.val (.ref r0), .val (.int ve), .val (.long ag), .second, .val (.ref cb), .val (.long wi), .second, .val (.int se)] [(.int (lcmpW wi (0 : Int64)))])
      refine own_st (fun t k => XS.ifYes X6.here hx rfl (pc0 := 115) (pc' := 128) rfl (hb hby d1_115) rfl ((if0 _ _).trans (flt (fun q => ((hse.resolve_left c102_59).2 : ¬ ((0 : Int64) < wi)) ((lw_gt _ _).mp q))).2.2.2) (by decide) (by decide) k) ?_
      show own_Go _ _ _ _ T6 (mkF m 128 #[.val (.ref r0), .val (.int ve), .val (.long ag), .second, .val (.ref cb), .val (.long wi), .second, .val (.int se)] [])
      refine own_st (fun t k => XS.aloadN X6.here hx rfl (hb hby d1_128) rfl rfl k) ?_
      show own_Go _ _ _ _ T6 (mkF m 129 #[.val (.ref r0), .val (.int ve), .val (.long ag), .second, .val (.ref cb), .val (.long wi), .second, .val (.int se)] [(.ref r0)])
      refine own_st (fun t k => XS.iloadN X6.here hx rfl (hb hby d1_129) rfl k) ?_
      show own_Go _ _ _ _ T6 (mkF m 130 #[.val (.ref r0), .val (.int ve), .val (.long ag), .second, .val (.ref cb), .val (.long wi), .second, .val (.int se)] [(.int ve), (.ref r0)])
      have F_maxVersions_r0_85 := (F_maxVersions_r0.ext E2)
      have E_r0_86 := (E_r0.ext E2)
      obtain ⟨T87, h87, X87, e87, W87, st87⟩ := putF X6 hx hZ2 hown2 (host := "") (Or.inl (hw _ (List.mem_of_getElem? (i := 32) rfl))) Via.refl e6 F_maxVersions_r0_85 E_r0_86 (Or.inr ⟨(hw _ (List.mem_of_getElem? (i := 33) rfl)), rfl, hnm⟩) (hw _ (List.mem_of_getElem? (i := 6) rfl)) (ty := .int) (by decide) rfl rfl (g := (mkF m 130 #[.val (.ref r0), .val (.int ve), .val (.long ag), .second, .val (.ref cb), .val (.long wi), .second, .val (.int se)] [(.int ve), (.ref r0)])) rfl rfl (hb hby d1_130)
      have F87 := F_maxVersions_r0_85.same W87
      have N87 := Fr.snoc X87 N3 g_r0
      refine own_st st87 ?_
      show own_Go _ _ _ _ T87 (mkF m 133 #[.val (.ref r0), .val (.int ve), .val (.long ag), .second, .val (.ref cb), .val (.long wi), .second, .val (.int se)] [])
      refine own_st (fun t k => XS.aloadN X87.here hx rfl (hb hby d1_133) rfl rfl k) ?_
      show own_Go _ _ _ _ T87 (mkF m 134 #[.val (.ref r0), .val (.int ve), .val (.long ag), .second, .val (.ref cb), .val (.long wi), .second, .val (.int se)] [(.ref r0)])
      refine own_st (fun t k => XS.lloadN X87.here hx rfl (hb hby d1_134) rfl k) ?_
      show own_Go _ _ _ _ T87 (mkF m 135 #[.val (.ref r0), .val (.int ve), .val (.long ag), .second, .val (.ref cb), .val (.long wi), .second, .val (.int se)] [(.long ag), (.ref r0)])
      have F_maxAgeMillis_r0_88 := ((F_maxAgeMillis_r0.ext E2).other W87 (Or.inr (slot_ne (Or.inr (hw _ (List.mem_of_getElem? (i := 35) rfl))) (Or.inr (hw _ (List.mem_of_getElem? (i := 33) rfl))) (by decide) (t := .long) (t' := .int) (by decide) (by decide))))
      have E_r0_89 := (E_r0_86.wr W87)
      have K0_90 := (K0_4.wr W87 (Or.inl (List.mem_of_getElem? (i := 0) rfl)))
      obtain ⟨T91, h91, X91, e91, W91, st91⟩ := putF X87 hx hZ2 hown2 (host := "") (Or.inl (hw _ (List.mem_of_getElem? (i := 34) rfl))) Via.refl e87 F_maxAgeMillis_r0_88 E_r0_89 (Or.inr ⟨(hw _ (List.mem_of_getElem? (i := 35) rfl)), rfl, hnm⟩) (hw _ (List.mem_of_getElem? (i := 6) rfl)) (ty := .long) (by decide) rfl rfl (g := (mkF m 135 #[.val (.ref r0), .val (.int ve), .val (.long ag), .second, .val (.ref cb), .val (.long wi), .second, .val (.int se)] [(.long ag), (.ref r0)])) rfl rfl (hb hby d1_135)
      have F91 := F_maxAgeMillis_r0_88.same W91
      have N91 := Fr.snoc X91 N87 g_r0
      refine own_st st91 ?_
      show own_Go _ _ _ _ T91 (mkF m 138 #[.val (.ref r0), .val (.int ve), .val (.long ag), .second, .val (.ref cb), .val (.long wi), .second, .val (.int se)] [])
      refine own_st (fun t k => XS.aloadN X91.here hx rfl (hb hby d1_138) rfl rfl k) ?_
      show own_Go _ _ _ _ T91 (mkF m 139 #[.val (.ref r0), .val (.int ve), .val (.long ag), .second, .val (.ref cb), .val (.long wi), .second, .val (.int se)] [(.ref r0)])
      refine own_st (fun t k => XS.aload X91.here hx rfl (hb hby d1_139) rfl rfl k) ?_
      show own_Go _ _ _ _ T91 (mkF m 141 #[.val (.ref r0), .val (.int ve), .val (.long ag), .second, .val (.ref cb), .val (.long wi), .second, .val (.int se)] [(.ref cb), (.ref r0)])
      have F_combine_r0_92 := (((F_combine_r0.ext E2).other W87 (Or.inr (slot_ne (Or.inr (hw _ (List.mem_of_getElem? (i := 37) rfl))) (Or.inr (hw _ (List.mem_of_getElem? (i := 33) rfl))) (by decide) (t := (.object "com/example/decel/decel/retention/Retention$Combine")) (t' := .int) (by decide) (by decide)))).other W91 (Or.inr (slot_ne (Or.inr (hw _ (List.mem_of_getElem? (i := 37) rfl))) (Or.inr (hw _ (List.mem_of_getElem? (i := 35) rfl))) (by decide) (t := (.object "com/example/decel/decel/retention/Retention$Combine")) (t' := .long) (by decide) (by decide))))
      have E_r0_93 := (E_r0_89.wr W91)
      have K0_94 := (K0_90.wr W91 (Or.inl (List.mem_of_getElem? (i := 0) rfl)))
      obtain ⟨T95, h95, X95, e95, W95, st95⟩ := putF X91 hx hZ2 hown2 (host := "") (Or.inl (hw _ (List.mem_of_getElem? (i := 36) rfl))) Via.refl e91 F_combine_r0_92 E_r0_93 (Or.inr ⟨(hw _ (List.mem_of_getElem? (i := 37) rfl)), rfl, hnm⟩) (hw _ (List.mem_of_getElem? (i := 6) rfl)) (ty := (.object "com/example/decel/decel/retention/Retention$Combine")) (by decide) rfl rfl (g := (mkF m 141 #[.val (.ref r0), .val (.int ve), .val (.long ag), .second, .val (.ref cb), .val (.long wi), .second, .val (.int se)] [(.ref cb), (.ref r0)])) rfl rfl (hb hby d1_141)
      have F95 := F_combine_r0_92.same W95
      have N95 := Fr.snoc X95 N91 g_r0
      refine own_st st95 ?_
      show own_Go _ _ _ _ T95 (mkF m 144 #[.val (.ref r0), .val (.int ve), .val (.long ag), .second, .val (.ref cb), .val (.long wi), .second, .val (.int se)] [])
      refine own_st (fun t k => XS.aloadN X95.here hx rfl (hb hby d1_144) rfl rfl k) ?_
      show own_Go _ _ _ _ T95 (mkF m 145 #[.val (.ref r0), .val (.int ve), .val (.long ag), .second, .val (.ref cb), .val (.long wi), .second, .val (.int se)] [(.ref r0)])
      refine own_st (fun t k => XS.lload X95.here hx rfl (hb hby d1_145) rfl k) ?_
      show own_Go _ _ _ _ T95 (mkF m 147 #[.val (.ref r0), .val (.int ve), .val (.long ag), .second, .val (.ref cb), .val (.long wi), .second, .val (.int se)] [(.long wi), (.ref r0)])
      have F_windowMillis_r0_96 := ((((F_windowMillis_r0.ext E2).other W87 (Or.inr (slot_ne (Or.inr (hw _ (List.mem_of_getElem? (i := 39) rfl))) (Or.inr (hw _ (List.mem_of_getElem? (i := 33) rfl))) (by decide) (t := .long) (t' := .int) (by decide) (by decide)))).other W91 (Or.inr (slot_ne (Or.inr (hw _ (List.mem_of_getElem? (i := 39) rfl))) (Or.inr (hw _ (List.mem_of_getElem? (i := 35) rfl))) (by decide) (t := .long) (t' := .long) (by decide) (by decide)))).other W95 (Or.inr (slot_ne (Or.inr (hw _ (List.mem_of_getElem? (i := 39) rfl))) (Or.inr (hw _ (List.mem_of_getElem? (i := 37) rfl))) (by decide) (t := .long) (t' := (.object "com/example/decel/decel/retention/Retention$Combine")) (by decide) (by decide))))
      have E_r0_97 := (E_r0_93.wr W95)
      have K0_98 := (K0_94.wr W95 (Or.inl (List.mem_of_getElem? (i := 0) rfl)))
      obtain ⟨T99, h99, X99, e99, W99, st99⟩ := putF X95 hx hZ2 hown2 (host := "") (Or.inl (hw _ (List.mem_of_getElem? (i := 38) rfl))) Via.refl e95 F_windowMillis_r0_96 E_r0_97 (Or.inr ⟨(hw _ (List.mem_of_getElem? (i := 39) rfl)), rfl, hnm⟩) (hw _ (List.mem_of_getElem? (i := 6) rfl)) (ty := .long) (by decide) rfl rfl (g := (mkF m 147 #[.val (.ref r0), .val (.int ve), .val (.long ag), .second, .val (.ref cb), .val (.long wi), .second, .val (.int se)] [(.long wi), (.ref r0)])) rfl rfl (hb hby d1_147)
      have F99 := F_windowMillis_r0_96.same W99
      have N99 := Fr.snoc X99 N95 g_r0
      refine own_st st99 ?_
      show own_Go _ _ _ _ T99 (mkF m 150 #[.val (.ref r0), .val (.int ve), .val (.long ag), .second, .val (.ref cb), .val (.long wi), .second, .val (.int se)] [])
      refine own_st (fun t k => XS.aloadN X99.here hx rfl (hb hby d1_150) rfl rfl k) ?_
      show own_Go _ _ _ _ T99 (mkF m 151 #[.val (.ref r0), .val (.int ve), .val (.long ag), .second, .val (.ref cb), .val (.long wi), .second, .val (.int se)] [(.ref r0)])
      refine own_st (fun t k => XS.iload X99.here hx rfl (hb hby d1_151) rfl k) ?_
      show own_Go _ _ _ _ T99 (mkF m 153 #[.val (.ref r0), .val (.int ve), .val (.long ag), .second, .val (.ref cb), .val (.long wi), .second, .val (.int se)] [(.int se), (.ref r0)])
      have F_sequence_r0_100 := (((((F_sequence_r0.ext E2).other W87 (Or.inr (slot_ne (Or.inr (hw _ (List.mem_of_getElem? (i := 41) rfl))) (Or.inr (hw _ (List.mem_of_getElem? (i := 33) rfl))) (by decide) (t := .boolean) (t' := .int) (by decide) (by decide)))).other W91 (Or.inr (slot_ne (Or.inr (hw _ (List.mem_of_getElem? (i := 41) rfl))) (Or.inr (hw _ (List.mem_of_getElem? (i := 35) rfl))) (by decide) (t := .boolean) (t' := .long) (by decide) (by decide)))).other W95 (Or.inr (slot_ne (Or.inr (hw _ (List.mem_of_getElem? (i := 41) rfl))) (Or.inr (hw _ (List.mem_of_getElem? (i := 37) rfl))) (by decide) (t := .boolean) (t' := (.object "com/example/decel/decel/retention/Retention$Combine")) (by decide) (by decide)))).other W99 (Or.inr (slot_ne (Or.inr (hw _ (List.mem_of_getElem? (i := 41) rfl))) (Or.inr (hw _ (List.mem_of_getElem? (i := 39) rfl))) (by decide) (t := .boolean) (t' := .long) (by decide) (by decide))))
      have E_r0_101 := (E_r0_97.wr W99)
      have K0_102 := (K0_98.wr W99 (Or.inl (List.mem_of_getElem? (i := 0) rfl)))
      obtain ⟨T103, h103, X103, e103, W103, st103⟩ := putFN X99 hx hZ2 hown2 (hw _ (List.mem_of_getElem? (i := 40) rfl)) Via.refl e99 F_sequence_r0_100 E_r0_101 (Or.inr ⟨(hw _ (List.mem_of_getElem? (i := 41) rfl)), rfl, hnm⟩) (hw _ (List.mem_of_getElem? (i := 6) rfl)) (ty := .boolean) (v' := (.int (nar .boolean se))) (by decide) rfl (fits_nar_bool _) (g := (mkF m 153 #[.val (.ref r0), .val (.int ve), .val (.long ag), .second, .val (.ref cb), .val (.long wi), .second, .val (.int se)] [(.int se), (.ref r0)])) rfl rfl (hb hby d1_153)
      have F103 := F_sequence_r0_100.same W103
      have N103 := Fr.snoc X103 N99 g_r0
      refine own_st st103 ?_
      show own_Go _ _ _ _ T103 (mkF m 156 #[.val (.ref r0), .val (.int ve), .val (.long ag), .second, .val (.ref cb), .val (.long wi), .second, .val (.int se)] [])
      have K0_104 := (K0_102.wr W103 (Or.inl (List.mem_of_getElem? (i := 0) rfl)))
      have F87_maxVersions_105 := ((((F87.other W91 (Or.inr (slot_ne (Or.inr (hw _ (List.mem_of_getElem? (i := 33) rfl))) (Or.inr (hw _ (List.mem_of_getElem? (i := 35) rfl))) (by decide) (t := .int) (t' := .long) (by decide) (by decide)))).other W95 (Or.inr (slot_ne (Or.inr (hw _ (List.mem_of_getElem? (i := 33) rfl))) (Or.inr (hw _ (List.mem_of_getElem? (i := 37) rfl))) (by decide) (t := .int) (t' := (.object "com/example/decel/decel/retention/Retention$Combine")) (by decide) (by decide)))).other W99 (Or.inr (slot_ne (Or.inr (hw _ (List.mem_of_getElem? (i := 33) rfl))) (Or.inr (hw _ (List.mem_of_getElem? (i := 39) rfl))) (by decide) (t := .int) (t' := .long) (by decide) (by decide)))).other W103 (Or.inr (slot_ne (Or.inr (hw _ (List.mem_of_getElem? (i := 33) rfl))) (Or.inr (hw _ (List.mem_of_getElem? (i := 41) rfl))) (by decide) (t := .int) (t' := .boolean) (by decide) (by decide))))
      have F91_maxAgeMillis_106 := (((F91.other W95 (Or.inr (slot_ne (Or.inr (hw _ (List.mem_of_getElem? (i := 35) rfl))) (Or.inr (hw _ (List.mem_of_getElem? (i := 37) rfl))) (by decide) (t := .long) (t' := (.object "com/example/decel/decel/retention/Retention$Combine")) (by decide) (by decide)))).other W99 (Or.inr (slot_ne (Or.inr (hw _ (List.mem_of_getElem? (i := 35) rfl))) (Or.inr (hw _ (List.mem_of_getElem? (i := 39) rfl))) (by decide) (t := .long) (t' := .long) (by decide) (by decide)))).other W103 (Or.inr (slot_ne (Or.inr (hw _ (List.mem_of_getElem? (i := 35) rfl))) (Or.inr (hw _ (List.mem_of_getElem? (i := 41) rfl))) (by decide) (t := .long) (t' := .boolean) (by decide) (by decide))))
      have F95_combine_107 := ((F95.other W99 (Or.inr (slot_ne (Or.inr (hw _ (List.mem_of_getElem? (i := 37) rfl))) (Or.inr (hw _ (List.mem_of_getElem? (i := 39) rfl))) (by decide) (t := (.object "com/example/decel/decel/retention/Retention$Combine")) (t' := .long) (by decide) (by decide)))).other W103 (Or.inr (slot_ne (Or.inr (hw _ (List.mem_of_getElem? (i := 37) rfl))) (Or.inr (hw _ (List.mem_of_getElem? (i := 41) rfl))) (by decide) (t := (.object "com/example/decel/decel/retention/Retention$Combine")) (t' := .boolean) (by decide) (by decide))))
      have F99_windowMillis_108 := (F99.other W103 (Or.inr (slot_ne (Or.inr (hw _ (List.mem_of_getElem? (i := 39) rfl))) (Or.inr (hw _ (List.mem_of_getElem? (i := 41) rfl))) (by decide) (t := .long) (t' := .boolean) (by decide) (by decide))))
      have hk2_109 := (Nat.le_trans (Nat.le_trans (Nat.le_trans (Nat.le_trans (Nat.le_trans hk2 (Nat.le_of_eq W87.size.symm)) (Nat.le_of_eq W91.size.symm)) (Nat.le_of_eq W95.size.symm)) (Nat.le_of_eq W99.size.symm)) (Nat.le_of_eq W103.size.symm))
      exact own_retVW X103 hS2 (by rw [e103]; exact hk2_109) hx hlk hrt (hb hby d1_156) (by rw [e103]; exact ⟨rfl, N103, K0_104, F87_maxVersions_105, F91_maxAgeMillis_106, F95_combine_107, F99_windowMillis_108, F103⟩) (by decide) (by decide)
/-! body 5: Retention.lastAdmitted -/
theorem d5_0 : decode prog_28_method_16_code 0 = .ok (.aload_n 0, 1) := by decide +kernel
theorem d5_1 : decode prog_28_method_16_code 1 = .ok (.getfield 50, 3) := by decide +kernel
theorem d5_4 : decode prog_28_method_16_code 4 = .ok (.lconst 0, 1) := by decide +kernel
theorem d5_5 : decode prog_28_method_16_code 5 = .ok (.lcmp, 1) := by decide +kernel
theorem d5_6 : decode prog_28_method_16_code 6 = .ok (.ifCond .eq 18, 3) := by decide +kernel
theorem d5_9 : decode prog_28_method_16_code 9 = .ok (.lload_n 1, 1) := by decide +kernel
theorem d5_10 : decode prog_28_method_16_code 10 = .ok (.ldc2_w 192, 3) := by decide +kernel
theorem d5_13 : decode prog_28_method_16_code 13 = .ok (.aload_n 0, 1) := by decide +kernel
theorem d5_14 : decode prog_28_method_16_code 14 = .ok (.getfield 50, 3) := by decide +kernel
theorem d5_17 : decode prog_28_method_16_code 17 = .ok (.lconst 1, 1) := by decide +kernel
theorem d5_18 : decode prog_28_method_16_code 18 = .ok (.lsub, 1) := by decide +kernel
theorem d5_19 : decode prog_28_method_16_code 19 = .ok (.lsub, 1) := by decide +kernel
theorem d5_20 : decode prog_28_method_16_code 20 = .ok (.lcmp, 1) := by decide +kernel
theorem d5_21 : decode prog_28_method_16_code 21 = .ok (.ifCond .le 7, 3) := by decide +kernel
theorem d5_24 : decode prog_28_method_16_code 24 = .ok (.ldc2_w 192, 3) := by decide +kernel
theorem d5_27 : decode prog_28_method_16_code 27 = .ok (.lreturn, 1) := by decide +kernel
theorem d5_28 : decode prog_28_method_16_code 28 = .ok (.lload_n 1, 1) := by decide +kernel
theorem d5_29 : decode prog_28_method_16_code 29 = .ok (.aload_n 0, 1) := by decide +kernel
theorem d5_30 : decode prog_28_method_16_code 30 = .ok (.getfield 50, 3) := by decide +kernel
theorem d5_33 : decode prog_28_method_16_code 33 = .ok (.lconst 1, 1) := by decide +kernel
theorem d5_34 : decode prog_28_method_16_code 34 = .ok (.lsub, 1) := by decide +kernel
theorem d5_35 : decode prog_28_method_16_code 35 = .ok (.ladd, 1) := by decide +kernel
theorem d5_36 : decode prog_28_method_16_code 36 = .ok (.lreturn, 1) := by decide +kernel
theorem ef_5 (m : MethodId) (x0 : Addr) (x1 : Int64) : entryFrame m #[(.ref x0), (.long x1)] 3 = mkF m 0 #[.val (.ref x0), .val (.long x1), .second] [] := by first | (simp [entryFrame, mkF, argsToLocals, Value.category]; done) | rfl
def own_l (no : Int64) (wi : Int64) : Int64 := (if wi = (0 : Int64) then (9223372036854775807 : Int64) else (if ((9223372036854775807 : Int64) - (wi - (1 : Int64))) < no then (9223372036854775807 : Int64) else (no + (wi - (1 : Int64)))))
def Q5 (Z : State) (r0 : Addr) (no : Int64) (wi : Int64) (h0 : Heap) (n0 : Nat) (v : Option Value) (h : Heap) (L : List Loc) : Prop := v = some (.long (own_l no wi)) ∧ Fr n0 L ∧ h = h0
set_option maxRecDepth 65536 in
set_option maxHeartbeats 40000000 in
theorem rm5 (l : Launch) (Z : State) (a0 : Array Value) (hw : ∀ d ∈ tables_1, d.before a0 Z = true) (ws : List Jvm.Cond) (r0 : Addr) (no : Int64) (wi : Int64) (h0 : Heap) (n0 : Nat) (Z0 : n0 ≤ h0.size) (F_windowMillis_r0 : Fld Z h0 r0 "com/example/decel/decel/retention/Retention" "windowMillis" "J" (.long wi)) :
    MetFree l (⟨"com/example/decel/decel/retention/Retention", "lastAdmitted", "(J)J"⟩ : MethodName) (head1 (Jvm.Cond.code (⟨"com/example/decel/decel/retention/Retention", "lastAdmitted", "(J)J"⟩ : MethodName) prog_28_method_16_code 3 (some .long) :: ws) ({ frames := 0, cells := 0, slots := 0, locals := 0 } : Room)) (fun a U => a = #[(.ref r0), (.long no)] ∧ Z.Warmed39 U.vm ∧ U.heap = h0) (fun _ _ _ _ _ => True) (fun _ U o U' => ∃ v L, o = .returned v ∧ Q5 Z r0 no wi h0 n0 v U'.heap L ∧ FrameEnd U o U' L ({ frames := 0, cells := 0, slots := 0, locals := 0 } : Room).cells ({ frames := 0, cells := 0, slots := 0, locals := 0 } : Room).slots) := by
  refine MetFree.of_bodySF (plainFor_of_name pn_com_example_decel_decel_retention_Retention) hisR ?_
  intro p e s m args below meth c s₁ Bd hml0 hP hK
  obtain ⟨rfl, hZ, hh⟩ := hP
  have hx := Bd.exec
  have hby := Bd.bytes
  have hlk := Bd.notSynchronized
  have hrt := Bd.returns
  have hml : c.maxLocals = 3 := hml0
  have hown : s.vm.findClass "com/example/decel/decel/retention/Retention" = some m.cls := findClass_of_methodNamed Bd.named
  have hnm := (name_of_methodNamed Bd.named Bd.method).1
  have X0 : Stand p l e ({ frames := 0, cells := 0, slots := 0, locals := 0 } : Room) s m #[(.ref r0), (.long no)] below meth c s₁ [] 0 0 := Stand.of_body Bd
  have e0 : s₁.heap = h0 := by rw [← hh, Bd.state]; rfl
  have N0 := Fr.nil n0
  have K0 := Keep.refl h0 []
  refine own_out (Q := Q5 Z r0 no wi h0 n0) ?_
  refine own_in (ef_5 m r0 no) ?_
  show own_Go _ _ _ _ s₁ (mkF m 0 #[.val (.ref r0), .val (.long no), .second] [])
  refine own_st (fun t k => XS.aloadN X0.here hx rfl (hb hby d5_0) rfl rfl k) ?_
  show own_Go _ _ _ _ s₁ (mkF m 1 #[.val (.ref r0), .val (.long no), .second] [(.ref r0)])
  obtain ⟨T1, X1, e1, st1⟩ := getF X0 hx hZ hown (host := "") (Or.inl (hw _ (List.mem_of_getElem? (i := 38) rfl))) Via.refl e0 F_windowMillis_r0 (g := (mkF m 1 #[.val (.ref r0), .val (.long no), .second] [(.ref r0)])) rfl rfl (hb hby d5_1)
  refine own_st st1 ?_
  show own_Go _ _ _ _ T1 (mkF m 4 #[.val (.ref r0), .val (.long no), .second] [(.long wi)])
  refine own_st (fun t k => XS.lconst X1.here hx rfl (hb hby d5_4) k) ?_
  show own_Go _ _ _ _ T1 (mkF m 5 #[.val (.ref r0), .val (.long no), .second] [(.long (0 : Int64)), (.long wi)])
  refine own_st (fun t k => XS.lcmp X1.here hx rfl (hb hby d5_5) rfl k) ?_
  show own_Go _ _ _ _ T1 (mkF m 6 #[.val (.ref r0), .val (.long no), .second] [(.int (lcmpW wi (0 : Int64)))])
  by_cases c6_2 : wi = (0 : Int64)
  ·
    refine own_st (fun t k => XS.ifYes X1.here hx rfl (pc0 := 6) (pc' := 24) rfl (hb hby d5_6) rfl ((if0 _ _).trans (teq ((lw_eq _ _).mpr c6_2)).1) (by decide) (by decide) k) ?_
    show own_Go _ _ _ _ T1 (mkF m 24 #[.val (.ref r0), .val (.long no), .second] [])
    refine own_st (X1.ldc2Long hx hown (mvT hZ (hw _ (List.mem_of_getElem? (i := 47) rfl))) (g := (mkF m 24 #[.val (.ref r0), .val (.long no), .second] [])) rfl (hb hby d5_24)) ?_
    show own_Go _ _ _ _ T1 (mkF m 27 #[.val (.ref r0), .val (.long no), .second] [(.long (9223372036854775807 : Int64))])
    exact own_retJ X1 hx hlk hrt (hb hby d5_27) ⟨(by simp only [own_l, if_pos c6_2]; first | rfl | done), N0, e1⟩ (by decide) (by decide)
  ·
    refine own_st (fun t k => XS.ifNo X1.here hx rfl (hb hby d5_6) rfl ((if0 _ _).trans (feq (fun q => c6_2 ((lw_eq _ _).mp q))).1) k) ?_
    show own_Go _ _ _ _ T1 (mkF m 9 #[.val (.ref r0), .val (.long no), .second] [])
    refine own_st (fun t k => XS.lloadN X1.here hx rfl (hb hby d5_9) rfl k) ?_
    show own_Go _ _ _ _ T1 (mkF m 10 #[.val (.ref r0), .val (.long no), .second] [(.long no)])
    refine own_st (X1.ldc2Long hx hown (mvT hZ (hw _ (List.mem_of_getElem? (i := 47) rfl))) (g := (mkF m 10 #[.val (.ref r0), .val (.long no), .second] [(.long no)])) rfl (hb hby d5_10)) ?_
    show own_Go _ _ _ _ T1 (mkF m 13 #[.val (.ref r0), .val (.long no), .second] [(.long (9223372036854775807 : Int64)), (.long no)])
    refine own_st (fun t k => XS.aloadN X1.here hx rfl (hb hby d5_13) rfl rfl k) ?_
    show own_Go _ _ _ _ T1 (mkF m 14 #[.val (.ref r0), .val (.long no), .second] [(.ref r0), (.long (9223372036854775807 : Int64)), (.long no)])
    obtain ⟨T3, X3, e3, st3⟩ := getF X1 hx hZ hown (host := "") (Or.inl (hw _ (List.mem_of_getElem? (i := 38) rfl))) Via.refl e1 F_windowMillis_r0 (g := (mkF m 14 #[.val (.ref r0), .val (.long no), .second] [(.ref r0), (.long (9223372036854775807 : Int64)), (.long no)])) rfl rfl (hb hby d5_14)
    refine own_st st3 ?_
    show own_Go _ _ _ _ T3 (mkF m 17 #[.val (.ref r0), .val (.long no), .second] [(.long wi), (.long (9223372036854775807 : Int64)), (.long no)])
    refine own_st (fun t k => XS.lconst X3.here hx rfl (hb hby d5_17) k) ?_
    show own_Go _ _ _ _ T3 (mkF m 18 #[.val (.ref r0), .val (.long no), .second] [(.long (1 : Int64)), (.long wi), (.long (9223372036854775807 : Int64)), (.long no)])
    refine own_st (fun t k => XS.lsub X3.here hx rfl (hb hby d5_18) rfl k) ?_
    show own_Go _ _ _ _ T3 (mkF m 19 #[.val (.ref r0), .val (.long no), .second] [(.long (wi - (1 : Int64))), (.long (9223372036854775807 : Int64)), (.long no)])
    refine own_st (fun t k => XS.lsub X3.here hx rfl (hb hby d5_19) rfl k) ?_
    show own_Go _ _ _ _ T3 (mkF m 20 #[.val (.ref r0), .val (.long no), .second] [(.long ((9223372036854775807 : Int64) - (wi - (1 : Int64)))), (.long no)])
    refine own_st (fun t k => XS.lcmp X3.here hx rfl (hb hby d5_20) rfl k) ?_
    show own_Go _ _ _ _ T3 (mkF m 21 #[.val (.ref r0), .val (.long no), .second] [(.int (lcmpW no ((9223372036854775807 : Int64) - (wi - (1 : Int64)))))])
    by_cases c21_4 : ((9223372036854775807 : Int64) - (wi - (1 : Int64))) < no
    ·
      refine own_st (fun t k => XS.ifNo X3.here hx rfl (hb hby d5_21) rfl ((if0 _ _).trans (tlt ((lw_gt _ _).mpr c21_4)).2.2.2) k) ?_
      show own_Go _ _ _ _ T3 (mkF m 24 #[.val (.ref r0), .val (.long no), .second] [])
      refine own_st (X3.ldc2Long hx hown (mvT hZ (hw _ (List.mem_of_getElem? (i := 47) rfl))) (g := (mkF m 24 #[.val (.ref r0), .val (.long no), .second] [])) rfl (hb hby d5_24)) ?_
      show own_Go _ _ _ _ T3 (mkF m 27 #[.val (.ref r0), .val (.long no), .second] [(.long (9223372036854775807 : Int64))])
      exact own_retJ X3 hx hlk hrt (hb hby d5_27) ⟨(by simp only [own_l, if_neg c6_2, if_pos c21_4]; first | rfl | done), N0, e3⟩ (by decide) (by decide)
    ·
      refine own_st (fun t k => XS.ifYes X3.here hx rfl (pc0 := 21) (pc' := 28) rfl (hb hby d5_21) rfl ((if0 _ _).trans (flt (fun q => c21_4 ((lw_gt _ _).mp q))).2.2.2) (by decide) (by decide) k) ?_
      show own_Go _ _ _ _ T3 (mkF m 28 #[.val (.ref r0), .val (.long no), .second] [])
      refine own_st (fun t k => XS.lloadN X3.here hx rfl (hb hby d5_28) rfl k) ?_
      show own_Go _ _ _ _ T3 (mkF m 29 #[.val (.ref r0), .val (.long no), .second] [(.long no)])
      refine own_st (fun t k => XS.aloadN X3.here hx rfl (hb hby d5_29) rfl rfl k) ?_
      show own_Go _ _ _ _ T3 (mkF m 30 #[.val (.ref r0), .val (.long no), .second] [(.ref r0), (.long no)])
      obtain ⟨T5, X5, e5, st5⟩ := getF X3 hx hZ hown (host := "") (Or.inl (hw _ (List.mem_of_getElem? (i := 38) rfl))) Via.refl e3 F_windowMillis_r0 (g := (mkF m 30 #[.val (.ref r0), .val (.long no), .second] [(.ref r0), (.long no)])) rfl rfl (hb hby d5_30)
      refine own_st st5 ?_
      show own_Go _ _ _ _ T5 (mkF m 33 #[.val (.ref r0), .val (.long no), .second] [(.long wi), (.long no)])
      refine own_st (fun t k => XS.lconst X5.here hx rfl (hb hby d5_33) k) ?_
      show own_Go _ _ _ _ T5 (mkF m 34 #[.val (.ref r0), .val (.long no), .second] [(.long (1 : Int64)), (.long wi), (.long no)])
      refine own_st (fun t k => XS.lsub X5.here hx rfl (hb hby d5_34) rfl k) ?_
      show own_Go _ _ _ _ T5 (mkF m 35 #[.val (.ref r0), .val (.long no), .second] [(.long (wi - (1 : Int64))), (.long no)])
      refine own_st (fun t k => XS.ladd X5.here hx rfl (hb hby d5_35) rfl k) ?_
      show own_Go _ _ _ _ T5 (mkF m 36 #[.val (.ref r0), .val (.long no), .second] [(.long (no + (wi - (1 : Int64))))])
      exact own_retJ X5 hx hlk hrt (hb hby d5_36) ⟨(by simp only [own_l, if_neg c6_2, if_neg c21_4]; first | rfl | done), N0, e5⟩ (by decide) (by decide)
theorem own_l_0 {no wi : Int64} (h : wi = (0 : Int64)) : own_l no wi = 9223372036854775807 := by simp only [own_l, if_pos h]
theorem own_l_big {no wi : Int64} (h : ¬ wi = (0 : Int64)) (hw : ¬ wi < (0 : Int64)) (hn : ¬ no < (0 : Int64)) (q : (9223372036854775807 : Int64) - no < wi) : own_l no wi = 9223372036854775807 := by
  simp only [own_l, if_neg h]
  split
  · rfl
  · rename_i u
    have h1 := c_lsub wi 1
    have h2 := c_lsub 9223372036854775807 (wi - 1)
    have h3 := c_lsub 9223372036854775807 no
    have h4 := c_ladd no (wi - 1)
    have r1 := rng64 (wi - 1)
    have r2 := rng64 (9223372036854775807 - (wi - 1))
    have r3 := rng64 (9223372036854775807 - no)
    have r4 := rng64 (no + (wi - 1))
    have r5 := rng64 wi
    have r6 := rng64 no
    have h' : ¬ wi.toInt = 0 := fun z => h (Int64.toInt_inj.mp z)
    rw [Int64.lt_iff_toInt_lt] at hw hn q u
    apply Int64.toInt_inj.mp
    simp only [Int64.reduceToInt] at *
    omega
theorem own_l_small {no wi : Int64} (h : ¬ wi = (0 : Int64)) (hw : ¬ wi < (0 : Int64)) (hn : ¬ no < (0 : Int64)) (q : ¬ (9223372036854775807 : Int64) - no < wi) : own_l no wi = no + (wi - 1) := by
  simp only [own_l, if_neg h]
  split
  · rename_i u
    have h1 := c_lsub wi 1
    have h2 := c_lsub 9223372036854775807 (wi - 1)
    have h3 := c_lsub 9223372036854775807 no
    have r1 := rng64 (wi - 1)
    have r2 := rng64 (9223372036854775807 - (wi - 1))
    have r3 := rng64 (9223372036854775807 - no)
    have r5 := rng64 wi
    have r6 := rng64 no
    have h' : ¬ wi.toInt = 0 := fun z => h (Int64.toInt_inj.mp z)
    rw [Int64.lt_iff_toInt_lt] at hw hn q u
    simp only [Int64.reduceToInt] at *
    omega
  · rfl

theorem pd_205078 : parseMethodDescriptor "(IJLcom/example/decel/decel/retention/Retention$Combine;JZ)V" = some ⟨[.int, .long, (.object "com/example/decel/decel/retention/Retention$Combine"), .long, .boolean], none⟩ := by decide +kernel
theorem pd__28J_29J : parseMethodDescriptor "(J)J" = some ⟨[.long], some .long⟩ := by decide +kernel
/-! body 0: RetentionLastAdmittedPinLaw.law -/
theorem pn_com_example_decel_decel_retention_RetentionLastAdmittedPinLaw : plainName "com/example/decel/decel/retention/RetentionLastAdmittedPinLaw" = true := by first | (simp [plainName, overriddenIn]; done) | decide +kernel
theorem ef_0 (m : MethodId) (x0 : Int64) (x1 : Int64) (x2 : Int64) (x3 : Int32) (x4 : Int32) : entryFrame m #[(.long x0), (.long x1), (.long x2), (.int x3), (.int x4)] maxLocals = mkF m 0 #[.val (.long x0), .second, .val (.long x1), .second, .val (.long x2), .second, .val (.int x3), .val (.int x4), .unset, .unset, .unset, .unset, .unset, .unset, .unset, .unset, .unset, .unset, .unset, .unset, .unset, .unset] [] := by first | (simp [entryFrame, mkF, argsToLocals, Value.category, maxLocals]; done) | rfl
def Q0 (Z : State) (q0 : Int64) (q1 : Int64) (q2 : Int64) (p3 : Int32) (p4 : Int32) (al : Addr) (an : Addr) (h0 : Heap) (n0 : Nat) (v : Option Value) (h : Heap) (L : List Loc) : Prop := v = some (.int (1 : Int32)) ∧ Fr n0 L
set_option maxRecDepth 65536 in
set_option maxHeartbeats 40000000 in
theorem rm0 (l : Launch) (Z : State) (a0 : Array Value) (hw : ∀ d ∈ tables_1, d.before a0 Z = true) (ws : List Jvm.Cond) (q0 : Int64) (q1 : Int64) (q2 : Int64) (p3 : Int32) (p4 : Int32) (al : Addr) (an : Addr) (h0 : Heap) (n0 : Nat) (Z0 : n0 ≤ h0.size) (S_ALL : Sta Z h0 "com/example/decel/decel/retention/Retention$Combine" "ALL" "Lcom/example/decel/decel/retention/Retention$Combine;" (.ref al)) (S_ANY : Sta Z h0 "com/example/decel/decel/retention/Retention$Combine" "ANY" "Lcom/example/decel/decel/retention/Retention$Combine;" (.ref an)) (nal : al ≠ an) :
    MetFree l x (head1 (Jvm.Cond.code x code maxLocals ret :: ws) room_1) (fun a U => a = #[(.long q0), (.long q1), (.long q2), (.int p3), (.int p4)] ∧ Z.Warmed39 U.vm ∧ U.heap = h0) (fun _ _ _ _ _ => True) (fun _ U o U' => ∃ v L, o = .returned v ∧ Q0 Z q0 q1 q2 p3 p4 al an h0 n0 v U'.heap L ∧ ReturnedEndW U o U' L 3 37) := by
  refine MetFree.of_bodySF (plainFor_of_name pn_com_example_decel_decel_retention_RetentionLastAdmittedPinLaw) hisR ?_
  intro p e s m args below meth c s₁ Bd hml0 hP hK
  obtain ⟨rfl, hZ, hh⟩ := hP
  have hx := Bd.exec
  have hby := Bd.bytes
  have hlk := Bd.notSynchronized
  have hrt := Bd.returns
  have hml : c.maxLocals = 22 := hml0
  have hown : s.vm.findClass "com/example/decel/decel/retention/RetentionLastAdmittedPinLaw" = some m.cls := findClass_of_methodNamed Bd.named
  have hnm := (name_of_methodNamed Bd.named Bd.method).1
  have X0 : Stand p l e room_1 (s.setVm s.vm) m #[(.long q0), (.long q1), (.long q2), (.int p3), (.int p4)] below meth c s₁ [] 0 0 := Stand.of_body Bd
  have e0 : s₁.heap = h0 := by rw [← hh, Bd.state]; rfl
  have N0 := Fr.nil n0
  have K0 := Keep.refl h0 []
  have hS0 : s.Since s.vm 0 := (State.WarmedH.refl s).since 0
  have hk0 : 0 ≤ h0.size := Nat.zero_le _
  refine own_outW (Q := Q0 Z q0 q1 q2 p3 p4 al an h0 n0) ?_
  refine own_in (ef_0 m q0 q1 q2 p3 p4) ?_
  have JG110 : ∀ (wi : Int64) (ag : Int64) (se : Int32) (cb : Addr) (TJ : State) (XJ : Stand p l e room_1 (s.setVm s.vm) m #[(.long q0), (.long q1), (.long q2), (.int p3), (.int p4)] below meth c TJ [] 0 0) (eJ : TJ.heap = h0), (¬ (wi < (0 : Int64))) → (¬ (ag < (0 : Int64))) → (se = (0 : Int32) ∨ (¬ ((0 : Int64) < ag) ∧ ¬ ((0 : Int64) < wi))) → (cb = al → (¬ ((p3 &&& (2147483647 : Int32)) = (0 : Int32)) ∧ ¬ (ag = (0 : Int64)))) → own_Go p.tables e below (own_FinW below s (Q0 Z q0 q1 q2 p3 p4 al an h0 n0) 3 37) TJ (mkF m 110 #[.val (.long q0), .second, .val (.long q1), .second, .val (.long q2), .second, .val (.int p3), .val (.int p4), .val (.long (q0 &&& (9223372036854775807 : Int64))), .second, .val (.long wi), .second, .val (.long ag), .second, .val (.int (p3 &&& (2147483647 : Int32))), .val (.int se), .val (.ref cb), .unset, .unset, .unset, .unset, .unset] []) := by
    intro wi ag se cb TJ XJ eJ hwi hag hse hcb
    show own_Go _ _ _ _ TJ (mkF m 110 #[.val (.long q0), .second, .val (.long q1), .second, .val (.long q2), .second, .val (.int p3), .val (.int p4), .val (.long (q0 &&& (9223372036854775807 : Int64))), .second, .val (.long wi), .second, .val (.long ag), .second, .val (.int (p3 &&& (2147483647 : Int32))), .val (.int se), .val (.ref cb), .unset, .unset, .unset, .unset, .unset] [])
    obtain ⟨T1, h1, X1, e1, E1, A1, D1, -, st1⟩ := newO XJ hx hZ hown (hw _ (List.mem_of_getElem? (i := 5) rfl)) (hw _ (List.mem_of_getElem? (i := 6) rfl)) (hw _ (List.mem_of_getElem? (i := 7) rfl)) eJ (g := (mkF m 110 #[.val (.long q0), .second, .val (.long q1), .second, .val (.long q2), .second, .val (.int p3), .val (.int p4), .val (.long (q0 &&& (9223372036854775807 : Int64))), .second, .val (.long wi), .second, .val (.long ag), .second, .val (.int (p3 &&& (2147483647 : Int32))), .val (.int se), .val (.ref cb), .unset, .unset, .unset, .unset, .unset] [])) rfl (hb hby at_110) (by decide) (by decide)
    obtain ⟨b1, g1⟩ : ∃ z, z = h0.size := ⟨_, rfl⟩
    rw [← g1] at A1 D1 st1
    have sz_b1 : h0.size ≤ b1 := Nat.le_trans K0.1 (Nat.le_of_eq g1.symm)
    have g_b1 : n0 ≤ b1 := Nat.le_trans Z0 sz_b1
    have F1_maxVersions : Fld Z h1 b1 "com/example/decel/decel/retention/Retention" "maxVersions" "I" (.int (0 : Int32)) := D1 (Or.inr (hw _ (List.mem_of_getElem? (i := 33) rfl))) (ty := .int) (by decide)
    have F1_maxAgeMillis : Fld Z h1 b1 "com/example/decel/decel/retention/Retention" "maxAgeMillis" "J" (.long (0 : Int64)) := D1 (Or.inr (hw _ (List.mem_of_getElem? (i := 35) rfl))) (ty := .long) (by decide)
    have F1_combine : Fld Z h1 b1 "com/example/decel/decel/retention/Retention" "combine" "Lcom/example/decel/decel/retention/Retention$Combine;" .null := D1 (Or.inr (hw _ (List.mem_of_getElem? (i := 37) rfl))) (ty := (.object "com/example/decel/decel/retention/Retention$Combine")) (by decide)
    have F1_windowMillis : Fld Z h1 b1 "com/example/decel/decel/retention/Retention" "windowMillis" "J" (.long (0 : Int64)) := D1 (Or.inr (hw _ (List.mem_of_getElem? (i := 39) rfl))) (ty := .long) (by decide)
    have F1_sequence : Fld Z h1 b1 "com/example/decel/decel/retention/Retention" "sequence" "Z" (.int (0 : Int32)) := D1 (Or.inr (hw _ (List.mem_of_getElem? (i := 41) rfl))) (ty := .boolean) (by decide)
    refine own_st st1 ?_
    show own_Go _ _ _ _ T1 (mkF m 113 #[.val (.long q0), .second, .val (.long q1), .second, .val (.long q2), .second, .val (.int p3), .val (.int p4), .val (.long (q0 &&& (9223372036854775807 : Int64))), .second, .val (.long wi), .second, .val (.long ag), .second, .val (.int (p3 &&& (2147483647 : Int32))), .val (.int se), .val (.ref cb), .unset, .unset, .unset, .unset, .unset] [(.ref b1)])
    refine own_st (fun t k => XS.dup X1.here hx rfl (hb hby at_113) rfl rfl k) ?_
    show own_Go _ _ _ _ T1 (mkF m 114 #[.val (.long q0), .second, .val (.long q1), .second, .val (.long q2), .second, .val (.int p3), .val (.int p4), .val (.long (q0 &&& (9223372036854775807 : Int64))), .second, .val (.long wi), .second, .val (.long ag), .second, .val (.int (p3 &&& (2147483647 : Int32))), .val (.int se), .val (.ref cb), .unset, .unset, .unset, .unset, .unset] [(.ref b1), (.ref b1)])
    refine own_st (fun t k => XS.iload X1.here hx rfl (hb hby at_114) rfl k) ?_
    show own_Go _ _ _ _ T1 (mkF m 116 #[.val (.long q0), .second, .val (.long q1), .second, .val (.long q2), .second, .val (.int p3), .val (.int p4), .val (.long (q0 &&& (9223372036854775807 : Int64))), .second, .val (.long wi), .second, .val (.long ag), .second, .val (.int (p3 &&& (2147483647 : Int32))), .val (.int se), .val (.ref cb), .unset, .unset, .unset, .unset, .unset] [(.int (p3 &&& (2147483647 : Int32))), (.ref b1), (.ref b1)])
    refine own_st (fun t k => XS.lload X1.here hx rfl (hb hby at_116) rfl k) ?_
    show own_Go _ _ _ _ T1 (mkF m 118 #[.val (.long q0), .second, .val (.long q1), .second, .val (.long q2), .second, .val (.int p3), .val (.int p4), .val (.long (q0 &&& (9223372036854775807 : Int64))), .second, .val (.long wi), .second, .val (.long ag), .second, .val (.int (p3 &&& (2147483647 : Int32))), .val (.int se), .val (.ref cb), .unset, .unset, .unset, .unset, .unset] [(.long ag), (.int (p3 &&& (2147483647 : Int32))), (.ref b1), (.ref b1)])
    refine own_st (fun t k => XS.aload X1.here hx rfl (hb hby at_118) rfl rfl k) ?_
    show own_Go _ _ _ _ T1 (mkF m 120 #[.val (.long q0), .second, .val (.long q1), .second, .val (.long q2), .second, .val (.int p3), .val (.int p4), .val (.long (q0 &&& (9223372036854775807 : Int64))), .second, .val (.long wi), .second, .val (.long ag), .second, .val (.int (p3 &&& (2147483647 : Int32))), .val (.int se), .val (.ref cb), .unset, .unset, .unset, .unset, .unset] [(.ref cb), (.long ag), (.int (p3 &&& (2147483647 : Int32))), (.ref b1), (.ref b1)])
    refine own_st (fun t k => XS.lload X1.here hx rfl (hb hby at_120) rfl k) ?_
    show own_Go _ _ _ _ T1 (mkF m 122 #[.val (.long q0), .second, .val (.long q1), .second, .val (.long q2), .second, .val (.int p3), .val (.int p4), .val (.long (q0 &&& (9223372036854775807 : Int64))), .second, .val (.long wi), .second, .val (.long ag), .second, .val (.int (p3 &&& (2147483647 : Int32))), .val (.int se), .val (.ref cb), .unset, .unset, .unset, .unset, .unset] [(.long wi), (.ref cb), (.long ag), (.int (p3 &&& (2147483647 : Int32))), (.ref b1), (.ref b1)])
    refine own_st (fun t k => XS.iload X1.here hx rfl (hb hby at_122) rfl k) ?_
    show own_Go _ _ _ _ T1 (mkF m 124 #[.val (.long q0), .second, .val (.long q1), .second, .val (.long q2), .second, .val (.int p3), .val (.int p4), .val (.long (q0 &&& (9223372036854775807 : Int64))), .second, .val (.long wi), .second, .val (.long ag), .second, .val (.int (p3 &&& (2147483647 : Int32))), .val (.int se), .val (.ref cb), .unset, .unset, .unset, .unset, .unset] [(.int se), (.long wi), (.ref cb), (.long ag), (.int (p3 &&& (2147483647 : Int32))), (.ref b1), (.ref b1)])
    have S_ALL_2 := (S_ALL.ext E1)
    have K0_4 := (K0.ext E1)
    have hk0_5 := (Nat.le_trans hk0 E1.1)
    obtain ⟨_, _, ⟨T3, L3, k3, n3⟩, -, X3, hs3, hg3, ⟨Lc3, hQ3, l3, y3, z3⟩, st3⟩ := X1.specialBackS hx (y := (⟨"com/example/decel/decel/retention/Retention", "<init>", "(IJLcom/example/decel/decel/retention/Retention$Combine;JZ)V"⟩ : MethodName)) rfl hown (mvT hZ (hw _ (List.mem_of_getElem? (i := 8) rfl))) (mvT hZ (hw _ (List.mem_of_getElem? (i := 9) rfl))) (mvT hZ (hw _ (List.mem_of_getElem? (i := 10) rfl))) (by decide) (backOfS (W := 1) (rm1 l Z a0 hw [] b1 (p3 &&& (2147483647 : Int32)) ag cb wi se al  h1 n0 (Nat.le_trans Z0 K0_4.1) A1 F1_maxVersions F1_maxAgeMillis F1_combine F1_windowMillis F1_sequence g_b1 S_ALL_2 (own_nn _) hag hcb hwi hse) hZ (hw _ (List.mem_of_getElem? (i := 10) rfl)) (hw _ (List.mem_of_getElem? (i := 7) rfl)) (by decide) (by decide)) (g := (mkF m 124 #[.val (.long q0), .second, .val (.long q1), .second, .val (.long q2), .second, .val (.int p3), .val (.int p4), .val (.long (q0 &&& (9223372036854775807 : Int64))), .second, .val (.long wi), .second, .val (.long ag), .second, .val (.int (p3 &&& (2147483647 : Int32))), .val (.int se), .val (.ref cb), .unset, .unset, .unset, .unset, .unset] [(.int se), (.long wi), (.ref cb), (.long ag), (.int (p3 &&& (2147483647 : Int32))), (.ref b1), (.ref b1)])) rfl (by rw [hml]; rfl) (Steps.refl _) (a := b1) (argsL := [(.int (p3 &&& (2147483647 : Int32))), (.long ag), (.ref cb), (.long wi), (.int se)]) (rest := [(.ref b1)]) (lenOf pd_205078 rfl) rfl (by show 2 * 0 + _ ≤ _; exact Nat.le_of_eq rfl) (hb hby at_124) (fun _ _ => ⟨rfl, e1, (by decide : 1 + 2 ≤ _), (by decide : 5 + 32 ≤ _)⟩)
    dsimp only [Pt.U, Pt.locs, Pt.cells, Pt.slots] at X3 l3 y3 z3 st3 hQ3 hs3 hg3
    subst l3 y3 z3
    have ns3 : ∀ x ∈ [b1], ∀ cl : Cell, h1[x]? = some cl → cl.vm.isStatics = false := allS A1.nostat all0
    obtain ⟨rfl, N3q, K3, G3_0, G3_1, G3_2, G3_3, G3_4⟩ := hQ3
    have N3 := Fr.app N0 N3q
    have hS3 := foldS hS0 (by rw [e1]; exact hk0_5) hs3 hg3
    have hZ3 : Z.Warmed39 (s.setVm T3.vm).vm := own_wz hZ hs3
    have hown3 : (s.setVm T3.vm).vm.findClass "com/example/decel/decel/retention/RetentionLastAdmittedPinLaw" = some m.cls := own_wo hown hs3
    refine own_tr st3 ?_
    show own_Go _ _ _ _ T3 (mkF m 127 #[.val (.long q0), .second, .val (.long q1), .second, .val (.long q2), .second, .val (.int p3), .val (.int p4), .val (.long (q0 &&& (9223372036854775807 : Int64))), .second, .val (.long wi), .second, .val (.long ag), .second, .val (.int (p3 &&& (2147483647 : Int32))), .val (.int se), .val (.ref cb), .unset, .unset, .unset, .unset, .unset] [(.ref b1)])
    refine own_st (fun t k => XS.astore X3.here hx rfl (hb hby at_127) rfl rfl (l' := #[.val (.long q0), .second, .val (.long q1), .second, .val (.long q2), .second, .val (.int p3), .val (.int p4), .val (.long (q0 &&& (9223372036854775807 : Int64))), .second, .val (.long wi), .second, .val (.long ag), .second, .val (.int (p3 &&& (2147483647 : Int32))), .val (.int se), .val (.ref cb), .val (.ref b1), .unset, .unset, .unset, .unset]) rfl k) ?_
    show own_Go _ _ _ _ T3 (mkF m 129 #[.val (.long q0), .second, .val (.long q1), .second, .val (.long q2), .second, .val (.int p3), .val (.int p4), .val (.long (q0 &&& (9223372036854775807 : Int64))), .second, .val (.long wi), .second, .val (.long ag), .second, .val (.int (p3 &&& (2147483647 : Int32))), .val (.int se), .val (.ref cb), .val (.ref b1), .unset, .unset, .unset, .unset] [])
    refine own_st (fun t k => XS.aload X3.here hx rfl (hb hby at_129) rfl rfl k) ?_
    show own_Go _ _ _ _ T3 (mkF m 131 #[.val (.long q0), .second, .val (.long q1), .second, .val (.long q2), .second, .val (.int p3), .val (.int p4), .val (.long (q0 &&& (9223372036854775807 : Int64))), .second, .val (.long wi), .second, .val (.long ag), .second, .val (.int (p3 &&& (2147483647 : Int32))), .val (.int se), .val (.ref cb), .val (.ref b1), .unset, .unset, .unset, .unset] [(.ref b1)])
    refine own_st (fun t k => XS.lload X3.here hx rfl (hb hby at_131) rfl k) ?_
    show own_Go _ _ _ _ T3 (mkF m 133 #[.val (.long q0), .second, .val (.long q1), .second, .val (.long q2), .second, .val (.int p3), .val (.int p4), .val (.long (q0 &&& (9223372036854775807 : Int64))), .second, .val (.long wi), .second, .val (.long ag), .second, .val (.int (p3 &&& (2147483647 : Int32))), .val (.int se), .val (.ref cb), .val (.ref b1), .unset, .unset, .unset, .unset] [(.long (q0 &&& (9223372036854775807 : Int64))), (.ref b1)])
    have K0_7 := (K0_4.trans K3 (allS ((Or.inr sz_b1)) all0))
    have A1_8 := (A1.keep K3)
    obtain ⟨cq6, kq6, q6a, q6b, q6c⟩ := isOf hZ3 rfl A1_8
    obtain ⟨_, _, ⟨T6, L6, k6, n6⟩, -, X6, ⟨Lc6, hQ6, l6, y6, z6⟩, st6⟩ := X3.virtualBack hx (y := (⟨"com/example/decel/decel/retention/Retention", "lastAdmitted", "(J)J"⟩ : MethodName)) (z := (⟨"com/example/decel/decel/retention/Retention", "lastAdmitted", "(J)J"⟩ : MethodName)) hown3 (mvT hZ3 (hw _ (List.mem_of_getElem? (i := 42) rfl))) (mvT hZ3 (hw _ (List.mem_of_getElem? (i := 43) rfl))) (notFace_of_selects (args := #[]) (mvT hZ3 (hw _ (List.mem_of_getElem? (i := 45) rfl)))) (mvT hZ3 (hw _ (List.mem_of_getElem? (i := 45) rfl))) (mvT hZ3 (hw _ (List.mem_of_getElem? (i := 44) rfl))) (by decide) (backOf (W := 0) (rm5 l Z a0 hw [] b1 (q0 &&& (9223372036854775807 : Int64)) wi  T3.heap n0 (Nat.le_trans Z0 K0_7.1) G3_3) hZ3 (hw _ (List.mem_of_getElem? (i := 46) rfl)) (hw _ (List.mem_of_getElem? (i := 7) rfl)) (by decide) (by decide)) q6a q6c (g := (mkF m 133 #[.val (.long q0), .second, .val (.long q1), .second, .val (.long q2), .second, .val (.int p3), .val (.int p4), .val (.long (q0 &&& (9223372036854775807 : Int64))), .second, .val (.long wi), .second, .val (.long ag), .second, .val (.int (p3 &&& (2147483647 : Int32))), .val (.int se), .val (.ref cb), .val (.ref b1), .unset, .unset, .unset, .unset] [(.long (q0 &&& (9223372036854775807 : Int64))), (.ref b1)])) rfl (by rw [hml]; rfl) (Steps.refl _) (argsL := [(.long (q0 &&& (9223372036854775807 : Int64)))]) (rest := []) (lenOf pd__28J_29J rfl) rfl (by show 2 * 0 + _ ≤ _; exact Nat.le_of_eq rfl) (hb hby at_133) (fun _ _ => ⟨rfl, rfl, (by decide : 3 + 0 ≤ _), (by decide : 37 + 0 ≤ _)⟩)
    dsimp only [Pt.U, Pt.locs, Pt.cells, Pt.slots] at X6 l6 y6 z6 st6 hQ6
    subst l6 y6 z6
    obtain ⟨rfl, N6q, e6⟩ := hQ6
    have N6 := Fr.app N3 N6q
    refine own_tr st6 ?_
    show own_Go _ _ _ _ T6 (mkF m 136 #[.val (.long q0), .second, .val (.long q1), .second, .val (.long q2), .second, .val (.int p3), .val (.int p4), .val (.long (q0 &&& (9223372036854775807 : Int64))), .second, .val (.long wi), .second, .val (.long ag), .second, .val (.int (p3 &&& (2147483647 : Int32))), .val (.int se), .val (.ref cb), .val (.ref b1), .unset, .unset, .unset, .unset] [(.long (own_l (q0 &&& (9223372036854775807 : Int64)) wi))])
    refine own_st (fun t k => XS.lstore X6.here hx rfl (hb hby at_136) rfl (l' := #[.val (.long q0), .second, .val (.long q1), .second, .val (.long q2), .second, .val (.int p3), .val (.int p4), .val (.long (q0 &&& (9223372036854775807 : Int64))), .second, .val (.long wi), .second, .val (.long ag), .second, .val (.int (p3 &&& (2147483647 : Int32))), .val (.int se), .val (.ref cb), .val (.ref b1), .val (.long (own_l (q0 &&& (9223372036854775807 : Int64)) wi)), .second, .unset, .unset]) rfl k) ?_
    show own_Go _ _ _ _ T6 (mkF m 138 #[.val (.long q0), .second, .val (.long q1), .second, .val (.long q2), .second, .val (.int p3), .val (.int p4), .val (.long (q0 &&& (9223372036854775807 : Int64))), .second, .val (.long wi), .second, .val (.long ag), .second, .val (.int (p3 &&& (2147483647 : Int32))), .val (.int se), .val (.ref cb), .val (.ref b1), .val (.long (own_l (q0 &&& (9223372036854775807 : Int64)) wi)), .second, .unset, .unset] [])
    refine own_st (fun t k => XS.lload X6.here hx rfl (hb hby at_138) rfl k) ?_
    show own_Go _ _ _ _ T6 (mkF m 140 #[.val (.long q0), .second, .val (.long q1), .second, .val (.long q2), .second, .val (.int p3), .val (.int p4), .val (.long (q0 &&& (9223372036854775807 : Int64))), .second, .val (.long wi), .second, .val (.long ag), .second, .val (.int (p3 &&& (2147483647 : Int32))), .val (.int se), .val (.ref cb), .val (.ref b1), .val (.long (own_l (q0 &&& (9223372036854775807 : Int64)) wi)), .second, .unset, .unset] [(.long wi)])
    refine own_st (fun t k => XS.lconst X6.here hx rfl (hb hby at_140) k) ?_
    show own_Go _ _ _ _ T6 (mkF m 141 #[.val (.long q0), .second, .val (.long q1), .second, .val (.long q2), .second, .val (.int p3), .val (.int p4), .val (.long (q0 &&& (9223372036854775807 : Int64))), .second, .val (.long wi), .second, .val (.long ag), .second, .val (.int (p3 &&& (2147483647 : Int32))), .val (.int se), .val (.ref cb), .val (.ref b1), .val (.long (own_l (q0 &&& (9223372036854775807 : Int64)) wi)), .second, .unset, .unset] [(.long (0 : Int64)), (.long wi)])
    refine own_st (fun t k => XS.lcmp X6.here hx rfl (hb hby at_141) rfl k) ?_
    show own_Go _ _ _ _ T6 (mkF m 142 #[.val (.long q0), .second, .val (.long q1), .second, .val (.long q2), .second, .val (.int p3), .val (.int p4), .val (.long (q0 &&& (9223372036854775807 : Int64))), .second, .val (.long wi), .second, .val (.long ag), .second, .val (.int (p3 &&& (2147483647 : Int32))), .val (.int se), .val (.ref cb), .val (.ref b1), .val (.long (own_l (q0 &&& (9223372036854775807 : Int64)) wi)), .second, .unset, .unset] [(.int (lcmpW wi (0 : Int64)))])
    by_cases c142_9 : wi = (0 : Int64)
    ·
      refine own_st (fun t k => XS.ifNo X6.here hx rfl (hb hby at_142) rfl ((if0 _ _).trans (teq ((lw_eq _ _).mpr c142_9)).2) k) ?_
      show own_Go _ _ _ _ T6 (mkF m 145 #[.val (.long q0), .second, .val (.long q1), .second, .val (.long q2), .second, .val (.int p3), .val (.int p4), .val (.long (q0 &&& (9223372036854775807 : Int64))), .second, .val (.long wi), .second, .val (.long ag), .second, .val (.int (p3 &&& (2147483647 : Int32))), .val (.int se), .val (.ref cb), .val (.ref b1), .val (.long (own_l (q0 &&& (9223372036854775807 : Int64)) wi)), .second, .unset, .unset] [])
      refine own_st (X6.ldc2Long hx hown3 (mvT hZ3 (hw _ (List.mem_of_getElem? (i := 0) rfl))) (g := (mkF m 145 #[.val (.long q0), .second, .val (.long q1), .second, .val (.long q2), .second, .val (.int p3), .val (.int p4), .val (.long (q0 &&& (9223372036854775807 : Int64))), .second, .val (.long wi), .second, .val (.long ag), .second, .val (.int (p3 &&& (2147483647 : Int32))), .val (.int se), .val (.ref cb), .val (.ref b1), .val (.long (own_l (q0 &&& (9223372036854775807 : Int64)) wi)), .second, .unset, .unset] [])) rfl (hb hby at_145)) ?_
      show own_Go _ _ _ _ T6 (mkF m 148 #[.val (.long q0), .second, .val (.long q1), .second, .val (.long q2), .second, .val (.int p3), .val (.int p4), .val (.long (q0 &&& (9223372036854775807 : Int64))), .second, .val (.long wi), .second, .val (.long ag), .second, .val (.int (p3 &&& (2147483647 : Int32))), .val (.int se), .val (.ref cb), .val (.ref b1), .val (.long (own_l (q0 &&& (9223372036854775807 : Int64)) wi)), .second, .unset, .unset] [(.long (9223372036854775807 : Int64))])
      refine own_st (fun t k => XS.lstore X6.here hx rfl (hb hby at_148) rfl (l' := #[.val (.long q0), .second, .val (.long q1), .second, .val (.long q2), .second, .val (.int p3), .val (.int p4), .val (.long (q0 &&& (9223372036854775807 : Int64))), .second, .val (.long wi), .second, .val (.long ag), .second, .val (.int (p3 &&& (2147483647 : Int32))), .val (.int se), .val (.ref cb), .val (.ref b1), .val (.long (own_l (q0 &&& (9223372036854775807 : Int64)) wi)), .second, .val (.long (9223372036854775807 : Int64)), .second]) rfl k) ?_
      show own_Go _ _ _ _ T6 (mkF m 150 #[.val (.long q0), .second, .val (.long q1), .second, .val (.long q2), .second, .val (.int p3), .val (.int p4), .val (.long (q0 &&& (9223372036854775807 : Int64))), .second, .val (.long wi), .second, .val (.long ag), .second, .val (.int (p3 &&& (2147483647 : Int32))), .val (.int se), .val (.ref cb), .val (.ref b1), .val (.long (own_l (q0 &&& (9223372036854775807 : Int64)) wi)), .second, .val (.long (9223372036854775807 : Int64)), .second] [])
      refine own_st (fun t k => XS.goto X6.here hx rfl (pc0 := 150) (pc' := 182) rfl (hb hby at_150) (by decide) (by decide) k) ?_
      show own_Go _ _ _ _ T6 (mkF m 182 #[.val (.long q0), .second, .val (.long q1), .second, .val (.long q2), .second, .val (.int p3), .val (.int p4), .val (.long (q0 &&& (9223372036854775807 : Int64))), .second, .val (.long wi), .second, .val (.long ag), .second, .val (.int (p3 &&& (2147483647 : Int32))), .val (.int se), .val (.ref cb), .val (.ref b1), .val (.long (own_l (q0 &&& (9223372036854775807 : Int64)) wi)), .second, .val (.long (9223372036854775807 : Int64)), .second] [])
      refine own_st (fun t k => XS.lload X6.here hx rfl (hb hby at_182) rfl k) ?_
      show own_Go _ _ _ _ T6 (mkF m 184 #[.val (.long q0), .second, .val (.long q1), .second, .val (.long q2), .second, .val (.int p3), .val (.int p4), .val (.long (q0 &&& (9223372036854775807 : Int64))), .second, .val (.long wi), .second, .val (.long ag), .second, .val (.int (p3 &&& (2147483647 : Int32))), .val (.int se), .val (.ref cb), .val (.ref b1), .val (.long (own_l (q0 &&& (9223372036854775807 : Int64)) wi)), .second, .val (.long (9223372036854775807 : Int64)), .second] [(.long (own_l (q0 &&& (9223372036854775807 : Int64)) wi))])
      refine own_st (fun t k => XS.lload X6.here hx rfl (hb hby at_184) rfl k) ?_
      show own_Go _ _ _ _ T6 (mkF m 186 #[.val (.long q0), .second, .val (.long q1), .second, .val (.long q2), .second, .val (.int p3), .val (.int p4), .val (.long (q0 &&& (9223372036854775807 : Int64))), .second, .val (.long wi), .second, .val (.long ag), .second, .val (.int (p3 &&& (2147483647 : Int32))), .val (.int se), .val (.ref cb), .val (.ref b1), .val (.long (own_l (q0 &&& (9223372036854775807 : Int64)) wi)), .second, .val (.long (9223372036854775807 : Int64)), .second] [(.long (9223372036854775807 : Int64)), (.long (own_l (q0 &&& (9223372036854775807 : Int64)) wi))])
      refine own_st (fun t k => XS.lcmp X6.here hx rfl (hb hby at_186) rfl k) ?_
      show own_Go _ _ _ _ T6 (mkF m 187 #[.val (.long q0), .second, .val (.long q1), .second, .val (.long q2), .second, .val (.int p3), .val (.int p4), .val (.long (q0 &&& (9223372036854775807 : Int64))), .second, .val (.long wi), .second, .val (.long ag), .second, .val (.int (p3 &&& (2147483647 : Int32))), .val (.int se), .val (.ref cb), .val (.ref b1), .val (.long (own_l (q0 &&& (9223372036854775807 : Int64)) wi)), .second, .val (.long (9223372036854775807 : Int64)), .second] [(.int (lcmpW (own_l (q0 &&& (9223372036854775807 : Int64)) wi) (9223372036854775807 : Int64)))])
      refine own_st (fun t k => XS.ifNo X6.here hx rfl (hb hby at_187) rfl ((if0 _ _).trans (teq ((lw_eq _ _).mpr (own_l_0 c142_9 : (own_l (q0 &&& (9223372036854775807 : Int64)) wi) = (9223372036854775807 : Int64)))).2) k) ?_
      show own_Go _ _ _ _ T6 (mkF m 190 #[.val (.long q0), .second, .val (.long q1), .second, .val (.long q2), .second, .val (.int p3), .val (.int p4), .val (.long (q0 &&& (9223372036854775807 : Int64))), .second, .val (.long wi), .second, .val (.long ag), .second, .val (.int (p3 &&& (2147483647 : Int32))), .val (.int se), .val (.ref cb), .val (.ref b1), .val (.long (own_l (q0 &&& (9223372036854775807 : Int64)) wi)), .second, .val (.long (9223372036854775807 : Int64)), .second] [])
      refine own_st (fun t k => XS.iconst X6.here hx rfl (hb hby at_190) k) ?_
      show own_Go _ _ _ _ T6 (mkF m 191 #[.val (.long q0), .second, .val (.long q1), .second, .val (.long q2), .second, .val (.int p3), .val (.int p4), .val (.long (q0 &&& (9223372036854775807 : Int64))), .second, .val (.long wi), .second, .val (.long ag), .second, .val (.int (p3 &&& (2147483647 : Int32))), .val (.int se), .val (.ref cb), .val (.ref b1), .val (.long (own_l (q0 &&& (9223372036854775807 : Int64)) wi)), .second, .val (.long (9223372036854775807 : Int64)), .second] [(.int (1 : Int32))])
      refine own_st (fun t k => XS.goto X6.here hx rfl (pc0 := 191) (pc' := 195) rfl (hb hby at_191) (by decide) (by decide) k) ?_
      show own_Go _ _ _ _ T6 (mkF m 195 #[.val (.long q0), .second, .val (.long q1), .second, .val (.long q2), .second, .val (.int p3), .val (.int p4), .val (.long (q0 &&& (9223372036854775807 : Int64))), .second, .val (.long wi), .second, .val (.long ag), .second, .val (.int (p3 &&& (2147483647 : Int32))), .val (.int se), .val (.ref cb), .val (.ref b1), .val (.long (own_l (q0 &&& (9223372036854775807 : Int64)) wi)), .second, .val (.long (9223372036854775807 : Int64)), .second] [(.int (1 : Int32))])
      exact own_retNW X6 hS3 (by rw [e6]; exact (Nat.le_refl T3.heap.size)) hx hlk (t := .boolean) hrt (by simp) (hb hby at_195) ⟨rfl, N6⟩ (by decide) (by decide)
    ·
      refine own_st (fun t k => XS.ifYes X6.here hx rfl (pc0 := 142) (pc' := 153) rfl (hb hby at_142) rfl ((if0 _ _).trans (feq (fun q => c142_9 ((lw_eq _ _).mp q))).2) (by decide) (by decide) k) ?_
      show own_Go _ _ _ _ T6 (mkF m 153 #[.val (.long q0), .second, .val (.long q1), .second, .val (.long q2), .second, .val (.int p3), .val (.int p4), .val (.long (q0 &&& (9223372036854775807 : Int64))), .second, .val (.long wi), .second, .val (.long ag), .second, .val (.int (p3 &&& (2147483647 : Int32))), .val (.int se), .val (.ref cb), .val (.ref b1), .val (.long (own_l (q0 &&& (9223372036854775807 : Int64)) wi)), .second, .unset, .unset] [])
      refine own_st (fun t k => XS.lload X6.here hx rfl (hb hby at_153) rfl k) ?_
      show own_Go _ _ _ _ T6 (mkF m 155 #[.val (.long q0), .second, .val (.long q1), .second, .val (.long q2), .second, .val (.int p3), .val (.int p4), .val (.long (q0 &&& (9223372036854775807 : Int64))), .second, .val (.long wi), .second, .val (.long ag), .second, .val (.int (p3 &&& (2147483647 : Int32))), .val (.int se), .val (.ref cb), .val (.ref b1), .val (.long (own_l (q0 &&& (9223372036854775807 : Int64)) wi)), .second, .unset, .unset] [(.long wi)])
      refine own_st (X6.ldc2Long hx hown3 (mvT hZ3 (hw _ (List.mem_of_getElem? (i := 0) rfl))) (g := (mkF m 155 #[.val (.long q0), .second, .val (.long q1), .second, .val (.long q2), .second, .val (.int p3), .val (.int p4), .val (.long (q0 &&& (9223372036854775807 : Int64))), .second, .val (.long wi), .second, .val (.long ag), .second, .val (.int (p3 &&& (2147483647 : Int32))), .val (.int se), .val (.ref cb), .val (.ref b1), .val (.long (own_l (q0 &&& (9223372036854775807 : Int64)) wi)), .second, .unset, .unset] [(.long wi)])) rfl (hb hby at_155)) ?_
      show own_Go _ _ _ _ T6 (mkF m 158 #[.val (.long q0), .second, .val (.long q1), .second, .val (.long q2), .second, .val (.int p3), .val (.int p4), .val (.long (q0 &&& (9223372036854775807 : Int64))), .second, .val (.long wi), .second, .val (.long ag), .second, .val (.int (p3 &&& (2147483647 : Int32))), .val (.int se), .val (.ref cb), .val (.ref b1), .val (.long (own_l (q0 &&& (9223372036854775807 : Int64)) wi)), .second, .unset, .unset] [(.long (9223372036854775807 : Int64)), (.long wi)])
      refine own_st (fun t k => XS.lload X6.here hx rfl (hb hby at_158) rfl k) ?_
      show own_Go _ _ _ _ T6 (mkF m 160 #[.val (.long q0), .second, .val (.long q1), .second, .val (.long q2), .second, .val (.int p3), .val (.int p4), .val (.long (q0 &&& (9223372036854775807 : Int64))), .second, .val (.long wi), .second, .val (.long ag), .second, .val (.int (p3 &&& (2147483647 : Int32))), .val (.int se), .val (.ref cb), .val (.ref b1), .val (.long (own_l (q0 &&& (9223372036854775807 : Int64)) wi)), .second, .unset, .unset] [(.long (q0 &&& (9223372036854775807 : Int64))), (.long (9223372036854775807 : Int64)), (.long wi)])
      refine own_st (fun t k => XS.lsub X6.here hx rfl (hb hby at_160) rfl k) ?_
      show own_Go _ _ _ _ T6 (mkF m 161 #[.val (.long q0), .second, .val (.long q1), .second, .val (.long q2), .second, .val (.int p3), .val (.int p4), .val (.long (q0 &&& (9223372036854775807 : Int64))), .second, .val (.long wi), .second, .val (.long ag), .second, .val (.int (p3 &&& (2147483647 : Int32))), .val (.int se), .val (.ref cb), .val (.ref b1), .val (.long (own_l (q0 &&& (9223372036854775807 : Int64)) wi)), .second, .unset, .unset] [(.long ((9223372036854775807 : Int64) - (q0 &&& (9223372036854775807 : Int64)))), (.long wi)])
      refine own_st (fun t k => XS.lcmp X6.here hx rfl (hb hby at_161) rfl k) ?_
      show own_Go _ _ _ _ T6 (mkF m 162 #[.val (.long q0), .second, .val (.long q1), .second, .val (.long q2), .second, .val (.int p3), .val (.int p4), .val (.long (q0 &&& (9223372036854775807 : Int64))), .second, .val (.long wi), .second, .val (.long ag), .second, .val (.int (p3 &&& (2147483647 : Int32))), .val (.int se), .val (.ref cb), .val (.ref b1), .val (.long (own_l (q0 &&& (9223372036854775807 : Int64)) wi)), .second, .unset, .unset] [(.int (lcmpW wi ((9223372036854775807 : Int64) - (q0 &&& (9223372036854775807 : Int64)))))])
      by_cases c162_10 : ((9223372036854775807 : Int64) - (q0 &&& (9223372036854775807 : Int64))) < wi
      ·
        refine own_st (fun t k => XS.ifNo X6.here hx rfl (hb hby at_162) rfl ((if0 _ _).trans (tlt ((lw_gt _ _).mpr c162_10)).2.2.2) k) ?_
        show own_Go _ _ _ _ T6 (mkF m 165 #[.val (.long q0), .second, .val (.long q1), .second, .val (.long q2), .second, .val (.int p3), .val (.int p4), .val (.long (q0 &&& (9223372036854775807 : Int64))), .second, .val (.long wi), .second, .val (.long ag), .second, .val (.int (p3 &&& (2147483647 : Int32))), .val (.int se), .val (.ref cb), .val (.ref b1), .val (.long (own_l (q0 &&& (9223372036854775807 : Int64)) wi)), .second, .unset, .unset] [])
        refine own_st (X6.ldc2Long hx hown3 (mvT hZ3 (hw _ (List.mem_of_getElem? (i := 0) rfl))) (g := (mkF m 165 #[.val (.long q0), .second, .val (.long q1), .second, .val (.long q2), .second, .val (.int p3), .val (.int p4), .val (.long (q0 &&& (9223372036854775807 : Int64))), .second, .val (.long wi), .second, .val (.long ag), .second, .val (.int (p3 &&& (2147483647 : Int32))), .val (.int se), .val (.ref cb), .val (.ref b1), .val (.long (own_l (q0 &&& (9223372036854775807 : Int64)) wi)), .second, .unset, .unset] [])) rfl (hb hby at_165)) ?_
        show own_Go _ _ _ _ T6 (mkF m 168 #[.val (.long q0), .second, .val (.long q1), .second, .val (.long q2), .second, .val (.int p3), .val (.int p4), .val (.long (q0 &&& (9223372036854775807 : Int64))), .second, .val (.long wi), .second, .val (.long ag), .second, .val (.int (p3 &&& (2147483647 : Int32))), .val (.int se), .val (.ref cb), .val (.ref b1), .val (.long (own_l (q0 &&& (9223372036854775807 : Int64)) wi)), .second, .unset, .unset] [(.long (9223372036854775807 : Int64))])
        refine own_st (fun t k => XS.lstore X6.here hx rfl (hb hby at_168) rfl (l' := #[.val (.long q0), .second, .val (.long q1), .second, .val (.long q2), .second, .val (.int p3), .val (.int p4), .val (.long (q0 &&& (9223372036854775807 : Int64))), .second, .val (.long wi), .second, .val (.long ag), .second, .val (.int (p3 &&& (2147483647 : Int32))), .val (.int se), .val (.ref cb), .val (.ref b1), .val (.long (own_l (q0 &&& (9223372036854775807 : Int64)) wi)), .second, .val (.long (9223372036854775807 : Int64)), .second]) rfl k) ?_
        show own_Go _ _ _ _ T6 (mkF m 170 #[.val (.long q0), .second, .val (.long q1), .second, .val (.long q2), .second, .val (.int p3), .val (.int p4), .val (.long (q0 &&& (9223372036854775807 : Int64))), .second, .val (.long wi), .second, .val (.long ag), .second, .val (.int (p3 &&& (2147483647 : Int32))), .val (.int se), .val (.ref cb), .val (.ref b1), .val (.long (own_l (q0 &&& (9223372036854775807 : Int64)) wi)), .second, .val (.long (9223372036854775807 : Int64)), .second] [])
        refine own_st (fun t k => XS.goto X6.here hx rfl (pc0 := 170) (pc' := 182) rfl (hb hby at_170) (by decide) (by decide) k) ?_
        show own_Go _ _ _ _ T6 (mkF m 182 #[.val (.long q0), .second, .val (.long q1), .second, .val (.long q2), .second, .val (.int p3), .val (.int p4), .val (.long (q0 &&& (9223372036854775807 : Int64))), .second, .val (.long wi), .second, .val (.long ag), .second, .val (.int (p3 &&& (2147483647 : Int32))), .val (.int se), .val (.ref cb), .val (.ref b1), .val (.long (own_l (q0 &&& (9223372036854775807 : Int64)) wi)), .second, .val (.long (9223372036854775807 : Int64)), .second] [])
        refine own_st (fun t k => XS.lload X6.here hx rfl (hb hby at_182) rfl k) ?_
        show own_Go _ _ _ _ T6 (mkF m 184 #[.val (.long q0), .second, .val (.long q1), .second, .val (.long q2), .second, .val (.int p3), .val (.int p4), .val (.long (q0 &&& (9223372036854775807 : Int64))), .second, .val (.long wi), .second, .val (.long ag), .second, .val (.int (p3 &&& (2147483647 : Int32))), .val (.int se), .val (.ref cb), .val (.ref b1), .val (.long (own_l (q0 &&& (9223372036854775807 : Int64)) wi)), .second, .val (.long (9223372036854775807 : Int64)), .second] [(.long (own_l (q0 &&& (9223372036854775807 : Int64)) wi))])
        refine own_st (fun t k => XS.lload X6.here hx rfl (hb hby at_184) rfl k) ?_
        show own_Go _ _ _ _ T6 (mkF m 186 #[.val (.long q0), .second, .val (.long q1), .second, .val (.long q2), .second, .val (.int p3), .val (.int p4), .val (.long (q0 &&& (9223372036854775807 : Int64))), .second, .val (.long wi), .second, .val (.long ag), .second, .val (.int (p3 &&& (2147483647 : Int32))), .val (.int se), .val (.ref cb), .val (.ref b1), .val (.long (own_l (q0 &&& (9223372036854775807 : Int64)) wi)), .second, .val (.long (9223372036854775807 : Int64)), .second] [(.long (9223372036854775807 : Int64)), (.long (own_l (q0 &&& (9223372036854775807 : Int64)) wi))])
        refine own_st (fun t k => XS.lcmp X6.here hx rfl (hb hby at_186) rfl k) ?_
        show own_Go _ _ _ _ T6 (mkF m 187 #[.val (.long q0), .second, .val (.long q1), .second, .val (.long q2), .second, .val (.int p3), .val (.int p4), .val (.long (q0 &&& (9223372036854775807 : Int64))), .second, .val (.long wi), .second, .val (.long ag), .second, .val (.int (p3 &&& (2147483647 : Int32))), .val (.int se), .val (.ref cb), .val (.ref b1), .val (.long (own_l (q0 &&& (9223372036854775807 : Int64)) wi)), .second, .val (.long (9223372036854775807 : Int64)), .second] [(.int (lcmpW (own_l (q0 &&& (9223372036854775807 : Int64)) wi) (9223372036854775807 : Int64)))])
        refine own_st (fun t k => XS.ifNo X6.here hx rfl (hb hby at_187) rfl ((if0 _ _).trans (teq ((lw_eq _ _).mpr (own_l_big c142_9 hwi (own_pos _) c162_10 : (own_l (q0 &&& (9223372036854775807 : Int64)) wi) = (9223372036854775807 : Int64)))).2) k) ?_
        show own_Go _ _ _ _ T6 (mkF m 190 #[.val (.long q0), .second, .val (.long q1), .second, .val (.long q2), .second, .val (.int p3), .val (.int p4), .val (.long (q0 &&& (9223372036854775807 : Int64))), .second, .val (.long wi), .second, .val (.long ag), .second, .val (.int (p3 &&& (2147483647 : Int32))), .val (.int se), .val (.ref cb), .val (.ref b1), .val (.long (own_l (q0 &&& (9223372036854775807 : Int64)) wi)), .second, .val (.long (9223372036854775807 : Int64)), .second] [])
        refine own_st (fun t k => XS.iconst X6.here hx rfl (hb hby at_190) k) ?_
        show own_Go _ _ _ _ T6 (mkF m 191 #[.val (.long q0), .second, .val (.long q1), .second, .val (.long q2), .second, .val (.int p3), .val (.int p4), .val (.long (q0 &&& (9223372036854775807 : Int64))), .second, .val (.long wi), .second, .val (.long ag), .second, .val (.int (p3 &&& (2147483647 : Int32))), .val (.int se), .val (.ref cb), .val (.ref b1), .val (.long (own_l (q0 &&& (9223372036854775807 : Int64)) wi)), .second, .val (.long (9223372036854775807 : Int64)), .second] [(.int (1 : Int32))])
        refine own_st (fun t k => XS.goto X6.here hx rfl (pc0 := 191) (pc' := 195) rfl (hb hby at_191) (by decide) (by decide) k) ?_
        show own_Go _ _ _ _ T6 (mkF m 195 #[.val (.long q0), .second, .val (.long q1), .second, .val (.long q2), .second, .val (.int p3), .val (.int p4), .val (.long (q0 &&& (9223372036854775807 : Int64))), .second, .val (.long wi), .second, .val (.long ag), .second, .val (.int (p3 &&& (2147483647 : Int32))), .val (.int se), .val (.ref cb), .val (.ref b1), .val (.long (own_l (q0 &&& (9223372036854775807 : Int64)) wi)), .second, .val (.long (9223372036854775807 : Int64)), .second] [(.int (1 : Int32))])
        exact own_retNW X6 hS3 (by rw [e6]; exact (Nat.le_refl T3.heap.size)) hx hlk (t := .boolean) hrt (by simp) (hb hby at_195) ⟨rfl, N6⟩ (by decide) (by decide)
      ·
        refine own_st (fun t k => XS.ifYes X6.here hx rfl (pc0 := 162) (pc' := 173) rfl (hb hby at_162) rfl ((if0 _ _).trans (flt (fun q => c162_10 ((lw_gt _ _).mp q))).2.2.2) (by decide) (by decide) k) ?_
        show own_Go _ _ _ _ T6 (mkF m 173 #[.val (.long q0), .second, .val (.long q1), .second, .val (.long q2), .second, .val (.int p3), .val (.int p4), .val (.long (q0 &&& (9223372036854775807 : Int64))), .second, .val (.long wi), .second, .val (.long ag), .second, .val (.int (p3 &&& (2147483647 : Int32))), .val (.int se), .val (.ref cb), .val (.ref b1), .val (.long (own_l (q0 &&& (9223372036854775807 : Int64)) wi)), .second, .unset, .unset] [])
        refine own_st (fun t k => XS.lload X6.here hx rfl (hb hby at_173) rfl k) ?_
        show own_Go _ _ _ _ T6 (mkF m 175 #[.val (.long q0), .second, .val (.long q1), .second, .val (.long q2), .second, .val (.int p3), .val (.int p4), .val (.long (q0 &&& (9223372036854775807 : Int64))), .second, .val (.long wi), .second, .val (.long ag), .second, .val (.int (p3 &&& (2147483647 : Int32))), .val (.int se), .val (.ref cb), .val (.ref b1), .val (.long (own_l (q0 &&& (9223372036854775807 : Int64)) wi)), .second, .unset, .unset] [(.long (q0 &&& (9223372036854775807 : Int64)))])
        refine own_st (fun t k => XS.lload X6.here hx rfl (hb hby at_175) rfl k) ?_
        show own_Go _ _ _ _ T6 (mkF m 177 #[.val (.long q0), .second, .val (.long q1), .second, .val (.long q2), .second, .val (.int p3), .val (.int p4), .val (.long (q0 &&& (9223372036854775807 : Int64))), .second, .val (.long wi), .second, .val (.long ag), .second, .val (.int (p3 &&& (2147483647 : Int32))), .val (.int se), .val (.ref cb), .val (.ref b1), .val (.long (own_l (q0 &&& (9223372036854775807 : Int64)) wi)), .second, .unset, .unset] [(.long wi), (.long (q0 &&& (9223372036854775807 : Int64)))])
        refine own_st (fun t k => XS.lconst X6.here hx rfl (hb hby at_177) k) ?_
        show own_Go _ _ _ _ T6 (mkF m 178 #[.val (.long q0), .second, .val (.long q1), .second, .val (.long q2), .second, .val (.int p3), .val (.int p4), .val (.long (q0 &&& (9223372036854775807 : Int64))), .second, .val (.long wi), .second, .val (.long ag), .second, .val (.int (p3 &&& (2147483647 : Int32))), .val (.int se), .val (.ref cb), .val (.ref b1), .val (.long (own_l (q0 &&& (9223372036854775807 : Int64)) wi)), .second, .unset, .unset] [(.long (1 : Int64)), (.long wi), (.long (q0 &&& (9223372036854775807 : Int64)))])
        refine own_st (fun t k => XS.lsub X6.here hx rfl (hb hby at_178) rfl k) ?_
        show own_Go _ _ _ _ T6 (mkF m 179 #[.val (.long q0), .second, .val (.long q1), .second, .val (.long q2), .second, .val (.int p3), .val (.int p4), .val (.long (q0 &&& (9223372036854775807 : Int64))), .second, .val (.long wi), .second, .val (.long ag), .second, .val (.int (p3 &&& (2147483647 : Int32))), .val (.int se), .val (.ref cb), .val (.ref b1), .val (.long (own_l (q0 &&& (9223372036854775807 : Int64)) wi)), .second, .unset, .unset] [(.long (wi - (1 : Int64))), (.long (q0 &&& (9223372036854775807 : Int64)))])
        refine own_st (fun t k => XS.ladd X6.here hx rfl (hb hby at_179) rfl k) ?_
        show own_Go _ _ _ _ T6 (mkF m 180 #[.val (.long q0), .second, .val (.long q1), .second, .val (.long q2), .second, .val (.int p3), .val (.int p4), .val (.long (q0 &&& (9223372036854775807 : Int64))), .second, .val (.long wi), .second, .val (.long ag), .second, .val (.int (p3 &&& (2147483647 : Int32))), .val (.int se), .val (.ref cb), .val (.ref b1), .val (.long (own_l (q0 &&& (9223372036854775807 : Int64)) wi)), .second, .unset, .unset] [(.long ((q0 &&& (9223372036854775807 : Int64)) + (wi - (1 : Int64))))])
        refine own_st (fun t k => XS.lstore X6.here hx rfl (hb hby at_180) rfl (l' := #[.val (.long q0), .second, .val (.long q1), .second, .val (.long q2), .second, .val (.int p3), .val (.int p4), .val (.long (q0 &&& (9223372036854775807 : Int64))), .second, .val (.long wi), .second, .val (.long ag), .second, .val (.int (p3 &&& (2147483647 : Int32))), .val (.int se), .val (.ref cb), .val (.ref b1), .val (.long (own_l (q0 &&& (9223372036854775807 : Int64)) wi)), .second, .val (.long ((q0 &&& (9223372036854775807 : Int64)) + (wi - (1 : Int64)))), .second]) rfl k) ?_
        show own_Go _ _ _ _ T6 (mkF m 182 #[.val (.long q0), .second, .val (.long q1), .second, .val (.long q2), .second, .val (.int p3), .val (.int p4), .val (.long (q0 &&& (9223372036854775807 : Int64))), .second, .val (.long wi), .second, .val (.long ag), .second, .val (.int (p3 &&& (2147483647 : Int32))), .val (.int se), .val (.ref cb), .val (.ref b1), .val (.long (own_l (q0 &&& (9223372036854775807 : Int64)) wi)), .second, .val (.long ((q0 &&& (9223372036854775807 : Int64)) + (wi - (1 : Int64)))), .second] [])
        refine own_st (fun t k => XS.lload X6.here hx rfl (hb hby at_182) rfl k) ?_
        show own_Go _ _ _ _ T6 (mkF m 184 #[.val (.long q0), .second, .val (.long q1), .second, .val (.long q2), .second, .val (.int p3), .val (.int p4), .val (.long (q0 &&& (9223372036854775807 : Int64))), .second, .val (.long wi), .second, .val (.long ag), .second, .val (.int (p3 &&& (2147483647 : Int32))), .val (.int se), .val (.ref cb), .val (.ref b1), .val (.long (own_l (q0 &&& (9223372036854775807 : Int64)) wi)), .second, .val (.long ((q0 &&& (9223372036854775807 : Int64)) + (wi - (1 : Int64)))), .second] [(.long (own_l (q0 &&& (9223372036854775807 : Int64)) wi))])
        refine own_st (fun t k => XS.lload X6.here hx rfl (hb hby at_184) rfl k) ?_
        show own_Go _ _ _ _ T6 (mkF m 186 #[.val (.long q0), .second, .val (.long q1), .second, .val (.long q2), .second, .val (.int p3), .val (.int p4), .val (.long (q0 &&& (9223372036854775807 : Int64))), .second, .val (.long wi), .second, .val (.long ag), .second, .val (.int (p3 &&& (2147483647 : Int32))), .val (.int se), .val (.ref cb), .val (.ref b1), .val (.long (own_l (q0 &&& (9223372036854775807 : Int64)) wi)), .second, .val (.long ((q0 &&& (9223372036854775807 : Int64)) + (wi - (1 : Int64)))), .second] [(.long ((q0 &&& (9223372036854775807 : Int64)) + (wi - (1 : Int64)))), (.long (own_l (q0 &&& (9223372036854775807 : Int64)) wi))])
        refine own_st (fun t k => XS.lcmp X6.here hx rfl (hb hby at_186) rfl k) ?_
        show own_Go _ _ _ _ T6 (mkF m 187 #[.val (.long q0), .second, .val (.long q1), .second, .val (.long q2), .second, .val (.int p3), .val (.int p4), .val (.long (q0 &&& (9223372036854775807 : Int64))), .second, .val (.long wi), .second, .val (.long ag), .second, .val (.int (p3 &&& (2147483647 : Int32))), .val (.int se), .val (.ref cb), .val (.ref b1), .val (.long (own_l (q0 &&& (9223372036854775807 : Int64)) wi)), .second, .val (.long ((q0 &&& (9223372036854775807 : Int64)) + (wi - (1 : Int64)))), .second] [(.int (lcmpW (own_l (q0 &&& (9223372036854775807 : Int64)) wi) ((q0 &&& (9223372036854775807 : Int64)) + (wi - (1 : Int64)))))])
        refine own_st (fun t k => XS.ifNo X6.here hx rfl (hb hby at_187) rfl ((if0 _ _).trans (teq ((lw_eq _ _).mpr (own_l_small c142_9 hwi (own_pos _) c162_10 : (own_l (q0 &&& (9223372036854775807 : Int64)) wi) = ((q0 &&& (9223372036854775807 : Int64)) + (wi - (1 : Int64)))))).2) k) ?_
        show own_Go _ _ _ _ T6 (mkF m 190 #[.val (.long q0), .second, .val (.long q1), .second, .val (.long q2), .second, .val (.int p3), .val (.int p4), .val (.long (q0 &&& (9223372036854775807 : Int64))), .second, .val (.long wi), .second, .val (.long ag), .second, .val (.int (p3 &&& (2147483647 : Int32))), .val (.int se), .val (.ref cb), .val (.ref b1), .val (.long (own_l (q0 &&& (9223372036854775807 : Int64)) wi)), .second, .val (.long ((q0 &&& (9223372036854775807 : Int64)) + (wi - (1 : Int64)))), .second] [])
        refine own_st (fun t k => XS.iconst X6.here hx rfl (hb hby at_190) k) ?_
        show own_Go _ _ _ _ T6 (mkF m 191 #[.val (.long q0), .second, .val (.long q1), .second, .val (.long q2), .second, .val (.int p3), .val (.int p4), .val (.long (q0 &&& (9223372036854775807 : Int64))), .second, .val (.long wi), .second, .val (.long ag), .second, .val (.int (p3 &&& (2147483647 : Int32))), .val (.int se), .val (.ref cb), .val (.ref b1), .val (.long (own_l (q0 &&& (9223372036854775807 : Int64)) wi)), .second, .val (.long ((q0 &&& (9223372036854775807 : Int64)) + (wi - (1 : Int64)))), .second] [(.int (1 : Int32))])
        refine own_st (fun t k => XS.goto X6.here hx rfl (pc0 := 191) (pc' := 195) rfl (hb hby at_191) (by decide) (by decide) k) ?_
        show own_Go _ _ _ _ T6 (mkF m 195 #[.val (.long q0), .second, .val (.long q1), .second, .val (.long q2), .second, .val (.int p3), .val (.int p4), .val (.long (q0 &&& (9223372036854775807 : Int64))), .second, .val (.long wi), .second, .val (.long ag), .second, .val (.int (p3 &&& (2147483647 : Int32))), .val (.int se), .val (.ref cb), .val (.ref b1), .val (.long (own_l (q0 &&& (9223372036854775807 : Int64)) wi)), .second, .val (.long ((q0 &&& (9223372036854775807 : Int64)) + (wi - (1 : Int64)))), .second] [(.int (1 : Int32))])
        exact own_retNW X6 hS3 (by rw [e6]; exact (Nat.le_refl T3.heap.size)) hx hlk (t := .boolean) hrt (by simp) (hb hby at_195) ⟨rfl, N6⟩ (by decide) (by decide)
  have JG80 : ∀ (wi : Int64) (ag : Int64) (se : Int32), (¬ (wi < (0 : Int64))) → (¬ (ag < (0 : Int64))) → (se = (0 : Int32) ∨ (¬ ((0 : Int64) < ag) ∧ ¬ ((0 : Int64) < wi))) → own_Go p.tables e below (own_FinW below s (Q0 Z q0 q1 q2 p3 p4 al an h0 n0) 3 37) s₁ (mkF m 80 #[.val (.long q0), .second, .val (.long q1), .second, .val (.long q2), .second, .val (.int p3), .val (.int p4), .val (.long (q0 &&& (9223372036854775807 : Int64))), .second, .val (.long wi), .second, .val (.long ag), .second, .val (.int (p3 &&& (2147483647 : Int32))), .val (.int se), .unset, .unset, .unset, .unset, .unset, .unset] []) := by
    intro wi ag se  hwi hag hse
    show own_Go _ _ _ _ s₁ (mkF m 80 #[.val (.long q0), .second, .val (.long q1), .second, .val (.long q2), .second, .val (.int p3), .val (.int p4), .val (.long (q0 &&& (9223372036854775807 : Int64))), .second, .val (.long wi), .second, .val (.long ag), .second, .val (.int (p3 &&& (2147483647 : Int32))), .val (.int se), .unset, .unset, .unset, .unset, .unset, .unset] [])
    refine own_st (fun t k => XS.iload X0.here hx rfl (hb hby at_80) rfl k) ?_
    show own_Go _ _ _ _ s₁ (mkF m 82 #[.val (.long q0), .second, .val (.long q1), .second, .val (.long q2), .second, .val (.int p3), .val (.int p4), .val (.long (q0 &&& (9223372036854775807 : Int64))), .second, .val (.long wi), .second, .val (.long ag), .second, .val (.int (p3 &&& (2147483647 : Int32))), .val (.int se), .unset, .unset, .unset, .unset, .unset, .unset] [(.int p4)])
    refine own_st (fun t k => XS.iconst X0.here hx rfl (hb hby at_82) k) ?_
    show own_Go _ _ _ _ s₁ (mkF m 83 #[.val (.long q0), .second, .val (.long q1), .second, .val (.long q2), .second, .val (.int p3), .val (.int p4), .val (.long (q0 &&& (9223372036854775807 : Int64))), .second, .val (.long wi), .second, .val (.long ag), .second, .val (.int (p3 &&& (2147483647 : Int32))), .val (.int se), .unset, .unset, .unset, .unset, .unset, .unset] [(.int (2 : Int32)), (.int p4)])
    refine own_st (fun t k => XS.iand X0.here hx rfl (hb hby at_83) rfl k) ?_
    show own_Go _ _ _ _ s₁ (mkF m 84 #[.val (.long q0), .second, .val (.long q1), .second, .val (.long q2), .second, .val (.int p3), .val (.int p4), .val (.long (q0 &&& (9223372036854775807 : Int64))), .second, .val (.long wi), .second, .val (.long ag), .second, .val (.int (p3 &&& (2147483647 : Int32))), .val (.int se), .unset, .unset, .unset, .unset, .unset, .unset] [(.int (p4 &&& (2 : Int32)))])
    by_cases c84_11 : (p4 &&& (2 : Int32)) = (0 : Int32)
    ·
      refine own_st (fun t k => XS.ifYes X0.here hx rfl (pc0 := 84) (pc' := 105) rfl (hb hby at_84) rfl ((if0 _ _).trans (teq c84_11).1) (by decide) (by decide) k) ?_
      show own_Go _ _ _ _ s₁ (mkF m 105 #[.val (.long q0), .second, .val (.long q1), .second, .val (.long q2), .second, .val (.int p3), .val (.int p4), .val (.long (q0 &&& (9223372036854775807 : Int64))), .second, .val (.long wi), .second, .val (.long ag), .second, .val (.int (p3 &&& (2147483647 : Int32))), .val (.int se), .unset, .unset, .unset, .unset, .unset, .unset] [])
      obtain ⟨T12, X12, e12, st12⟩ := getS2 X0 hx hZ hown (host := "") (Or.inl (hw _ (List.mem_of_getElem? (i := 48) rfl))) Via.refl e0 S_ANY (g := (mkF m 105 #[.val (.long q0), .second, .val (.long q1), .second, .val (.long q2), .second, .val (.int p3), .val (.int p4), .val (.long (q0 &&& (9223372036854775807 : Int64))), .second, .val (.long wi), .second, .val (.long ag), .second, .val (.int (p3 &&& (2147483647 : Int32))), .val (.int se), .unset, .unset, .unset, .unset, .unset, .unset] [])) rfl (hb hby at_105)
      refine own_st st12 ?_
      show own_Go _ _ _ _ T12 (mkF m 108 #[.val (.long q0), .second, .val (.long q1), .second, .val (.long q2), .second, .val (.int p3), .val (.int p4), .val (.long (q0 &&& (9223372036854775807 : Int64))), .second, .val (.long wi), .second, .val (.long ag), .second, .val (.int (p3 &&& (2147483647 : Int32))), .val (.int se), .unset, .unset, .unset, .unset, .unset, .unset] [(.ref an)])
      refine own_st (fun t k => XS.astore X12.here hx rfl (hb hby at_108) rfl rfl (l' := #[.val (.long q0), .second, .val (.long q1), .second, .val (.long q2), .second, .val (.int p3), .val (.int p4), .val (.long (q0 &&& (9223372036854775807 : Int64))), .second, .val (.long wi), .second, .val (.long ag), .second, .val (.int (p3 &&& (2147483647 : Int32))), .val (.int se), .val (.ref an), .unset, .unset, .unset, .unset, .unset]) rfl k) ?_
      show own_Go _ _ _ _ T12 (mkF m 110 #[.val (.long q0), .second, .val (.long q1), .second, .val (.long q2), .second, .val (.int p3), .val (.int p4), .val (.long (q0 &&& (9223372036854775807 : Int64))), .second, .val (.long wi), .second, .val (.long ag), .second, .val (.int (p3 &&& (2147483647 : Int32))), .val (.int se), .val (.ref an), .unset, .unset, .unset, .unset, .unset] [])
      exact JG110 wi ag se an T12 X12 e12 hwi hag hse (fun q => absurd q.symm nal)
    ·
      refine own_st (fun t k => XS.ifNo X0.here hx rfl (hb hby at_84) rfl ((if0 _ _).trans (feq c84_11).1) k) ?_
      show own_Go _ _ _ _ s₁ (mkF m 87 #[.val (.long q0), .second, .val (.long q1), .second, .val (.long q2), .second, .val (.int p3), .val (.int p4), .val (.long (q0 &&& (9223372036854775807 : Int64))), .second, .val (.long wi), .second, .val (.long ag), .second, .val (.int (p3 &&& (2147483647 : Int32))), .val (.int se), .unset, .unset, .unset, .unset, .unset, .unset] [])
      refine own_st (fun t k => XS.iload X0.here hx rfl (hb hby at_87) rfl k) ?_
      show own_Go _ _ _ _ s₁ (mkF m 89 #[.val (.long q0), .second, .val (.long q1), .second, .val (.long q2), .second, .val (.int p3), .val (.int p4), .val (.long (q0 &&& (9223372036854775807 : Int64))), .second, .val (.long wi), .second, .val (.long ag), .second, .val (.int (p3 &&& (2147483647 : Int32))), .val (.int se), .unset, .unset, .unset, .unset, .unset, .unset] [(.int (p3 &&& (2147483647 : Int32)))])
      by_cases c89_13 : (0 : Int32) < (p3 &&& (2147483647 : Int32))
      ·
        refine own_st (fun t k => XS.ifNo X0.here hx rfl (hb hby at_89) rfl ((if0 _ _).trans (tlt c89_13).2.2.2) k) ?_
        show own_Go _ _ _ _ s₁ (mkF m 92 #[.val (.long q0), .second, .val (.long q1), .second, .val (.long q2), .second, .val (.int p3), .val (.int p4), .val (.long (q0 &&& (9223372036854775807 : Int64))), .second, .val (.long wi), .second, .val (.long ag), .second, .val (.int (p3 &&& (2147483647 : Int32))), .val (.int se), .unset, .unset, .unset, .unset, .unset, .unset] [])
        refine own_st (fun t k => XS.lload X0.here hx rfl (hb hby at_92) rfl k) ?_
        show own_Go _ _ _ _ s₁ (mkF m 94 #[.val (.long q0), .second, .val (.long q1), .second, .val (.long q2), .second, .val (.int p3), .val (.int p4), .val (.long (q0 &&& (9223372036854775807 : Int64))), .second, .val (.long wi), .second, .val (.long ag), .second, .val (.int (p3 &&& (2147483647 : Int32))), .val (.int se), .unset, .unset, .unset, .unset, .unset, .unset] [(.long ag)])
        refine own_st (fun t k => XS.lconst X0.here hx rfl (hb hby at_94) k) ?_
        show own_Go _ _ _ _ s₁ (mkF m 95 #[.val (.long q0), .second, .val (.long q1), .second, .val (.long q2), .second, .val (.int p3), .val (.int p4), .val (.long (q0 &&& (9223372036854775807 : Int64))), .second, .val (.long wi), .second, .val (.long ag), .second, .val (.int (p3 &&& (2147483647 : Int32))), .val (.int se), .unset, .unset, .unset, .unset, .unset, .unset] [(.long (0 : Int64)), (.long ag)])
        refine own_st (fun t k => XS.lcmp X0.here hx rfl (hb hby at_95) rfl k) ?_
        show own_Go _ _ _ _ s₁ (mkF m 96 #[.val (.long q0), .second, .val (.long q1), .second, .val (.long q2), .second, .val (.int p3), .val (.int p4), .val (.long (q0 &&& (9223372036854775807 : Int64))), .second, .val (.long wi), .second, .val (.long ag), .second, .val (.int (p3 &&& (2147483647 : Int32))), .val (.int se), .unset, .unset, .unset, .unset, .unset, .unset] [(.int (lcmpW ag (0 : Int64)))])
        by_cases c96_14 : (0 : Int64) < ag
        ·
          refine own_st (fun t k => XS.ifNo X0.here hx rfl (hb hby at_96) rfl ((if0 _ _).trans (tlt ((lw_gt _ _).mpr c96_14)).2.2.2) k) ?_
          show own_Go _ _ _ _ s₁ (mkF m 99 #[.val (.long q0), .second, .val (.long q1), .second, .val (.long q2), .second, .val (.int p3), .val (.int p4), .val (.long (q0 &&& (9223372036854775807 : Int64))), .second, .val (.long wi), .second, .val (.long ag), .second, .val (.int (p3 &&& (2147483647 : Int32))), .val (.int se), .unset, .unset, .unset, .unset, .unset, .unset] [])
          obtain ⟨T15, X15, e15, st15⟩ := getS2 X0 hx hZ hown (host := "") (Or.inl (hw _ (List.mem_of_getElem? (i := 2) rfl))) Via.refl e0 S_ALL (g := (mkF m 99 #[.val (.long q0), .second, .val (.long q1), .second, .val (.long q2), .second, .val (.int p3), .val (.int p4), .val (.long (q0 &&& (9223372036854775807 : Int64))), .second, .val (.long wi), .second, .val (.long ag), .second, .val (.int (p3 &&& (2147483647 : Int32))), .val (.int se), .unset, .unset, .unset, .unset, .unset, .unset] [])) rfl (hb hby at_99)
          refine own_st st15 ?_
          show own_Go _ _ _ _ T15 (mkF m 102 #[.val (.long q0), .second, .val (.long q1), .second, .val (.long q2), .second, .val (.int p3), .val (.int p4), .val (.long (q0 &&& (9223372036854775807 : Int64))), .second, .val (.long wi), .second, .val (.long ag), .second, .val (.int (p3 &&& (2147483647 : Int32))), .val (.int se), .unset, .unset, .unset, .unset, .unset, .unset] [(.ref al)])
          refine own_st (fun t k => XS.goto X15.here hx rfl (pc0 := 102) (pc' := 108) rfl (hb hby at_102) (by decide) (by decide) k) ?_
          show own_Go _ _ _ _ T15 (mkF m 108 #[.val (.long q0), .second, .val (.long q1), .second, .val (.long q2), .second, .val (.int p3), .val (.int p4), .val (.long (q0 &&& (9223372036854775807 : Int64))), .second, .val (.long wi), .second, .val (.long ag), .second, .val (.int (p3 &&& (2147483647 : Int32))), .val (.int se), .unset, .unset, .unset, .unset, .unset, .unset] [(.ref al)])
          refine own_st (fun t k => XS.astore X15.here hx rfl (hb hby at_108) rfl rfl (l' := #[.val (.long q0), .second, .val (.long q1), .second, .val (.long q2), .second, .val (.int p3), .val (.int p4), .val (.long (q0 &&& (9223372036854775807 : Int64))), .second, .val (.long wi), .second, .val (.long ag), .second, .val (.int (p3 &&& (2147483647 : Int32))), .val (.int se), .val (.ref al), .unset, .unset, .unset, .unset, .unset]) rfl k) ?_
          show own_Go _ _ _ _ T15 (mkF m 110 #[.val (.long q0), .second, .val (.long q1), .second, .val (.long q2), .second, .val (.int p3), .val (.int p4), .val (.long (q0 &&& (9223372036854775807 : Int64))), .second, .val (.long wi), .second, .val (.long ag), .second, .val (.int (p3 &&& (2147483647 : Int32))), .val (.int se), .val (.ref al), .unset, .unset, .unset, .unset, .unset] [])
          exact JG110 wi ag se al T15 X15 e15 hwi hag hse (fun _ => ⟨own_pn c89_13, own_pl c96_14⟩)
        ·
          refine own_st (fun t k => XS.ifYes X0.here hx rfl (pc0 := 96) (pc' := 105) rfl (hb hby at_96) rfl ((if0 _ _).trans (flt (fun q => c96_14 ((lw_gt _ _).mp q))).2.2.2) (by decide) (by decide) k) ?_
          show own_Go _ _ _ _ s₁ (mkF m 105 #[.val (.long q0), .second, .val (.long q1), .second, .val (.long q2), .second, .val (.int p3), .val (.int p4), .val (.long (q0 &&& (9223372036854775807 : Int64))), .second, .val (.long wi), .second, .val (.long ag), .second, .val (.int (p3 &&& (2147483647 : Int32))), .val (.int se), .unset, .unset, .unset, .unset, .unset, .unset] [])
          obtain ⟨T16, X16, e16, st16⟩ := getS2 X0 hx hZ hown (host := "") (Or.inl (hw _ (List.mem_of_getElem? (i := 48) rfl))) Via.refl e0 S_ANY (g := (mkF m 105 #[.val (.long q0), .second, .val (.long q1), .second, .val (.long q2), .second, .val (.int p3), .val (.int p4), .val (.long (q0 &&& (9223372036854775807 : Int64))), .second, .val (.long wi), .second, .val (.long ag), .second, .val (.int (p3 &&& (2147483647 : Int32))), .val (.int se), .unset, .unset, .unset, .unset, .unset, .unset] [])) rfl (hb hby at_105)
          refine own_st st16 ?_
          show own_Go _ _ _ _ T16 (mkF m 108 #[.val (.long q0), .second, .val (.long q1), .second, .val (.long q2), .second, .val (.int p3), .val (.int p4), .val (.long (q0 &&& (9223372036854775807 : Int64))), .second, .val (.long wi), .second, .val (.long ag), .second, .val (.int (p3 &&& (2147483647 : Int32))), .val (.int se), .unset, .unset, .unset, .unset, .unset, .unset] [(.ref an)])
          refine own_st (fun t k => XS.astore X16.here hx rfl (hb hby at_108) rfl rfl (l' := #[.val (.long q0), .second, .val (.long q1), .second, .val (.long q2), .second, .val (.int p3), .val (.int p4), .val (.long (q0 &&& (9223372036854775807 : Int64))), .second, .val (.long wi), .second, .val (.long ag), .second, .val (.int (p3 &&& (2147483647 : Int32))), .val (.int se), .val (.ref an), .unset, .unset, .unset, .unset, .unset]) rfl k) ?_
          show own_Go _ _ _ _ T16 (mkF m 110 #[.val (.long q0), .second, .val (.long q1), .second, .val (.long q2), .second, .val (.int p3), .val (.int p4), .val (.long (q0 &&& (9223372036854775807 : Int64))), .second, .val (.long wi), .second, .val (.long ag), .second, .val (.int (p3 &&& (2147483647 : Int32))), .val (.int se), .val (.ref an), .unset, .unset, .unset, .unset, .unset] [])
          exact JG110 wi ag se an T16 X16 e16 hwi hag hse (fun q => absurd q.symm nal)
      ·
        refine own_st (fun t k => XS.ifYes X0.here hx rfl (pc0 := 89) (pc' := 105) rfl (hb hby at_89) rfl ((if0 _ _).trans (flt c89_13).2.2.2) (by decide) (by decide) k) ?_
        show own_Go _ _ _ _ s₁ (mkF m 105 #[.val (.long q0), .second, .val (.long q1), .second, .val (.long q2), .second, .val (.int p3), .val (.int p4), .val (.long (q0 &&& (9223372036854775807 : Int64))), .second, .val (.long wi), .second, .val (.long ag), .second, .val (.int (p3 &&& (2147483647 : Int32))), .val (.int se), .unset, .unset, .unset, .unset, .unset, .unset] [])
        obtain ⟨T17, X17, e17, st17⟩ := getS2 X0 hx hZ hown (host := "") (Or.inl (hw _ (List.mem_of_getElem? (i := 48) rfl))) Via.refl e0 S_ANY (g := (mkF m 105 #[.val (.long q0), .second, .val (.long q1), .second, .val (.long q2), .second, .val (.int p3), .val (.int p4), .val (.long (q0 &&& (9223372036854775807 : Int64))), .second, .val (.long wi), .second, .val (.long ag), .second, .val (.int (p3 &&& (2147483647 : Int32))), .val (.int se), .unset, .unset, .unset, .unset, .unset, .unset] [])) rfl (hb hby at_105)
        refine own_st st17 ?_
        show own_Go _ _ _ _ T17 (mkF m 108 #[.val (.long q0), .second, .val (.long q1), .second, .val (.long q2), .second, .val (.int p3), .val (.int p4), .val (.long (q0 &&& (9223372036854775807 : Int64))), .second, .val (.long wi), .second, .val (.long ag), .second, .val (.int (p3 &&& (2147483647 : Int32))), .val (.int se), .unset, .unset, .unset, .unset, .unset, .unset] [(.ref an)])
        refine own_st (fun t k => XS.astore X17.here hx rfl (hb hby at_108) rfl rfl (l' := #[.val (.long q0), .second, .val (.long q1), .second, .val (.long q2), .second, .val (.int p3), .val (.int p4), .val (.long (q0 &&& (9223372036854775807 : Int64))), .second, .val (.long wi), .second, .val (.long ag), .second, .val (.int (p3 &&& (2147483647 : Int32))), .val (.int se), .val (.ref an), .unset, .unset, .unset, .unset, .unset]) rfl k) ?_
        show own_Go _ _ _ _ T17 (mkF m 110 #[.val (.long q0), .second, .val (.long q1), .second, .val (.long q2), .second, .val (.int p3), .val (.int p4), .val (.long (q0 &&& (9223372036854775807 : Int64))), .second, .val (.long wi), .second, .val (.long ag), .second, .val (.int (p3 &&& (2147483647 : Int32))), .val (.int se), .val (.ref an), .unset, .unset, .unset, .unset, .unset] [])
        exact JG110 wi ag se an T17 X17 e17 hwi hag hse (fun q => absurd q.symm nal)
  have JG52 : ∀ (wi : Int64) (ag : Int64), (¬ (wi < (0 : Int64))) → (¬ (ag < (0 : Int64))) → own_Go p.tables e below (own_FinW below s (Q0 Z q0 q1 q2 p3 p4 al an h0 n0) 3 37) s₁ (mkF m 52 #[.val (.long q0), .second, .val (.long q1), .second, .val (.long q2), .second, .val (.int p3), .val (.int p4), .val (.long (q0 &&& (9223372036854775807 : Int64))), .second, .val (.long wi), .second, .val (.long ag), .second, .val (.int (p3 &&& (2147483647 : Int32))), .unset, .unset, .unset, .unset, .unset, .unset, .unset] []) := by
    intro wi ag  hwi hag
    show own_Go _ _ _ _ s₁ (mkF m 52 #[.val (.long q0), .second, .val (.long q1), .second, .val (.long q2), .second, .val (.int p3), .val (.int p4), .val (.long (q0 &&& (9223372036854775807 : Int64))), .second, .val (.long wi), .second, .val (.long ag), .second, .val (.int (p3 &&& (2147483647 : Int32))), .unset, .unset, .unset, .unset, .unset, .unset, .unset] [])
    refine own_st (fun t k => XS.iload X0.here hx rfl (hb hby at_52) rfl k) ?_
    show own_Go _ _ _ _ s₁ (mkF m 54 #[.val (.long q0), .second, .val (.long q1), .second, .val (.long q2), .second, .val (.int p3), .val (.int p4), .val (.long (q0 &&& (9223372036854775807 : Int64))), .second, .val (.long wi), .second, .val (.long ag), .second, .val (.int (p3 &&& (2147483647 : Int32))), .unset, .unset, .unset, .unset, .unset, .unset, .unset] [(.int p4)])
    refine own_st (fun t k => XS.iconst X0.here hx rfl (hb hby at_54) k) ?_
    show own_Go _ _ _ _ s₁ (mkF m 55 #[.val (.long q0), .second, .val (.long q1), .second, .val (.long q2), .second, .val (.int p3), .val (.int p4), .val (.long (q0 &&& (9223372036854775807 : Int64))), .second, .val (.long wi), .second, .val (.long ag), .second, .val (.int (p3 &&& (2147483647 : Int32))), .unset, .unset, .unset, .unset, .unset, .unset, .unset] [(.int (1 : Int32)), (.int p4)])
    refine own_st (fun t k => XS.iand X0.here hx rfl (hb hby at_55) rfl k) ?_
    show own_Go _ _ _ _ s₁ (mkF m 56 #[.val (.long q0), .second, .val (.long q1), .second, .val (.long q2), .second, .val (.int p3), .val (.int p4), .val (.long (q0 &&& (9223372036854775807 : Int64))), .second, .val (.long wi), .second, .val (.long ag), .second, .val (.int (p3 &&& (2147483647 : Int32))), .unset, .unset, .unset, .unset, .unset, .unset, .unset] [(.int (p4 &&& (1 : Int32)))])
    by_cases c56_18 : (p4 &&& (1 : Int32)) = (0 : Int32)
    ·
      refine own_st (fun t k => XS.ifYes X0.here hx rfl (pc0 := 56) (pc' := 77) rfl (hb hby at_56) rfl ((if0 _ _).trans (teq c56_18).1) (by decide) (by decide) k) ?_
      show own_Go _ _ _ _ s₁ (mkF m 77 #[.val (.long q0), .second, .val (.long q1), .second, .val (.long q2), .second, .val (.int p3), .val (.int p4), .val (.long (q0 &&& (9223372036854775807 : Int64))), .second, .val (.long wi), .second, .val (.long ag), .second, .val (.int (p3 &&& (2147483647 : Int32))), .unset, .unset, .unset, .unset, .unset, .unset, .unset] [])
      refine own_st (fun t k => XS.iconst X0.here hx rfl (hb hby at_77) k) ?_
      show own_Go _ _ _ _ s₁ (mkF m 78 #[.val (.long q0), .second, .val (.long q1), .second, .val (.long q2), .second, .val (.int p3), .val (.int p4), .val (.long (q0 &&& (9223372036854775807 : Int64))), .second, .val (.long wi), .second, .val (.long ag), .second, .val (.int (p3 &&& (2147483647 : Int32))), .unset, .unset, .unset, .unset, .unset, .unset, .unset] [(.int (0 : Int32))])
      refine own_st (fun t k => XS.istore X0.here hx rfl (hb hby at_78) rfl (l' := #[.val (.long q0), .second, .val (.long q1), .second, .val (.long q2), .second, .val (.int p3), .val (.int p4), .val (.long (q0 &&& (9223372036854775807 : Int64))), .second, .val (.long wi), .second, .val (.long ag), .second, .val (.int (p3 &&& (2147483647 : Int32))), .val (.int (0 : Int32)), .unset, .unset, .unset, .unset, .unset, .unset]) rfl k) ?_
      show own_Go _ _ _ _ s₁ (mkF m 80 #[.val (.long q0), .second, .val (.long q1), .second, .val (.long q2), .second, .val (.int p3), .val (.int p4), .val (.long (q0 &&& (9223372036854775807 : Int64))), .second, .val (.long wi), .second, .val (.long ag), .second, .val (.int (p3 &&& (2147483647 : Int32))), .val (.int (0 : Int32)), .unset, .unset, .unset, .unset, .unset, .unset] [])
      exact JG80 wi ag (0 : Int32)  hwi hag (Or.inl rfl)
    ·
      refine own_st (fun t k => XS.ifNo X0.here hx rfl (hb hby at_56) rfl ((if0 _ _).trans (feq c56_18).1) k) ?_
      show own_Go _ _ _ _ s₁ (mkF m 59 #[.val (.long q0), .second, .val (.long q1), .second, .val (.long q2), .second, .val (.int p3), .val (.int p4), .val (.long (q0 &&& (9223372036854775807 : Int64))), .second, .val (.long wi), .second, .val (.long ag), .second, .val (.int (p3 &&& (2147483647 : Int32))), .unset, .unset, .unset, .unset, .unset, .unset, .unset] [])
      refine own_st (fun t k => XS.lload X0.here hx rfl (hb hby at_59) rfl k) ?_
      show own_Go _ _ _ _ s₁ (mkF m 61 #[.val (.long q0), .second, .val (.long q1), .second, .val (.long q2), .second, .val (.int p3), .val (.int p4), .val (.long (q0 &&& (9223372036854775807 : Int64))), .second, .val (.long wi), .second, .val (.long ag), .second, .val (.int (p3 &&& (2147483647 : Int32))), .unset, .unset, .unset, .unset, .unset, .unset, .unset] [(.long wi)])
      refine own_st (fun t k => XS.lconst X0.here hx rfl (hb hby at_61) k) ?_
      show own_Go _ _ _ _ s₁ (mkF m 62 #[.val (.long q0), .second, .val (.long q1), .second, .val (.long q2), .second, .val (.int p3), .val (.int p4), .val (.long (q0 &&& (9223372036854775807 : Int64))), .second, .val (.long wi), .second, .val (.long ag), .second, .val (.int (p3 &&& (2147483647 : Int32))), .unset, .unset, .unset, .unset, .unset, .unset, .unset] [(.long (0 : Int64)), (.long wi)])
      refine own_st (fun t k => XS.lcmp X0.here hx rfl (hb hby at_62) rfl k) ?_
      show own_Go _ _ _ _ s₁ (mkF m 63 #[.val (.long q0), .second, .val (.long q1), .second, .val (.long q2), .second, .val (.int p3), .val (.int p4), .val (.long (q0 &&& (9223372036854775807 : Int64))), .second, .val (.long wi), .second, .val (.long ag), .second, .val (.int (p3 &&& (2147483647 : Int32))), .unset, .unset, .unset, .unset, .unset, .unset, .unset] [(.int (lcmpW wi (0 : Int64)))])
      by_cases c63_19 : wi = (0 : Int64)
      ·
        refine own_st (fun t k => XS.ifNo X0.here hx rfl (hb hby at_63) rfl ((if0 _ _).trans (teq ((lw_eq _ _).mpr c63_19)).2) k) ?_
        show own_Go _ _ _ _ s₁ (mkF m 66 #[.val (.long q0), .second, .val (.long q1), .second, .val (.long q2), .second, .val (.int p3), .val (.int p4), .val (.long (q0 &&& (9223372036854775807 : Int64))), .second, .val (.long wi), .second, .val (.long ag), .second, .val (.int (p3 &&& (2147483647 : Int32))), .unset, .unset, .unset, .unset, .unset, .unset, .unset] [])
        refine own_st (fun t k => XS.lload X0.here hx rfl (hb hby at_66) rfl k) ?_
        show own_Go _ _ _ _ s₁ (mkF m 68 #[.val (.long q0), .second, .val (.long q1), .second, .val (.long q2), .second, .val (.int p3), .val (.int p4), .val (.long (q0 &&& (9223372036854775807 : Int64))), .second, .val (.long wi), .second, .val (.long ag), .second, .val (.int (p3 &&& (2147483647 : Int32))), .unset, .unset, .unset, .unset, .unset, .unset, .unset] [(.long ag)])
        refine own_st (fun t k => XS.lconst X0.here hx rfl (hb hby at_68) k) ?_
        show own_Go _ _ _ _ s₁ (mkF m 69 #[.val (.long q0), .second, .val (.long q1), .second, .val (.long q2), .second, .val (.int p3), .val (.int p4), .val (.long (q0 &&& (9223372036854775807 : Int64))), .second, .val (.long wi), .second, .val (.long ag), .second, .val (.int (p3 &&& (2147483647 : Int32))), .unset, .unset, .unset, .unset, .unset, .unset, .unset] [(.long (0 : Int64)), (.long ag)])
        refine own_st (fun t k => XS.lcmp X0.here hx rfl (hb hby at_69) rfl k) ?_
        show own_Go _ _ _ _ s₁ (mkF m 70 #[.val (.long q0), .second, .val (.long q1), .second, .val (.long q2), .second, .val (.int p3), .val (.int p4), .val (.long (q0 &&& (9223372036854775807 : Int64))), .second, .val (.long wi), .second, .val (.long ag), .second, .val (.int (p3 &&& (2147483647 : Int32))), .unset, .unset, .unset, .unset, .unset, .unset, .unset] [(.int (lcmpW ag (0 : Int64)))])
        by_cases c70_20 : ag = (0 : Int64)
        ·
          refine own_st (fun t k => XS.ifNo X0.here hx rfl (hb hby at_70) rfl ((if0 _ _).trans (teq ((lw_eq _ _).mpr c70_20)).2) k) ?_
          show own_Go _ _ _ _ s₁ (mkF m 73 #[.val (.long q0), .second, .val (.long q1), .second, .val (.long q2), .second, .val (.int p3), .val (.int p4), .val (.long (q0 &&& (9223372036854775807 : Int64))), .second, .val (.long wi), .second, .val (.long ag), .second, .val (.int (p3 &&& (2147483647 : Int32))), .unset, .unset, .unset, .unset, .unset, .unset, .unset] [])
          refine own_st (fun t k => XS.iconst X0.here hx rfl (hb hby at_73) k) ?_
          show own_Go _ _ _ _ s₁ (mkF m 74 #[.val (.long q0), .second, .val (.long q1), .second, .val (.long q2), .second, .val (.int p3), .val (.int p4), .val (.long (q0 &&& (9223372036854775807 : Int64))), .second, .val (.long wi), .second, .val (.long ag), .second, .val (.int (p3 &&& (2147483647 : Int32))), .unset, .unset, .unset, .unset, .unset, .unset, .unset] [(.int (1 : Int32))])
          refine own_st (fun t k => XS.goto X0.here hx rfl (pc0 := 74) (pc' := 78) rfl (hb hby at_74) (by decide) (by decide) k) ?_
          show own_Go _ _ _ _ s₁ (mkF m 78 #[.val (.long q0), .second, .val (.long q1), .second, .val (.long q2), .second, .val (.int p3), .val (.int p4), .val (.long (q0 &&& (9223372036854775807 : Int64))), .second, .val (.long wi), .second, .val (.long ag), .second, .val (.int (p3 &&& (2147483647 : Int32))), .unset, .unset, .unset, .unset, .unset, .unset, .unset] [(.int (1 : Int32))])
          refine own_st (fun t k => XS.istore X0.here hx rfl (hb hby at_78) rfl (l' := #[.val (.long q0), .second, .val (.long q1), .second, .val (.long q2), .second, .val (.int p3), .val (.int p4), .val (.long (q0 &&& (9223372036854775807 : Int64))), .second, .val (.long wi), .second, .val (.long ag), .second, .val (.int (p3 &&& (2147483647 : Int32))), .val (.int (1 : Int32)), .unset, .unset, .unset, .unset, .unset, .unset]) rfl k) ?_
          show own_Go _ _ _ _ s₁ (mkF m 80 #[.val (.long q0), .second, .val (.long q1), .second, .val (.long q2), .second, .val (.int p3), .val (.int p4), .val (.long (q0 &&& (9223372036854775807 : Int64))), .second, .val (.long wi), .second, .val (.long ag), .second, .val (.int (p3 &&& (2147483647 : Int32))), .val (.int (1 : Int32)), .unset, .unset, .unset, .unset, .unset, .unset] [])
          exact JG80 wi ag (1 : Int32)  hwi hag (Or.inr ⟨own_p0 c70_20, own_p0 c63_19⟩)
        ·
          refine own_st (fun t k => XS.ifYes X0.here hx rfl (pc0 := 70) (pc' := 77) rfl (hb hby at_70) rfl ((if0 _ _).trans (feq (fun q => c70_20 ((lw_eq _ _).mp q))).2) (by decide) (by decide) k) ?_
          show own_Go _ _ _ _ s₁ (mkF m 77 #[.val (.long q0), .second, .val (.long q1), .second, .val (.long q2), .second, .val (.int p3), .val (.int p4), .val (.long (q0 &&& (9223372036854775807 : Int64))), .second, .val (.long wi), .second, .val (.long ag), .second, .val (.int (p3 &&& (2147483647 : Int32))), .unset, .unset, .unset, .unset, .unset, .unset, .unset] [])
          refine own_st (fun t k => XS.iconst X0.here hx rfl (hb hby at_77) k) ?_
          show own_Go _ _ _ _ s₁ (mkF m 78 #[.val (.long q0), .second, .val (.long q1), .second, .val (.long q2), .second, .val (.int p3), .val (.int p4), .val (.long (q0 &&& (9223372036854775807 : Int64))), .second, .val (.long wi), .second, .val (.long ag), .second, .val (.int (p3 &&& (2147483647 : Int32))), .unset, .unset, .unset, .unset, .unset, .unset, .unset] [(.int (0 : Int32))])
          refine own_st (fun t k => XS.istore X0.here hx rfl (hb hby at_78) rfl (l' := #[.val (.long q0), .second, .val (.long q1), .second, .val (.long q2), .second, .val (.int p3), .val (.int p4), .val (.long (q0 &&& (9223372036854775807 : Int64))), .second, .val (.long wi), .second, .val (.long ag), .second, .val (.int (p3 &&& (2147483647 : Int32))), .val (.int (0 : Int32)), .unset, .unset, .unset, .unset, .unset, .unset]) rfl k) ?_
          show own_Go _ _ _ _ s₁ (mkF m 80 #[.val (.long q0), .second, .val (.long q1), .second, .val (.long q2), .second, .val (.int p3), .val (.int p4), .val (.long (q0 &&& (9223372036854775807 : Int64))), .second, .val (.long wi), .second, .val (.long ag), .second, .val (.int (p3 &&& (2147483647 : Int32))), .val (.int (0 : Int32)), .unset, .unset, .unset, .unset, .unset, .unset] [])
          exact JG80 wi ag (0 : Int32)  hwi hag (Or.inl rfl)
      ·
        refine own_st (fun t k => XS.ifYes X0.here hx rfl (pc0 := 63) (pc' := 77) rfl (hb hby at_63) rfl ((if0 _ _).trans (feq (fun q => c63_19 ((lw_eq _ _).mp q))).2) (by decide) (by decide) k) ?_
        show own_Go _ _ _ _ s₁ (mkF m 77 #[.val (.long q0), .second, .val (.long q1), .second, .val (.long q2), .second, .val (.int p3), .val (.int p4), .val (.long (q0 &&& (9223372036854775807 : Int64))), .second, .val (.long wi), .second, .val (.long ag), .second, .val (.int (p3 &&& (2147483647 : Int32))), .unset, .unset, .unset, .unset, .unset, .unset, .unset] [])
        refine own_st (fun t k => XS.iconst X0.here hx rfl (hb hby at_77) k) ?_
        show own_Go _ _ _ _ s₁ (mkF m 78 #[.val (.long q0), .second, .val (.long q1), .second, .val (.long q2), .second, .val (.int p3), .val (.int p4), .val (.long (q0 &&& (9223372036854775807 : Int64))), .second, .val (.long wi), .second, .val (.long ag), .second, .val (.int (p3 &&& (2147483647 : Int32))), .unset, .unset, .unset, .unset, .unset, .unset, .unset] [(.int (0 : Int32))])
        refine own_st (fun t k => XS.istore X0.here hx rfl (hb hby at_78) rfl (l' := #[.val (.long q0), .second, .val (.long q1), .second, .val (.long q2), .second, .val (.int p3), .val (.int p4), .val (.long (q0 &&& (9223372036854775807 : Int64))), .second, .val (.long wi), .second, .val (.long ag), .second, .val (.int (p3 &&& (2147483647 : Int32))), .val (.int (0 : Int32)), .unset, .unset, .unset, .unset, .unset, .unset]) rfl k) ?_
        show own_Go _ _ _ _ s₁ (mkF m 80 #[.val (.long q0), .second, .val (.long q1), .second, .val (.long q2), .second, .val (.int p3), .val (.int p4), .val (.long (q0 &&& (9223372036854775807 : Int64))), .second, .val (.long wi), .second, .val (.long ag), .second, .val (.int (p3 &&& (2147483647 : Int32))), .val (.int (0 : Int32)), .unset, .unset, .unset, .unset, .unset, .unset] [])
        exact JG80 wi ag (0 : Int32)  hwi hag (Or.inl rfl)
  show own_Go _ _ _ _ s₁ (mkF m 0 #[.val (.long q0), .second, .val (.long q1), .second, .val (.long q2), .second, .val (.int p3), .val (.int p4), .unset, .unset, .unset, .unset, .unset, .unset, .unset, .unset, .unset, .unset, .unset, .unset, .unset, .unset] [])
  refine own_st (fun t k => XS.lloadN X0.here hx rfl (hb hby at_0) rfl k) ?_
  show own_Go _ _ _ _ s₁ (mkF m 1 #[.val (.long q0), .second, .val (.long q1), .second, .val (.long q2), .second, .val (.int p3), .val (.int p4), .unset, .unset, .unset, .unset, .unset, .unset, .unset, .unset, .unset, .unset, .unset, .unset, .unset, .unset] [(.long q0)])
  refine own_st (X0.ldc2Long hx hown (mvT hZ (hw _ (List.mem_of_getElem? (i := 0) rfl))) (g := (mkF m 1 #[.val (.long q0), .second, .val (.long q1), .second, .val (.long q2), .second, .val (.int p3), .val (.int p4), .unset, .unset, .unset, .unset, .unset, .unset, .unset, .unset, .unset, .unset, .unset, .unset, .unset, .unset] [(.long q0)])) rfl (hb hby at_1)) ?_
  show own_Go _ _ _ _ s₁ (mkF m 4 #[.val (.long q0), .second, .val (.long q1), .second, .val (.long q2), .second, .val (.int p3), .val (.int p4), .unset, .unset, .unset, .unset, .unset, .unset, .unset, .unset, .unset, .unset, .unset, .unset, .unset, .unset] [(.long (9223372036854775807 : Int64)), (.long q0)])
  refine own_st (fun t k => XS.land X0.here hx rfl (hb hby at_4) rfl k) ?_
  show own_Go _ _ _ _ s₁ (mkF m 5 #[.val (.long q0), .second, .val (.long q1), .second, .val (.long q2), .second, .val (.int p3), .val (.int p4), .unset, .unset, .unset, .unset, .unset, .unset, .unset, .unset, .unset, .unset, .unset, .unset, .unset, .unset] [(.long (q0 &&& (9223372036854775807 : Int64)))])
  refine own_st (fun t k => XS.lstore X0.here hx rfl (hb hby at_5) rfl (l' := #[.val (.long q0), .second, .val (.long q1), .second, .val (.long q2), .second, .val (.int p3), .val (.int p4), .val (.long (q0 &&& (9223372036854775807 : Int64))), .second, .unset, .unset, .unset, .unset, .unset, .unset, .unset, .unset, .unset, .unset, .unset, .unset]) rfl k) ?_
  show own_Go _ _ _ _ s₁ (mkF m 7 #[.val (.long q0), .second, .val (.long q1), .second, .val (.long q2), .second, .val (.int p3), .val (.int p4), .val (.long (q0 &&& (9223372036854775807 : Int64))), .second, .unset, .unset, .unset, .unset, .unset, .unset, .unset, .unset, .unset, .unset, .unset, .unset] [])
  refine own_st (fun t k => XS.iload X0.here hx rfl (hb hby at_7) rfl k) ?_
  show own_Go _ _ _ _ s₁ (mkF m 9 #[.val (.long q0), .second, .val (.long q1), .second, .val (.long q2), .second, .val (.int p3), .val (.int p4), .val (.long (q0 &&& (9223372036854775807 : Int64))), .second, .unset, .unset, .unset, .unset, .unset, .unset, .unset, .unset, .unset, .unset, .unset, .unset] [(.int p4)])
  refine own_st (fun t k => XS.iconst X0.here hx rfl (hb hby at_9) k) ?_
  show own_Go _ _ _ _ s₁ (mkF m 10 #[.val (.long q0), .second, .val (.long q1), .second, .val (.long q2), .second, .val (.int p3), .val (.int p4), .val (.long (q0 &&& (9223372036854775807 : Int64))), .second, .unset, .unset, .unset, .unset, .unset, .unset, .unset, .unset, .unset, .unset, .unset, .unset] [(.int (4 : Int32)), (.int p4)])
  refine own_st (fun t k => XS.iand X0.here hx rfl (hb hby at_10) rfl k) ?_
  show own_Go _ _ _ _ s₁ (mkF m 11 #[.val (.long q0), .second, .val (.long q1), .second, .val (.long q2), .second, .val (.int p3), .val (.int p4), .val (.long (q0 &&& (9223372036854775807 : Int64))), .second, .unset, .unset, .unset, .unset, .unset, .unset, .unset, .unset, .unset, .unset, .unset, .unset] [(.int (p4 &&& (4 : Int32)))])
  by_cases c11_21 : (p4 &&& (4 : Int32)) = (0 : Int32)
  ·
    refine own_st (fun t k => XS.ifYes X0.here hx rfl (pc0 := 11) (pc' := 18) rfl (hb hby at_11) rfl ((if0 _ _).trans (teq c11_21).1) (by decide) (by decide) k) ?_
    show own_Go _ _ _ _ s₁ (mkF m 18 #[.val (.long q0), .second, .val (.long q1), .second, .val (.long q2), .second, .val (.int p3), .val (.int p4), .val (.long (q0 &&& (9223372036854775807 : Int64))), .second, .unset, .unset, .unset, .unset, .unset, .unset, .unset, .unset, .unset, .unset, .unset, .unset] [])
    refine own_st (fun t k => XS.lloadN X0.here hx rfl (hb hby at_18) rfl k) ?_
    show own_Go _ _ _ _ s₁ (mkF m 19 #[.val (.long q0), .second, .val (.long q1), .second, .val (.long q2), .second, .val (.int p3), .val (.int p4), .val (.long (q0 &&& (9223372036854775807 : Int64))), .second, .unset, .unset, .unset, .unset, .unset, .unset, .unset, .unset, .unset, .unset, .unset, .unset] [(.long q1)])
    refine own_st (X0.ldc2Long hx hown (mvT hZ (hw _ (List.mem_of_getElem? (i := 0) rfl))) (g := (mkF m 19 #[.val (.long q0), .second, .val (.long q1), .second, .val (.long q2), .second, .val (.int p3), .val (.int p4), .val (.long (q0 &&& (9223372036854775807 : Int64))), .second, .unset, .unset, .unset, .unset, .unset, .unset, .unset, .unset, .unset, .unset, .unset, .unset] [(.long q1)])) rfl (hb hby at_19)) ?_
    show own_Go _ _ _ _ s₁ (mkF m 22 #[.val (.long q0), .second, .val (.long q1), .second, .val (.long q2), .second, .val (.int p3), .val (.int p4), .val (.long (q0 &&& (9223372036854775807 : Int64))), .second, .unset, .unset, .unset, .unset, .unset, .unset, .unset, .unset, .unset, .unset, .unset, .unset] [(.long (9223372036854775807 : Int64)), (.long q1)])
    refine own_st (fun t k => XS.land X0.here hx rfl (hb hby at_22) rfl k) ?_
    show own_Go _ _ _ _ s₁ (mkF m 23 #[.val (.long q0), .second, .val (.long q1), .second, .val (.long q2), .second, .val (.int p3), .val (.int p4), .val (.long (q0 &&& (9223372036854775807 : Int64))), .second, .unset, .unset, .unset, .unset, .unset, .unset, .unset, .unset, .unset, .unset, .unset, .unset] [(.long (q1 &&& (9223372036854775807 : Int64)))])
    refine own_st (fun t k => XS.lstore X0.here hx rfl (hb hby at_23) rfl (l' := #[.val (.long q0), .second, .val (.long q1), .second, .val (.long q2), .second, .val (.int p3), .val (.int p4), .val (.long (q0 &&& (9223372036854775807 : Int64))), .second, .val (.long (q1 &&& (9223372036854775807 : Int64))), .second, .unset, .unset, .unset, .unset, .unset, .unset, .unset, .unset, .unset, .unset]) rfl k) ?_
    show own_Go _ _ _ _ s₁ (mkF m 25 #[.val (.long q0), .second, .val (.long q1), .second, .val (.long q2), .second, .val (.int p3), .val (.int p4), .val (.long (q0 &&& (9223372036854775807 : Int64))), .second, .val (.long (q1 &&& (9223372036854775807 : Int64))), .second, .unset, .unset, .unset, .unset, .unset, .unset, .unset, .unset, .unset, .unset] [])
    refine own_st (fun t k => XS.iload X0.here hx rfl (hb hby at_25) rfl k) ?_
    show own_Go _ _ _ _ s₁ (mkF m 27 #[.val (.long q0), .second, .val (.long q1), .second, .val (.long q2), .second, .val (.int p3), .val (.int p4), .val (.long (q0 &&& (9223372036854775807 : Int64))), .second, .val (.long (q1 &&& (9223372036854775807 : Int64))), .second, .unset, .unset, .unset, .unset, .unset, .unset, .unset, .unset, .unset, .unset] [(.int p4)])
    refine own_st (fun t k => XS.bipush X0.here hx rfl (hb hby at_27) k) ?_
    show own_Go _ _ _ _ s₁ (mkF m 29 #[.val (.long q0), .second, .val (.long q1), .second, .val (.long q2), .second, .val (.int p3), .val (.int p4), .val (.long (q0 &&& (9223372036854775807 : Int64))), .second, .val (.long (q1 &&& (9223372036854775807 : Int64))), .second, .unset, .unset, .unset, .unset, .unset, .unset, .unset, .unset, .unset, .unset] [(.int (8 : Int32)), (.int p4)])
    refine own_st (fun t k => XS.iand X0.here hx rfl (hb hby at_29) rfl k) ?_
    show own_Go _ _ _ _ s₁ (mkF m 30 #[.val (.long q0), .second, .val (.long q1), .second, .val (.long q2), .second, .val (.int p3), .val (.int p4), .val (.long (q0 &&& (9223372036854775807 : Int64))), .second, .val (.long (q1 &&& (9223372036854775807 : Int64))), .second, .unset, .unset, .unset, .unset, .unset, .unset, .unset, .unset, .unset, .unset] [(.int (p4 &&& (8 : Int32)))])
    by_cases c30_22 : (p4 &&& (8 : Int32)) = (0 : Int32)
    ·
      refine own_st (fun t k => XS.ifYes X0.here hx rfl (pc0 := 30) (pc' := 37) rfl (hb hby at_30) rfl ((if0 _ _).trans (teq c30_22).1) (by decide) (by decide) k) ?_
      show own_Go _ _ _ _ s₁ (mkF m 37 #[.val (.long q0), .second, .val (.long q1), .second, .val (.long q2), .second, .val (.int p3), .val (.int p4), .val (.long (q0 &&& (9223372036854775807 : Int64))), .second, .val (.long (q1 &&& (9223372036854775807 : Int64))), .second, .unset, .unset, .unset, .unset, .unset, .unset, .unset, .unset, .unset, .unset] [])
      refine own_st (fun t k => XS.lload X0.here hx rfl (hb hby at_37) rfl k) ?_
      show own_Go _ _ _ _ s₁ (mkF m 39 #[.val (.long q0), .second, .val (.long q1), .second, .val (.long q2), .second, .val (.int p3), .val (.int p4), .val (.long (q0 &&& (9223372036854775807 : Int64))), .second, .val (.long (q1 &&& (9223372036854775807 : Int64))), .second, .unset, .unset, .unset, .unset, .unset, .unset, .unset, .unset, .unset, .unset] [(.long q2)])
      refine own_st (X0.ldc2Long hx hown (mvT hZ (hw _ (List.mem_of_getElem? (i := 0) rfl))) (g := (mkF m 39 #[.val (.long q0), .second, .val (.long q1), .second, .val (.long q2), .second, .val (.int p3), .val (.int p4), .val (.long (q0 &&& (9223372036854775807 : Int64))), .second, .val (.long (q1 &&& (9223372036854775807 : Int64))), .second, .unset, .unset, .unset, .unset, .unset, .unset, .unset, .unset, .unset, .unset] [(.long q2)])) rfl (hb hby at_39)) ?_
      show own_Go _ _ _ _ s₁ (mkF m 42 #[.val (.long q0), .second, .val (.long q1), .second, .val (.long q2), .second, .val (.int p3), .val (.int p4), .val (.long (q0 &&& (9223372036854775807 : Int64))), .second, .val (.long (q1 &&& (9223372036854775807 : Int64))), .second, .unset, .unset, .unset, .unset, .unset, .unset, .unset, .unset, .unset, .unset] [(.long (9223372036854775807 : Int64)), (.long q2)])
      refine own_st (fun t k => XS.land X0.here hx rfl (hb hby at_42) rfl k) ?_
      show own_Go _ _ _ _ s₁ (mkF m 43 #[.val (.long q0), .second, .val (.long q1), .second, .val (.long q2), .second, .val (.int p3), .val (.int p4), .val (.long (q0 &&& (9223372036854775807 : Int64))), .second, .val (.long (q1 &&& (9223372036854775807 : Int64))), .second, .unset, .unset, .unset, .unset, .unset, .unset, .unset, .unset, .unset, .unset] [(.long (q2 &&& (9223372036854775807 : Int64)))])
      refine own_st (fun t k => XS.lstore X0.here hx rfl (hb hby at_43) rfl (l' := #[.val (.long q0), .second, .val (.long q1), .second, .val (.long q2), .second, .val (.int p3), .val (.int p4), .val (.long (q0 &&& (9223372036854775807 : Int64))), .second, .val (.long (q1 &&& (9223372036854775807 : Int64))), .second, .val (.long (q2 &&& (9223372036854775807 : Int64))), .second, .unset, .unset, .unset, .unset, .unset, .unset, .unset, .unset]) rfl k) ?_
      show own_Go _ _ _ _ s₁ (mkF m 45 #[.val (.long q0), .second, .val (.long q1), .second, .val (.long q2), .second, .val (.int p3), .val (.int p4), .val (.long (q0 &&& (9223372036854775807 : Int64))), .second, .val (.long (q1 &&& (9223372036854775807 : Int64))), .second, .val (.long (q2 &&& (9223372036854775807 : Int64))), .second, .unset, .unset, .unset, .unset, .unset, .unset, .unset, .unset] [])
      refine own_st (fun t k => XS.iload X0.here hx rfl (hb hby at_45) rfl k) ?_
      show own_Go _ _ _ _ s₁ (mkF m 47 #[.val (.long q0), .second, .val (.long q1), .second, .val (.long q2), .second, .val (.int p3), .val (.int p4), .val (.long (q0 &&& (9223372036854775807 : Int64))), .second, .val (.long (q1 &&& (9223372036854775807 : Int64))), .second, .val (.long (q2 &&& (9223372036854775807 : Int64))), .second, .unset, .unset, .unset, .unset, .unset, .unset, .unset, .unset] [(.int p3)])
      refine own_st (X0.ldcInt hx hown (mvT hZ (hw _ (List.mem_of_getElem? (i := 1) rfl))) (g := (mkF m 47 #[.val (.long q0), .second, .val (.long q1), .second, .val (.long q2), .second, .val (.int p3), .val (.int p4), .val (.long (q0 &&& (9223372036854775807 : Int64))), .second, .val (.long (q1 &&& (9223372036854775807 : Int64))), .second, .val (.long (q2 &&& (9223372036854775807 : Int64))), .second, .unset, .unset, .unset, .unset, .unset, .unset, .unset, .unset] [(.int p3)])) rfl (hb hby at_47)) ?_
      show own_Go _ _ _ _ s₁ (mkF m 49 #[.val (.long q0), .second, .val (.long q1), .second, .val (.long q2), .second, .val (.int p3), .val (.int p4), .val (.long (q0 &&& (9223372036854775807 : Int64))), .second, .val (.long (q1 &&& (9223372036854775807 : Int64))), .second, .val (.long (q2 &&& (9223372036854775807 : Int64))), .second, .unset, .unset, .unset, .unset, .unset, .unset, .unset, .unset] [(.int (2147483647 : Int32)), (.int p3)])
      refine own_st (fun t k => XS.iand X0.here hx rfl (hb hby at_49) rfl k) ?_
      show own_Go _ _ _ _ s₁ (mkF m 50 #[.val (.long q0), .second, .val (.long q1), .second, .val (.long q2), .second, .val (.int p3), .val (.int p4), .val (.long (q0 &&& (9223372036854775807 : Int64))), .second, .val (.long (q1 &&& (9223372036854775807 : Int64))), .second, .val (.long (q2 &&& (9223372036854775807 : Int64))), .second, .unset, .unset, .unset, .unset, .unset, .unset, .unset, .unset] [(.int (p3 &&& (2147483647 : Int32)))])
      refine own_st (fun t k => XS.istore X0.here hx rfl (hb hby at_50) rfl (l' := #[.val (.long q0), .second, .val (.long q1), .second, .val (.long q2), .second, .val (.int p3), .val (.int p4), .val (.long (q0 &&& (9223372036854775807 : Int64))), .second, .val (.long (q1 &&& (9223372036854775807 : Int64))), .second, .val (.long (q2 &&& (9223372036854775807 : Int64))), .second, .val (.int (p3 &&& (2147483647 : Int32))), .unset, .unset, .unset, .unset, .unset, .unset, .unset]) rfl k) ?_
      show own_Go _ _ _ _ s₁ (mkF m 52 #[.val (.long q0), .second, .val (.long q1), .second, .val (.long q2), .second, .val (.int p3), .val (.int p4), .val (.long (q0 &&& (9223372036854775807 : Int64))), .second, .val (.long (q1 &&& (9223372036854775807 : Int64))), .second, .val (.long (q2 &&& (9223372036854775807 : Int64))), .second, .val (.int (p3 &&& (2147483647 : Int32))), .unset, .unset, .unset, .unset, .unset, .unset, .unset] [])
      exact JG52 (q1 &&& (9223372036854775807 : Int64)) (q2 &&& (9223372036854775807 : Int64))  (own_pos _) (own_pos _)
    ·
      refine own_st (fun t k => XS.ifNo X0.here hx rfl (hb hby at_30) rfl ((if0 _ _).trans (feq c30_22).1) k) ?_
      show own_Go _ _ _ _ s₁ (mkF m 33 #[.val (.long q0), .second, .val (.long q1), .second, .val (.long q2), .second, .val (.int p3), .val (.int p4), .val (.long (q0 &&& (9223372036854775807 : Int64))), .second, .val (.long (q1 &&& (9223372036854775807 : Int64))), .second, .unset, .unset, .unset, .unset, .unset, .unset, .unset, .unset, .unset, .unset] [])
      refine own_st (fun t k => XS.lconst X0.here hx rfl (hb hby at_33) k) ?_
      show own_Go _ _ _ _ s₁ (mkF m 34 #[.val (.long q0), .second, .val (.long q1), .second, .val (.long q2), .second, .val (.int p3), .val (.int p4), .val (.long (q0 &&& (9223372036854775807 : Int64))), .second, .val (.long (q1 &&& (9223372036854775807 : Int64))), .second, .unset, .unset, .unset, .unset, .unset, .unset, .unset, .unset, .unset, .unset] [(.long (0 : Int64))])
      refine own_st (fun t k => XS.goto X0.here hx rfl (pc0 := 34) (pc' := 43) rfl (hb hby at_34) (by decide) (by decide) k) ?_
      show own_Go _ _ _ _ s₁ (mkF m 43 #[.val (.long q0), .second, .val (.long q1), .second, .val (.long q2), .second, .val (.int p3), .val (.int p4), .val (.long (q0 &&& (9223372036854775807 : Int64))), .second, .val (.long (q1 &&& (9223372036854775807 : Int64))), .second, .unset, .unset, .unset, .unset, .unset, .unset, .unset, .unset, .unset, .unset] [(.long (0 : Int64))])
      refine own_st (fun t k => XS.lstore X0.here hx rfl (hb hby at_43) rfl (l' := #[.val (.long q0), .second, .val (.long q1), .second, .val (.long q2), .second, .val (.int p3), .val (.int p4), .val (.long (q0 &&& (9223372036854775807 : Int64))), .second, .val (.long (q1 &&& (9223372036854775807 : Int64))), .second, .val (.long (0 : Int64)), .second, .unset, .unset, .unset, .unset, .unset, .unset, .unset, .unset]) rfl k) ?_
      show own_Go _ _ _ _ s₁ (mkF m 45 #[.val (.long q0), .second, .val (.long q1), .second, .val (.long q2), .second, .val (.int p3), .val (.int p4), .val (.long (q0 &&& (9223372036854775807 : Int64))), .second, .val (.long (q1 &&& (9223372036854775807 : Int64))), .second, .val (.long (0 : Int64)), .second, .unset, .unset, .unset, .unset, .unset, .unset, .unset, .unset] [])
      refine own_st (fun t k => XS.iload X0.here hx rfl (hb hby at_45) rfl k) ?_
      show own_Go _ _ _ _ s₁ (mkF m 47 #[.val (.long q0), .second, .val (.long q1), .second, .val (.long q2), .second, .val (.int p3), .val (.int p4), .val (.long (q0 &&& (9223372036854775807 : Int64))), .second, .val (.long (q1 &&& (9223372036854775807 : Int64))), .second, .val (.long (0 : Int64)), .second, .unset, .unset, .unset, .unset, .unset, .unset, .unset, .unset] [(.int p3)])
      refine own_st (X0.ldcInt hx hown (mvT hZ (hw _ (List.mem_of_getElem? (i := 1) rfl))) (g := (mkF m 47 #[.val (.long q0), .second, .val (.long q1), .second, .val (.long q2), .second, .val (.int p3), .val (.int p4), .val (.long (q0 &&& (9223372036854775807 : Int64))), .second, .val (.long (q1 &&& (9223372036854775807 : Int64))), .second, .val (.long (0 : Int64)), .second, .unset, .unset, .unset, .unset, .unset, .unset, .unset, .unset] [(.int p3)])) rfl (hb hby at_47)) ?_
      show own_Go _ _ _ _ s₁ (mkF m 49 #[.val (.long q0), .second, .val (.long q1), .second, .val (.long q2), .second, .val (.int p3), .val (.int p4), .val (.long (q0 &&& (9223372036854775807 : Int64))), .second, .val (.long (q1 &&& (9223372036854775807 : Int64))), .second, .val (.long (0 : Int64)), .second, .unset, .unset, .unset, .unset, .unset, .unset, .unset, .unset] [(.int (2147483647 : Int32)), (.int p3)])
      refine own_st (fun t k => XS.iand X0.here hx rfl (hb hby at_49) rfl k) ?_
      show own_Go _ _ _ _ s₁ (mkF m 50 #[.val (.long q0), .second, .val (.long q1), .second, .val (.long q2), .second, .val (.int p3), .val (.int p4), .val (.long (q0 &&& (9223372036854775807 : Int64))), .second, .val (.long (q1 &&& (9223372036854775807 : Int64))), .second, .val (.long (0 : Int64)), .second, .unset, .unset, .unset, .unset, .unset, .unset, .unset, .unset] [(.int (p3 &&& (2147483647 : Int32)))])
      refine own_st (fun t k => XS.istore X0.here hx rfl (hb hby at_50) rfl (l' := #[.val (.long q0), .second, .val (.long q1), .second, .val (.long q2), .second, .val (.int p3), .val (.int p4), .val (.long (q0 &&& (9223372036854775807 : Int64))), .second, .val (.long (q1 &&& (9223372036854775807 : Int64))), .second, .val (.long (0 : Int64)), .second, .val (.int (p3 &&& (2147483647 : Int32))), .unset, .unset, .unset, .unset, .unset, .unset, .unset]) rfl k) ?_
      show own_Go _ _ _ _ s₁ (mkF m 52 #[.val (.long q0), .second, .val (.long q1), .second, .val (.long q2), .second, .val (.int p3), .val (.int p4), .val (.long (q0 &&& (9223372036854775807 : Int64))), .second, .val (.long (q1 &&& (9223372036854775807 : Int64))), .second, .val (.long (0 : Int64)), .second, .val (.int (p3 &&& (2147483647 : Int32))), .unset, .unset, .unset, .unset, .unset, .unset, .unset] [])
      exact JG52 (q1 &&& (9223372036854775807 : Int64)) (0 : Int64)  (own_pos _) (by decide)
  ·
    refine own_st (fun t k => XS.ifNo X0.here hx rfl (hb hby at_11) rfl ((if0 _ _).trans (feq c11_21).1) k) ?_
    show own_Go _ _ _ _ s₁ (mkF m 14 #[.val (.long q0), .second, .val (.long q1), .second, .val (.long q2), .second, .val (.int p3), .val (.int p4), .val (.long (q0 &&& (9223372036854775807 : Int64))), .second, .unset, .unset, .unset, .unset, .unset, .unset, .unset, .unset, .unset, .unset, .unset, .unset] [])
    refine own_st (fun t k => XS.lconst X0.here hx rfl (hb hby at_14) k) ?_
    show own_Go _ _ _ _ s₁ (mkF m 15 #[.val (.long q0), .second, .val (.long q1), .second, .val (.long q2), .second, .val (.int p3), .val (.int p4), .val (.long (q0 &&& (9223372036854775807 : Int64))), .second, .unset, .unset, .unset, .unset, .unset, .unset, .unset, .unset, .unset, .unset, .unset, .unset] [(.long (0 : Int64))])
    refine own_st (fun t k => XS.goto X0.here hx rfl (pc0 := 15) (pc' := 23) rfl (hb hby at_15) (by decide) (by decide) k) ?_
    show own_Go _ _ _ _ s₁ (mkF m 23 #[.val (.long q0), .second, .val (.long q1), .second, .val (.long q2), .second, .val (.int p3), .val (.int p4), .val (.long (q0 &&& (9223372036854775807 : Int64))), .second, .unset, .unset, .unset, .unset, .unset, .unset, .unset, .unset, .unset, .unset, .unset, .unset] [(.long (0 : Int64))])
    refine own_st (fun t k => XS.lstore X0.here hx rfl (hb hby at_23) rfl (l' := #[.val (.long q0), .second, .val (.long q1), .second, .val (.long q2), .second, .val (.int p3), .val (.int p4), .val (.long (q0 &&& (9223372036854775807 : Int64))), .second, .val (.long (0 : Int64)), .second, .unset, .unset, .unset, .unset, .unset, .unset, .unset, .unset, .unset, .unset]) rfl k) ?_
    show own_Go _ _ _ _ s₁ (mkF m 25 #[.val (.long q0), .second, .val (.long q1), .second, .val (.long q2), .second, .val (.int p3), .val (.int p4), .val (.long (q0 &&& (9223372036854775807 : Int64))), .second, .val (.long (0 : Int64)), .second, .unset, .unset, .unset, .unset, .unset, .unset, .unset, .unset, .unset, .unset] [])
    refine own_st (fun t k => XS.iload X0.here hx rfl (hb hby at_25) rfl k) ?_
    show own_Go _ _ _ _ s₁ (mkF m 27 #[.val (.long q0), .second, .val (.long q1), .second, .val (.long q2), .second, .val (.int p3), .val (.int p4), .val (.long (q0 &&& (9223372036854775807 : Int64))), .second, .val (.long (0 : Int64)), .second, .unset, .unset, .unset, .unset, .unset, .unset, .unset, .unset, .unset, .unset] [(.int p4)])
    refine own_st (fun t k => XS.bipush X0.here hx rfl (hb hby at_27) k) ?_
    show own_Go _ _ _ _ s₁ (mkF m 29 #[.val (.long q0), .second, .val (.long q1), .second, .val (.long q2), .second, .val (.int p3), .val (.int p4), .val (.long (q0 &&& (9223372036854775807 : Int64))), .second, .val (.long (0 : Int64)), .second, .unset, .unset, .unset, .unset, .unset, .unset, .unset, .unset, .unset, .unset] [(.int (8 : Int32)), (.int p4)])
    refine own_st (fun t k => XS.iand X0.here hx rfl (hb hby at_29) rfl k) ?_
    show own_Go _ _ _ _ s₁ (mkF m 30 #[.val (.long q0), .second, .val (.long q1), .second, .val (.long q2), .second, .val (.int p3), .val (.int p4), .val (.long (q0 &&& (9223372036854775807 : Int64))), .second, .val (.long (0 : Int64)), .second, .unset, .unset, .unset, .unset, .unset, .unset, .unset, .unset, .unset, .unset] [(.int (p4 &&& (8 : Int32)))])
    by_cases c30_23 : (p4 &&& (8 : Int32)) = (0 : Int32)
    ·
      refine own_st (fun t k => XS.ifYes X0.here hx rfl (pc0 := 30) (pc' := 37) rfl (hb hby at_30) rfl ((if0 _ _).trans (teq c30_23).1) (by decide) (by decide) k) ?_
      show own_Go _ _ _ _ s₁ (mkF m 37 #[.val (.long q0), .second, .val (.long q1), .second, .val (.long q2), .second, .val (.int p3), .val (.int p4), .val (.long (q0 &&& (9223372036854775807 : Int64))), .second, .val (.long (0 : Int64)), .second, .unset, .unset, .unset, .unset, .unset, .unset, .unset, .unset, .unset, .unset] [])
      refine own_st (fun t k => XS.lload X0.here hx rfl (hb hby at_37) rfl k) ?_
      show own_Go _ _ _ _ s₁ (mkF m 39 #[.val (.long q0), .second, .val (.long q1), .second, .val (.long q2), .second, .val (.int p3), .val (.int p4), .val (.long (q0 &&& (9223372036854775807 : Int64))), .second, .val (.long (0 : Int64)), .second, .unset, .unset, .unset, .unset, .unset, .unset, .unset, .unset, .unset, .unset] [(.long q2)])
      refine own_st (X0.ldc2Long hx hown (mvT hZ (hw _ (List.mem_of_getElem? (i := 0) rfl))) (g := (mkF m 39 #[.val (.long q0), .second, .val (.long q1), .second, .val (.long q2), .second, .val (.int p3), .val (.int p4), .val (.long (q0 &&& (9223372036854775807 : Int64))), .second, .val (.long (0 : Int64)), .second, .unset, .unset, .unset, .unset, .unset, .unset, .unset, .unset, .unset, .unset] [(.long q2)])) rfl (hb hby at_39)) ?_
      show own_Go _ _ _ _ s₁ (mkF m 42 #[.val (.long q0), .second, .val (.long q1), .second, .val (.long q2), .second, .val (.int p3), .val (.int p4), .val (.long (q0 &&& (9223372036854775807 : Int64))), .second, .val (.long (0 : Int64)), .second, .unset, .unset, .unset, .unset, .unset, .unset, .unset, .unset, .unset, .unset] [(.long (9223372036854775807 : Int64)), (.long q2)])
      refine own_st (fun t k => XS.land X0.here hx rfl (hb hby at_42) rfl k) ?_
      show own_Go _ _ _ _ s₁ (mkF m 43 #[.val (.long q0), .second, .val (.long q1), .second, .val (.long q2), .second, .val (.int p3), .val (.int p4), .val (.long (q0 &&& (9223372036854775807 : Int64))), .second, .val (.long (0 : Int64)), .second, .unset, .unset, .unset, .unset, .unset, .unset, .unset, .unset, .unset, .unset] [(.long (q2 &&& (9223372036854775807 : Int64)))])
      refine own_st (fun t k => XS.lstore X0.here hx rfl (hb hby at_43) rfl (l' := #[.val (.long q0), .second, .val (.long q1), .second, .val (.long q2), .second, .val (.int p3), .val (.int p4), .val (.long (q0 &&& (9223372036854775807 : Int64))), .second, .val (.long (0 : Int64)), .second, .val (.long (q2 &&& (9223372036854775807 : Int64))), .second, .unset, .unset, .unset, .unset, .unset, .unset, .unset, .unset]) rfl k) ?_
      show own_Go _ _ _ _ s₁ (mkF m 45 #[.val (.long q0), .second, .val (.long q1), .second, .val (.long q2), .second, .val (.int p3), .val (.int p4), .val (.long (q0 &&& (9223372036854775807 : Int64))), .second, .val (.long (0 : Int64)), .second, .val (.long (q2 &&& (9223372036854775807 : Int64))), .second, .unset, .unset, .unset, .unset, .unset, .unset, .unset, .unset] [])
      refine own_st (fun t k => XS.iload X0.here hx rfl (hb hby at_45) rfl k) ?_
      show own_Go _ _ _ _ s₁ (mkF m 47 #[.val (.long q0), .second, .val (.long q1), .second, .val (.long q2), .second, .val (.int p3), .val (.int p4), .val (.long (q0 &&& (9223372036854775807 : Int64))), .second, .val (.long (0 : Int64)), .second, .val (.long (q2 &&& (9223372036854775807 : Int64))), .second, .unset, .unset, .unset, .unset, .unset, .unset, .unset, .unset] [(.int p3)])
      refine own_st (X0.ldcInt hx hown (mvT hZ (hw _ (List.mem_of_getElem? (i := 1) rfl))) (g := (mkF m 47 #[.val (.long q0), .second, .val (.long q1), .second, .val (.long q2), .second, .val (.int p3), .val (.int p4), .val (.long (q0 &&& (9223372036854775807 : Int64))), .second, .val (.long (0 : Int64)), .second, .val (.long (q2 &&& (9223372036854775807 : Int64))), .second, .unset, .unset, .unset, .unset, .unset, .unset, .unset, .unset] [(.int p3)])) rfl (hb hby at_47)) ?_
      show own_Go _ _ _ _ s₁ (mkF m 49 #[.val (.long q0), .second, .val (.long q1), .second, .val (.long q2), .second, .val (.int p3), .val (.int p4), .val (.long (q0 &&& (9223372036854775807 : Int64))), .second, .val (.long (0 : Int64)), .second, .val (.long (q2 &&& (9223372036854775807 : Int64))), .second, .unset, .unset, .unset, .unset, .unset, .unset, .unset, .unset] [(.int (2147483647 : Int32)), (.int p3)])
      refine own_st (fun t k => XS.iand X0.here hx rfl (hb hby at_49) rfl k) ?_
      show own_Go _ _ _ _ s₁ (mkF m 50 #[.val (.long q0), .second, .val (.long q1), .second, .val (.long q2), .second, .val (.int p3), .val (.int p4), .val (.long (q0 &&& (9223372036854775807 : Int64))), .second, .val (.long (0 : Int64)), .second, .val (.long (q2 &&& (9223372036854775807 : Int64))), .second, .unset, .unset, .unset, .unset, .unset, .unset, .unset, .unset] [(.int (p3 &&& (2147483647 : Int32)))])
      refine own_st (fun t k => XS.istore X0.here hx rfl (hb hby at_50) rfl (l' := #[.val (.long q0), .second, .val (.long q1), .second, .val (.long q2), .second, .val (.int p3), .val (.int p4), .val (.long (q0 &&& (9223372036854775807 : Int64))), .second, .val (.long (0 : Int64)), .second, .val (.long (q2 &&& (9223372036854775807 : Int64))), .second, .val (.int (p3 &&& (2147483647 : Int32))), .unset, .unset, .unset, .unset, .unset, .unset, .unset]) rfl k) ?_
      show own_Go _ _ _ _ s₁ (mkF m 52 #[.val (.long q0), .second, .val (.long q1), .second, .val (.long q2), .second, .val (.int p3), .val (.int p4), .val (.long (q0 &&& (9223372036854775807 : Int64))), .second, .val (.long (0 : Int64)), .second, .val (.long (q2 &&& (9223372036854775807 : Int64))), .second, .val (.int (p3 &&& (2147483647 : Int32))), .unset, .unset, .unset, .unset, .unset, .unset, .unset] [])
      exact JG52 (0 : Int64) (q2 &&& (9223372036854775807 : Int64))  (by decide) (own_pos _)
    ·
      refine own_st (fun t k => XS.ifNo X0.here hx rfl (hb hby at_30) rfl ((if0 _ _).trans (feq c30_23).1) k) ?_
      show own_Go _ _ _ _ s₁ (mkF m 33 #[.val (.long q0), .second, .val (.long q1), .second, .val (.long q2), .second, .val (.int p3), .val (.int p4), .val (.long (q0 &&& (9223372036854775807 : Int64))), .second, .val (.long (0 : Int64)), .second, .unset, .unset, .unset, .unset, .unset, .unset, .unset, .unset, .unset, .unset] [])
      refine own_st (fun t k => XS.lconst X0.here hx rfl (hb hby at_33) k) ?_
      show own_Go _ _ _ _ s₁ (mkF m 34 #[.val (.long q0), .second, .val (.long q1), .second, .val (.long q2), .second, .val (.int p3), .val (.int p4), .val (.long (q0 &&& (9223372036854775807 : Int64))), .second, .val (.long (0 : Int64)), .second, .unset, .unset, .unset, .unset, .unset, .unset, .unset, .unset, .unset, .unset] [(.long (0 : Int64))])
      refine own_st (fun t k => XS.goto X0.here hx rfl (pc0 := 34) (pc' := 43) rfl (hb hby at_34) (by decide) (by decide) k) ?_
      show own_Go _ _ _ _ s₁ (mkF m 43 #[.val (.long q0), .second, .val (.long q1), .second, .val (.long q2), .second, .val (.int p3), .val (.int p4), .val (.long (q0 &&& (9223372036854775807 : Int64))), .second, .val (.long (0 : Int64)), .second, .unset, .unset, .unset, .unset, .unset, .unset, .unset, .unset, .unset, .unset] [(.long (0 : Int64))])
      refine own_st (fun t k => XS.lstore X0.here hx rfl (hb hby at_43) rfl (l' := #[.val (.long q0), .second, .val (.long q1), .second, .val (.long q2), .second, .val (.int p3), .val (.int p4), .val (.long (q0 &&& (9223372036854775807 : Int64))), .second, .val (.long (0 : Int64)), .second, .val (.long (0 : Int64)), .second, .unset, .unset, .unset, .unset, .unset, .unset, .unset, .unset]) rfl k) ?_
      show own_Go _ _ _ _ s₁ (mkF m 45 #[.val (.long q0), .second, .val (.long q1), .second, .val (.long q2), .second, .val (.int p3), .val (.int p4), .val (.long (q0 &&& (9223372036854775807 : Int64))), .second, .val (.long (0 : Int64)), .second, .val (.long (0 : Int64)), .second, .unset, .unset, .unset, .unset, .unset, .unset, .unset, .unset] [])
      refine own_st (fun t k => XS.iload X0.here hx rfl (hb hby at_45) rfl k) ?_
      show own_Go _ _ _ _ s₁ (mkF m 47 #[.val (.long q0), .second, .val (.long q1), .second, .val (.long q2), .second, .val (.int p3), .val (.int p4), .val (.long (q0 &&& (9223372036854775807 : Int64))), .second, .val (.long (0 : Int64)), .second, .val (.long (0 : Int64)), .second, .unset, .unset, .unset, .unset, .unset, .unset, .unset, .unset] [(.int p3)])
      refine own_st (X0.ldcInt hx hown (mvT hZ (hw _ (List.mem_of_getElem? (i := 1) rfl))) (g := (mkF m 47 #[.val (.long q0), .second, .val (.long q1), .second, .val (.long q2), .second, .val (.int p3), .val (.int p4), .val (.long (q0 &&& (9223372036854775807 : Int64))), .second, .val (.long (0 : Int64)), .second, .val (.long (0 : Int64)), .second, .unset, .unset, .unset, .unset, .unset, .unset, .unset, .unset] [(.int p3)])) rfl (hb hby at_47)) ?_
      show own_Go _ _ _ _ s₁ (mkF m 49 #[.val (.long q0), .second, .val (.long q1), .second, .val (.long q2), .second, .val (.int p3), .val (.int p4), .val (.long (q0 &&& (9223372036854775807 : Int64))), .second, .val (.long (0 : Int64)), .second, .val (.long (0 : Int64)), .second, .unset, .unset, .unset, .unset, .unset, .unset, .unset, .unset] [(.int (2147483647 : Int32)), (.int p3)])
      refine own_st (fun t k => XS.iand X0.here hx rfl (hb hby at_49) rfl k) ?_
      show own_Go _ _ _ _ s₁ (mkF m 50 #[.val (.long q0), .second, .val (.long q1), .second, .val (.long q2), .second, .val (.int p3), .val (.int p4), .val (.long (q0 &&& (9223372036854775807 : Int64))), .second, .val (.long (0 : Int64)), .second, .val (.long (0 : Int64)), .second, .unset, .unset, .unset, .unset, .unset, .unset, .unset, .unset] [(.int (p3 &&& (2147483647 : Int32)))])
      refine own_st (fun t k => XS.istore X0.here hx rfl (hb hby at_50) rfl (l' := #[.val (.long q0), .second, .val (.long q1), .second, .val (.long q2), .second, .val (.int p3), .val (.int p4), .val (.long (q0 &&& (9223372036854775807 : Int64))), .second, .val (.long (0 : Int64)), .second, .val (.long (0 : Int64)), .second, .val (.int (p3 &&& (2147483647 : Int32))), .unset, .unset, .unset, .unset, .unset, .unset, .unset]) rfl k) ?_
      show own_Go _ _ _ _ s₁ (mkF m 52 #[.val (.long q0), .second, .val (.long q1), .second, .val (.long q2), .second, .val (.int p3), .val (.int p4), .val (.long (q0 &&& (9223372036854775807 : Int64))), .second, .val (.long (0 : Int64)), .second, .val (.long (0 : Int64)), .second, .val (.int (p3 &&& (2147483647 : Int32))), .unset, .unset, .unset, .unset, .unset, .unset, .unset] [])
      exact JG52 (0 : Int64) (0 : Int64)  (by decide) (by decide)
set_option maxRecDepth 65536 in
set_option maxHeartbeats 40000000 in
theorem comes_1 {Post : Tables → Env → Array Value → State → Outcome → State → Prop} (hpost : ∀ tb e args s v u, (limb_1_1.after args s (.returned v) u = true ∧ limb_1_2.after args s (.returned v) u = true ∧ True) → ReturnedEndW s (.returned v) u (Jvm.fieldLocs frame_1_writes args s ++ Jvm.arrayLocs frame_1_arrays args s ++ Jvm.staticLocs frame_1_statics s) 16 1152 → Post tb e args s (.returned v) u) :
    ArmFor flags0 classFile x code maxLocals ret World_1 tables_1 room_1 Calls_1 rest_1 Pre_1 Post := by
  intro l hfl _ _ p e ha hc hk s m args below hf hA hF happ hP
  obtain ⟨hcalls, hrest, hpre⟩ := hP
  obtain ⟨-, -, -, hnamed, -, -, -, hat⟩ := (Spec.applies_iff hf).mp happ
  obtain ⟨hg, hn⟩ := and_e (Cond.before_iff.mp (show (Jvm.Cond.and given_1 narrow_1).before args s = true from hpre))
  obtain ⟨gc, gr0⟩ := and_e hg
  obtain ⟨ga0, gr1⟩ := and_e gr0
  obtain ⟨ga1, gr2⟩ := and_e gr1
  obtain ⟨ga2, gr3⟩ := and_e gr2
  obtain ⟨ga3, gr4⟩ := and_e gr3
  obtain ⟨w0, w1, w2, w3, w4, rfl⟩ : ∃ w0 w1 w2 w3 w4 : Value, args = #[w0, w1, w2, w3, w4] := by
    have hs : args.size = 5 := by simpa [Cond.value, given_1] using gc
    obtain ⟨L⟩ := args
    match L, hs with
    | [w0, w1, w2, w3, w4], _ => exact ⟨w0, w1, w2, w3, w4, rfl⟩
  have hw := fun d (hd : d ∈ tables_1) => atoms_spec (ws := Jvm.Cond.code x code maxLocals ret :: tables_1) hat d (List.mem_cons_of_mem _ hd)
  have hfit : Fit s := fun {y c} hc i hi => by
    obtain ⟨ha, rfl⟩ := Array.getElem?_eq_some_iff.mp hc
    have q := List.all_eq_true.mp ((Array.all_eq_true_iff_forall_mem.mp hF) _ (Array.getElem_mem ha)) i (List.mem_range.mpr hi)
    simpa [Array.getElem?_eq_getElem hi] using q
  obtain ⟨i0, ei0⟩ := isL_v ga0
  obtain rfl : w0 = (.long i0) := Option.some.inj ei0
  obtain ⟨i1, ei1⟩ := isL_v ga1
  obtain rfl : w1 = (.long i1) := Option.some.inj ei1
  obtain ⟨i2, ei2⟩ := isL_v ga2
  obtain rfl : w2 = (.long i2) := Option.some.inj ei2
  obtain ⟨i3, ei3⟩ := is_v ga3
  obtain rfl : w3 = (.int i3) := Option.some.inj ei3
  obtain ⟨i4, ei4⟩ := is_v gr4
  obtain rfl : w4 = (.int i4) := Option.some.inj ei4
  obtain ⟨hn1, hn⟩ := and_e hn
  obtain ⟨hn2, hn⟩ := and_e hn
  obtain ⟨hn3, hn4⟩ := and_e hn
  obtain ⟨al, ev_al⟩ := exa_v hn1
  have S_al := Sta.start ev_al (Or.inr ⟨(hw _ (List.mem_of_getElem? (i := 3) rfl)), (hw _ (List.mem_of_getElem? (i := 4) rfl))⟩)
  have F_al := Fld.start ((fld_at ev_al).symm.trans (own_eq_int hn4))
  obtain ⟨an, ev_an⟩ := exa_v hn2
  have S_an := Sta.start ev_an (Or.inr ⟨(hw _ (List.mem_of_getElem? (i := 3) rfl)), (hw _ (List.mem_of_getElem? (i := 49) rfl))⟩)
  have F_an := Fld.start ((fld_at ev_an).symm.trans (own_eq_int hn3))
  have nal : al ≠ an := Fld.ne F_al F_an (by decide)
  obtain ⟨n, o, h1, h2, h3, _, L, rfl, ⟨rfl, N⟩, hq⟩ := rm0 l s _ hw tables_1 i0 i1 i2 i3 i4 al an s.heap s.heap.size (Nat.le_refl _) S_al S_an nal p e ha hc hk s m _ below hf ((Spec.applies_iff_loose hf).mp happ).1 ⟨rfl, State.Warmed39.refl s, rfl⟩ trivial
  refine ⟨n, _, h1, h2, h3, hpost _ _ _ _ _ _ ⟨Cond.after_iff.mpr rfl, Cond.after_iff.mpr (eq_i res_at (Term.int_eval (1)) rfl), trivial⟩ ⟨hq.1, hq.2.1, hq.2.2.1, (hq.2.2.2.sift fun y hy => Or.inr (N y hy)).mono (by decide) (by decide)⟩⟩
theorem main_1_1 : Claimed_1_1 := comes_1 fun _ _ _ _ _ _ h hF => ⟨h.1, hF⟩
theorem main_1_2 : Claimed_1_2 := comes_1 fun _ _ _ _ _ _ h hF => ⟨h.2.1, hF⟩
end Jvm.Pilot.@@N@@
namespace Jvm.Pilot.@@N@@
open Jvm Jvm.ClassFile Sem Op Lib Jvm.Free Jvm.Stand Jvm.Pilot.@@N@@.Jvm.D
/-! MADE BY PROGRAM (witnessworld.py) out of the Statement's table words and the real class files: 18 classes; the members and pool entries that the words name. The judged class is class 1, her method 1. -/
namespace start1
open Jvm.ClassFile
def u (s : String) : CpInfo := .utf8 (stringToUtf16 s)
/-- a pool by its gaps: so many unusable entries, then the entry; so many at the end -/
def gap : Nat → List CpInfo → List CpInfo
  | 0, r => r
  | n + 1, r => .unusable :: gap n r
def poolList (es : List (Nat × CpInfo)) (last : Nat) : List CpInfo := es.foldr (fun e r => gap e.1 (e.2 :: r)) (gap last [])
def pool (es : List (Nat × CpInfo)) (last : Nat) : Array CpInfo := ⟨poolList es last⟩
def fileOf (pool : Array CpInfo) (this : Nat) (attrs : Array Attribute := #[]) (ms : Array MethodInfo := #[]) (fl : Nat := 33) (sup : Nat := 0) (ifs : Array Nat := #[]) (fds : Array FieldInfo := #[]) : ClassFile where
  minorVersion := 0
  majorVersion := 65
  constantPool := pool
  accessFlags := fl
  thisClass := this
  superClass := sup
  interfaces := ifs
  fields := fds
  methods := ms
  attributes := attrs
def plain (name : String) (sup : Option ClassId) : Class where
  name := name
  kind := .ordinary
  loader := none
  accessFlags := 33
  super := sup
  interfaces := #[]
  cf := none
  fields := #[]
  methods := #[]
  instanceTypes := #[]
  staticTypes := #[]
  resolved := #[]
  callSites := []
  init := .initialized
  statics := none
  mirror := none

def pool0 : Array CpInfo := pool [(5, u "<init>"), (0, u "()V"), (1, .class_ 10), (1, u "java/lang/Object")] 113

def k0c0 : Code := { maxStack := 0, maxLocals := 1, code := object_method_1_code, exceptionTable := #[], attributes := #[] }
def k0m0 : Method := { name := "<init>", desc := "()V", sig := { parameters := [], returnType := none }, accessFlags := 1, code := some k0c0 }
/-- java/lang/Object -/
def k0 : Class := { plain "java/lang/Object" none with
  accessFlags := 33
  interfaces := #[]
  cf := some (fileOf pool0 8 #[] #[{ accessFlags := 1, nameIndex := 5, descriptorIndex := 6, attributes := #[] }] 33 0 #[] #[])
  fields := #[]
  methods := #[k0m0]
  instanceTypes := #[]
  staticTypes := #[]
  resolved := Array.replicate 124 none
  statics := none }

def pool1 : Array CpInfo := pool [(2, .class_ 4), (1, u "java/lang/Object"), (0, u "<init>"), (0, u "()V"), (2, .long 9223372036854775807), (1, .integer 2147483647), (0, .fieldref 13 14), (0, .class_ 15), (0, .nameAndType 16 17), (0, u "com/example/decel/decel/retention/Retention$Combine"), (0, u "ALL"), (0, u "Lcom/example/decel/decel/retention/Retention$Combine;"), (0, .fieldref 13 19), (0, .nameAndType 20 17), (0, u "ANY"), (0, .class_ 22), (0, u "com/example/decel/decel/retention/Retention"), (0, .methodref 21 24), (0, .nameAndType 5 25), (0, u "(IJLcom/example/decel/decel/retention/Retention$Combine;JZ)V"), (0, .methodref 21 27), (0, .nameAndType 28 29), (0, u "lastAdmitted"), (0, u "(J)J"), (0, .class_ 31), (0, u "com/example/decel/decel/retention/RetentionLastAdmittedPinLaw"), (2, u "law"), (0, u "(JJJII)Z")] 5

def k1m0 : Method := { name := "<init>", desc := "()V", sig := { parameters := [], returnType := none }, accessFlags := 1, code := none }
def k1c1 : Code := { maxStack := 9, maxLocals := 22, code := code, exceptionTable := #[], attributes := #[] }
def k1m1 : Method := { name := "law", desc := "(JJJII)Z", sig := { parameters := [.long, .long, .long, .int, .int], returnType := some .boolean }, accessFlags := 9, code := some k1c1 }
/-- com/example/decel/decel/retention/RetentionLastAdmittedPinLaw -/
def k1 : Class := { plain "com/example/decel/decel/retention/RetentionLastAdmittedPinLaw" (some 0) with
  accessFlags := 49
  interfaces := #[]
  cf := some (fileOf pool1 30 #[] #[{ accessFlags := 1, nameIndex := 5, descriptorIndex := 6, attributes := #[] }, { accessFlags := 9, nameIndex := 34, descriptorIndex := 35, attributes := #[] }] 49 2 #[] #[])
  fields := #[]
  methods := #[k1m0, k1m1]
  instanceTypes := #[]
  staticTypes := #[]
  resolved := Array.replicate 41 none
  statics := none }

def pool2 : Array CpInfo := pool [(1, .class_ 2), (0, u "java/lang/constant/Constable"), (0, .class_ 4), (0, u "java/lang/Object")] 6

/-- java/lang/constant/Constable -/
def k2 : Class := { plain "java/lang/constant/Constable" (some 0) with
  accessFlags := 1537
  interfaces := #[]
  cf := some (fileOf pool2 1 #[] #[] 1537 3 #[] #[])
  fields := #[]
  methods := #[]
  instanceTypes := #[]
  staticTypes := #[]
  resolved := Array.replicate 11 none
  statics := none }

def pool3 : Array CpInfo := pool [(1, .class_ 2), (0, u "java/lang/Comparable"), (0, .class_ 4), (0, u "java/lang/Object")] 7

/-- java/lang/Comparable -/
def k3 : Class := { plain "java/lang/Comparable" (some 0) with
  accessFlags := 1537
  interfaces := #[]
  cf := some (fileOf pool3 1 #[] #[] 1537 3 #[] #[])
  fields := #[]
  methods := #[]
  instanceTypes := #[]
  staticTypes := #[]
  resolved := Array.replicate 12 none
  statics := none }

def pool4 : Array CpInfo := pool [(1, .class_ 2), (0, u "java/io/Serializable"), (0, .class_ 4), (0, u "java/lang/Object")] 2

/-- java/io/Serializable -/
def k4 : Class := { plain "java/io/Serializable" (some 0) with
  accessFlags := 1537
  interfaces := #[]
  cf := some (fileOf pool4 1 #[] #[] 1537 3 #[] #[])
  fields := #[]
  methods := #[]
  instanceTypes := #[]
  staticTypes := #[]
  resolved := Array.replicate 7 none
  statics := none }

def pool5 : Array CpInfo := pool [(2, .class_ 4), (1, u "java/lang/Enum"), (0, u "name"), (0, u "Ljava/lang/String;"), (2, u "ordinal"), (0, u "I"), (1, .class_ 14), (1, u "java/lang/Object"), (4, u "hash"), (86, .class_ 108), (1, u "java/lang/Enum$EnumDesc"), (2, .class_ 112), (0, u "java/lang/constant/Constable"), (0, .class_ 114), (0, u "java/lang/Comparable"), (0, .class_ 116), (0, u "java/io/Serializable")] 87

/-- java/lang/Enum -/
def k5 : Class := { plain "java/lang/Enum" (some 0) with
  accessFlags := 1057
  interfaces := #[2, 3, 4]
  cf := some (fileOf pool5 2 #[.nestMembers #[106]] #[] 1057 12 #[111, 113, 115] #[{ accessFlags := 18, nameIndex := 5, descriptorIndex := 6, attributes := #[] }, { accessFlags := 18, nameIndex := 9, descriptorIndex := 10, attributes := #[] }, { accessFlags := 2, nameIndex := 19, descriptorIndex := 10, attributes := #[] }])
  fields := #[{ name := "name", type := (.object "java/lang/String"), accessFlags := 18, slot := 0, constantValue := 0 }, { name := "ordinal", type := .int, accessFlags := 18, slot := 1, constantValue := 0 }, { name := "hash", type := .int, accessFlags := 2, slot := 2, constantValue := 0 }]
  methods := #[]
  instanceTypes := #[(.object "java/lang/String"), .int, .int]
  staticTypes := #[]
  resolved := Array.replicate 204 none
  statics := none }

def pool6 : Array CpInfo := pool [(1, .class_ 2), (0, u "com/example/decel/decel/retention/Retention$Combine"), (2, u "ANY"), (0, u "Lcom/example/decel/decel/retention/Retention$Combine;"), (2, u "ALL"), (2, u "$VALUES"), (0, u "[Lcom/example/decel/decel/retention/Retention$Combine;"), (6, .class_ 22), (1, u "java/lang/Enum"), (25, .class_ 49), (0, u "com/example/decel/decel/retention/Retention")] 2

/-- com/example/decel/decel/retention/Retention$Combine -/
def k6 : Class := { plain "com/example/decel/decel/retention/Retention$Combine" (some 5) with
  accessFlags := 16433
  interfaces := #[]
  cf := some (fileOf pool6 1 #[.nestHost 48] #[] 16433 20 #[] #[{ accessFlags := 16409, nameIndex := 5, descriptorIndex := 6, attributes := #[] }, { accessFlags := 16409, nameIndex := 9, descriptorIndex := 6, attributes := #[] }, { accessFlags := 4122, nameIndex := 12, descriptorIndex := 13, attributes := #[] }])
  fields := #[{ name := "ANY", type := (.object "com/example/decel/decel/retention/Retention$Combine"), accessFlags := 16409, slot := 0, constantValue := 0 }, { name := "ALL", type := (.object "com/example/decel/decel/retention/Retention$Combine"), accessFlags := 16409, slot := 1, constantValue := 0 }, { name := "$VALUES", type := (.array (.object "com/example/decel/decel/retention/Retention$Combine")), accessFlags := 4122, slot := 2, constantValue := 0 }]
  methods := #[]
  instanceTypes := #[(.object "java/lang/String"), .int, .int]
  staticTypes := #[(.object "com/example/decel/decel/retention/Retention$Combine"), (.object "com/example/decel/decel/retention/Retention$Combine"), (.array (.object "com/example/decel/decel/retention/Retention$Combine"))]
  resolved := Array.replicate 52 none
  statics := some 0 }

def pool7 : Array CpInfo := pool [(1, .methodref 2 3), (0, .class_ 4), (0, .nameAndType 5 6), (0, u "java/lang/Object"), (0, u "<init>"), (0, u "()V"), (0, .class_ 8), (0, u "java/lang/Record")] 13

def k7c0 : Code := { maxStack := 1, maxLocals := 1, code := jdk_30_method_1_code, exceptionTable := #[], attributes := #[] }
def k7m0 : Method := { name := "<init>", desc := "()V", sig := { parameters := [], returnType := none }, accessFlags := 4, code := some k7c0 }
/-- java/lang/Record -/
def k7 : Class := { plain "java/lang/Record" (some 0) with
  accessFlags := 1057
  interfaces := #[]
  cf := some (fileOf pool7 7 #[] #[{ accessFlags := 4, nameIndex := 5, descriptorIndex := 6, attributes := #[] }] 1057 2 #[] #[])
  fields := #[]
  methods := #[k7m0]
  instanceTypes := #[]
  staticTypes := #[]
  resolved := Array.replicate 22 none
  statics := none }

def pool8 : Array CpInfo := pool [(1, .methodref 2 3), (0, .class_ 4), (0, .nameAndType 5 6), (0, u "java/lang/Record"), (0, u "<init>"), (0, u "()V"), (0, .string 8), (0, u "combine"), (0, .methodref 10 11), (0, .class_ 12), (0, .nameAndType 13 14), (0, u "java/util/Objects"), (0, u "requireNonNull"), (0, u "(Ljava/lang/Object;Ljava/lang/String;)Ljava/lang/Object;"), (12, .fieldref 28 29), (0, .class_ 30), (0, .nameAndType 31 32), (0, u "com/example/decel/decel/retention/Retention$Combine"), (0, u "ALL"), (0, u "Lcom/example/decel/decel/retention/Retention$Combine;"), (5, .fieldref 39 40), (0, .class_ 41), (0, .nameAndType 42 43), (0, u "com/example/decel/decel/retention/Retention"), (0, u "maxVersions"), (0, u "I"), (0, .fieldref 39 45), (0, .nameAndType 46 47), (0, u "maxAgeMillis"), (0, u "J"), (0, .fieldref 39 49), (0, .nameAndType 8 32), (0, .fieldref 39 51), (0, .nameAndType 52 47), (0, u "windowMillis"), (0, .fieldref 39 54), (0, .nameAndType 55 56), (0, u "sequence"), (0, u "Z"), (2, u "(IJLcom/example/decel/decel/retention/Retention$Combine;JZ)V"), (132, .long 9223372036854775807), (9, u "lastAdmitted"), (0, u "(J)J"), (24, u "KEEP_ALL"), (0, u "Lcom/example/decel/decel/retention/Retention;"), (0, u "NO_EXPIRY")] 79

def k8c0 : Code := { maxStack := 4, maxLocals := 8, code := prog_28_method_1_code, exceptionTable := #[], attributes := #[] }
def k8m0 : Method := { name := "<init>", desc := "(IJLcom/example/decel/decel/retention/Retention$Combine;JZ)V", sig := { parameters := [.int, .long, (.object "com/example/decel/decel/retention/Retention$Combine"), .long, .boolean], returnType := none }, accessFlags := 1, code := some k8c0 }
def k8c1 : Code := { maxStack := 8, maxLocals := 3, code := prog_28_method_16_code, exceptionTable := #[], attributes := #[] }
def k8m1 : Method := { name := "lastAdmitted", desc := "(J)J", sig := { parameters := [.long], returnType := some .long }, accessFlags := 1, code := some k8c1 }
/-- com/example/decel/decel/retention/Retention -/
def k8 : Class := { plain "com/example/decel/decel/retention/Retention" (some 7) with
  accessFlags := 49
  interfaces := #[]
  cf := some (fileOf pool8 39 #[.nestMembers #[28]] #[{ accessFlags := 1, nameIndex := 5, descriptorIndex := 59, attributes := #[] }, { accessFlags := 1, nameIndex := 202, descriptorIndex := 203, attributes := #[] }] 49 2 #[] #[{ accessFlags := 18, nameIndex := 42, descriptorIndex := 43, attributes := #[] }, { accessFlags := 18, nameIndex := 46, descriptorIndex := 47, attributes := #[] }, { accessFlags := 18, nameIndex := 8, descriptorIndex := 32, attributes := #[] }, { accessFlags := 18, nameIndex := 52, descriptorIndex := 47, attributes := #[] }, { accessFlags := 18, nameIndex := 55, descriptorIndex := 56, attributes := #[] }, { accessFlags := 25, nameIndex := 228, descriptorIndex := 229, attributes := #[] }, { accessFlags := 25, nameIndex := 230, descriptorIndex := 47, attributes := #[] }])
  fields := #[{ name := "maxVersions", type := .int, accessFlags := 18, slot := 0, constantValue := 0 }, { name := "maxAgeMillis", type := .long, accessFlags := 18, slot := 1, constantValue := 0 }, { name := "combine", type := (.object "com/example/decel/decel/retention/Retention$Combine"), accessFlags := 18, slot := 2, constantValue := 0 }, { name := "windowMillis", type := .long, accessFlags := 18, slot := 3, constantValue := 0 }, { name := "sequence", type := .boolean, accessFlags := 18, slot := 4, constantValue := 0 }, { name := "KEEP_ALL", type := (.object "com/example/decel/decel/retention/Retention"), accessFlags := 25, slot := 0, constantValue := 0 }, { name := "NO_EXPIRY", type := .long, accessFlags := 25, slot := 1, constantValue := 0 }]
  methods := #[k8m0, k8m1]
  instanceTypes := #[.int, .long, (.object "com/example/decel/decel/retention/Retention$Combine"), .long, .boolean]
  staticTypes := #[(.object "com/example/decel/decel/retention/Retention"), .long]
  resolved := Array.replicate 310 none
  statics := none }

def pool9 : Array CpInfo := pool [(2, .class_ 4), (1, u "java/lang/CharSequence"), (42, .class_ 48), (0, u "java/lang/CharSequence$1CodePointIterator"), (10, .class_ 60), (0, u "java/lang/CharSequence$1CharIterator"), (5, .class_ 67), (0, u "java/lang/Object")] 63

/-- java/lang/CharSequence -/
def k9 : Class := { plain "java/lang/CharSequence" (some 0) with
  accessFlags := 1537
  interfaces := #[]
  cf := some (fileOf pool9 2 #[.nestMembers #[47, 59]] #[] 1537 66 #[] #[])
  fields := #[]
  methods := #[]
  instanceTypes := #[]
  staticTypes := #[]
  resolved := Array.replicate 131 none
  statics := none }

def pool10 : Array CpInfo := pool [(1, .class_ 2), (0, u "java/lang/constant/ConstantDesc"), (0, .class_ 4), (0, u "java/lang/Object")] 32

/-- java/lang/constant/ConstantDesc -/
def k10 : Class := { plain "java/lang/constant/ConstantDesc" (some 0) with
  accessFlags := 1537
  interfaces := #[]
  cf := some (fileOf pool10 1 #[] #[] 1537 3 #[] #[])
  fields := #[]
  methods := #[]
  instanceTypes := #[]
  staticTypes := #[]
  resolved := Array.replicate 37 none
  statics := none }

def pool11 : Array CpInfo := pool [(2, .class_ 4), (1, u "java/lang/Object"), (0, u "<init>"), (0, u "()V"), (3, .class_ 12), (1, u "java/lang/String"), (0, u "value"), (0, u "[B"), (2, u "coder"), (0, u "B"), (2, u "hash"), (0, u "I"), (2, u "hashIsZero"), (0, u "Z"), (13, u "COMPACT_STRINGS"), (534, .class_ 576), (0, u "java/lang/CharSequence"), (22, u "CASE_INSENSITIVE_ORDER"), (0, u "Ljava/util/Comparator;"), (500, u "serialPersistentFields"), (0, u "[Ljava/io/ObjectStreamField;"), (0, .class_ 1104), (0, u "java/lang/String$CaseInsensitiveComparator"), (1, .class_ 1107), (0, u "java/io/Serializable"), (0, .class_ 1109), (0, u "java/lang/Comparable"), (0, .class_ 1111), (0, u "java/lang/constant/Constable"), (0, .class_ 1113), (0, u "java/lang/constant/ConstantDesc"), (2, u "serialVersionUID"), (0, u "J"), (3, u "REPL"), (0, u "C"), (2, u "LATIN1"), (1, u "UTF16")] 323

def k11m0 : Method := { name := "<init>", desc := "()V", sig := { parameters := [], returnType := none }, accessFlags := 1, code := none }
/-- java/lang/String -/
def k11 : Class := { plain "java/lang/String" (some 0) with
  accessFlags := 49
  interfaces := #[4, 3, 9, 2, 10]
  cf := some (fileOf pool11 10 #[.nestMembers #[1103]] #[{ accessFlags := 1, nameIndex := 5, descriptorIndex := 6, attributes := #[] }] 49 2 #[1106, 1108, 575, 1110, 1112] #[{ accessFlags := 18, nameIndex := 13, descriptorIndex := 14, attributes := #[] }, { accessFlags := 18, nameIndex := 17, descriptorIndex := 18, attributes := #[] }, { accessFlags := 2, nameIndex := 21, descriptorIndex := 22, attributes := #[] }, { accessFlags := 2, nameIndex := 25, descriptorIndex := 26, attributes := #[] }, { accessFlags := 26, nameIndex := 1116, descriptorIndex := 1117, attributes := #[] }, { accessFlags := 24, nameIndex := 40, descriptorIndex := 26, attributes := #[] }, { accessFlags := 26, nameIndex := 1101, descriptorIndex := 1102, attributes := #[] }, { accessFlags := 26, nameIndex := 1121, descriptorIndex := 1122, attributes := #[] }, { accessFlags := 25, nameIndex := 599, descriptorIndex := 600, attributes := #[] }, { accessFlags := 24, nameIndex := 1125, descriptorIndex := 18, attributes := #[] }, { accessFlags := 24, nameIndex := 1127, descriptorIndex := 18, attributes := #[] }])
  fields := #[{ name := "value", type := (.array .byte), accessFlags := 18, slot := 0, constantValue := 0 }, { name := "coder", type := .byte, accessFlags := 18, slot := 1, constantValue := 0 }, { name := "hash", type := .int, accessFlags := 2, slot := 2, constantValue := 0 }, { name := "hashIsZero", type := .boolean, accessFlags := 2, slot := 3, constantValue := 0 }, { name := "serialVersionUID", type := .long, accessFlags := 26, slot := 0, constantValue := 0 }, { name := "COMPACT_STRINGS", type := .boolean, accessFlags := 24, slot := 1, constantValue := 0 }, { name := "serialPersistentFields", type := (.array (.object "java/io/ObjectStreamField")), accessFlags := 26, slot := 2, constantValue := 0 }, { name := "REPL", type := .char, accessFlags := 26, slot := 3, constantValue := 0 }, { name := "CASE_INSENSITIVE_ORDER", type := (.object "java/util/Comparator"), accessFlags := 25, slot := 4, constantValue := 0 }, { name := "LATIN1", type := .byte, accessFlags := 24, slot := 5, constantValue := 0 }, { name := "UTF16", type := .byte, accessFlags := 24, slot := 6, constantValue := 0 }]
  methods := #[k11m0]
  instanceTypes := #[(.array .byte), .byte, .int, .boolean]
  staticTypes := #[.long, .boolean, (.array (.object "java/io/ObjectStreamField")), .char, (.object "java/util/Comparator"), .byte, .byte]
  resolved := Array.replicate 1451 none
  statics := none }

def pool12 : Array CpInfo := pool [(2, .class_ 4), (1, u "java/lang/Object"), (0, u "<init>"), (0, u "()V"), (35, .class_ 44), (1, u "java/util/Objects"), (0, u "requireNonNull"), (48, u "(Ljava/lang/Object;Ljava/lang/String;)Ljava/lang/Object;")] 89

def k12m0 : Method := { name := "<init>", desc := "()V", sig := { parameters := [], returnType := none }, accessFlags := 2, code := none }
def k12c1 : Code := { maxStack := 3, maxLocals := 2, code := jdk_31_method_11_code, exceptionTable := #[], attributes := #[] }
def k12m1 : Method := { name := "requireNonNull", desc := "(Ljava/lang/Object;Ljava/lang/String;)Ljava/lang/Object;", sig := { parameters := [(.object "java/lang/Object"), (.object "java/lang/String")], returnType := some (.object "java/lang/Object") }, accessFlags := 9, code := some k12c1 }
/-- java/util/Objects -/
def k12 : Class := { plain "java/util/Objects" (some 0) with
  accessFlags := 49
  interfaces := #[]
  cf := some (fileOf pool12 42 #[] #[{ accessFlags := 2, nameIndex := 5, descriptorIndex := 6, attributes := #[] }, { accessFlags := 9, nameIndex := 45, descriptorIndex := 94, attributes := #[] }] 49 2 #[] #[])
  fields := #[]
  methods := #[k12m0, k12m1]
  instanceTypes := #[]
  staticTypes := #[]
  resolved := Array.replicate 184 none
  statics := none }

def pool13 : Array CpInfo := pool [(1, u "java/lang/Cloneable"), (0, .class_ 1), (0, u "java/lang/Object"), (0, .class_ 3)] 3

/-- java/lang/Cloneable -/
def k13 : Class := { plain "java/lang/Cloneable" (some 0) with
  accessFlags := 1537
  interfaces := #[]
  cf := some (fileOf pool13 2 #[] #[] 1537 4 #[] #[])
  fields := #[]
  methods := #[]
  instanceTypes := #[]
  staticTypes := #[]
  resolved := Array.replicate 8 none
  statics := none }

/-- the primitive byte -/
def k14 : Class := { plain "byte" none with kind := .primitive 'B', accessFlags := 0x411 }
/-- [B -/
def k15 : Class := { plain "[B" (some 0) with kind := .array 14 .byte, interfaces := #[13, 4], accessFlags := 1041 }

/-- the primitive int -/
def k16 : Class := { plain "int" none with kind := .primitive 'I', accessFlags := 0x411 }
/-- [I -/
def k17 : Class := { plain "[I" (some 0) with kind := .array 16 .int, interfaces := #[13, 4], accessFlags := 1041 }

def heap : Heap := #[{ cls := 6, slots := #[.ref 1, .ref 2, .null], vm := .statics 6 },
  { cls := 6, slots := #[.null, .int 0, .int 0], vm := .none },
  { cls := 6, slots := #[.null, .int 1, .int 0], vm := .none }]
def classes : Array Class := #[k0, k1, k2, k3, k4, k5, k6, k7, k8, k9, k10, k11, k12, k13, k14, k15, k16, k17]
def interned : List (Array UInt16 × Addr) := []
def slotsUsed : Nat := 9
def theMethod : MethodId := ⟨1, 1⟩
def args0 : Array Value := #[.long 5, .long 1, .long 7, .int 8, .int 3]
def aboutOver (below : List Frame) : State where
  vm := { classes := classes, interned := interned.toArray }
  heap := heap
  slotsUsed := slotsUsed
  threads := #[{ frames := .invoking theMethod args0 :: below }]
def below0 : List Frame := [.native { method := ⟨0, 0⟩, args := #[] }]
def about1 : State := aboutOver below0
def p0 : Program := .bare "" "" ""
def e0 : Env := launch0.env 0 0 0
theorem w_frames : about1.frames = Frame.invoking theMethod args0 :: below0 := rfl
set_option maxRecDepth 65536 in
theorem w_args : argsFit about1.vm theMethod args0 = true := by decide +kernel
set_option maxRecDepth 65536 in
theorem w_heap : heapFits about1 = true := by decide +kernel
set_option maxRecDepth 65536 in
theorem w_runnable : about1.curStatus? = some .runnable := by decide +kernel
set_option maxRecDepth 65536 in
theorem w_alone : about1.alone = true := by decide +kernel
set_option maxRecDepth 65536 in
theorem w_named : about1.methodNamed? x = some theMethod := by decide +kernel
set_option maxRecDepth 65536 in
theorem w_hears : about1.hears theMethod below0 = true := by decide +kernel
set_option maxRecDepth 65536 in
theorem w_ripe : about1.ripe theMethod args0 below0 = true := by decide +kernel
theorem w_running : about1.status = .running := rfl
set_option maxRecDepth 65536 in
theorem w_room : about1.hasRoom e0.platform room_1 = true :=
  launch0.hasRoom_least _ room_1 (by decide +kernel) (by decide +kernel) (by decide +kernel) (by decide +kernel) (by decide +kernel) (by decide +kernel)
theorem allAtoms_all (ts : List Jvm.Cond) (a : Array Jvm.Value) (st : Jvm.State) : (allAtoms ts).before a st = ts.all (fun c => c.before a st) := by
  induction ts with
  | nil => rfl
  | cons c t ih =>
    show (Jvm.Cond.and c (allAtoms t)).before a st = _
    rw [Jvm.Cond.before_and, ih, List.all_cons]
def words1 : List Jvm.Cond := Jvm.Cond.code x code maxLocals ret :: tables_1
/-- a 'code' word, met by the world's own term for the bytes: nothing is compared byte by byte -/
theorem code_word {y : MethodName} {bytes : ByteArray} {mx : Nat} {rt : Option FieldType} {a : Array Value} {s : State} {m : MethodId} {meth : Method} {c : Code} (h1 : s.methodNamed? y = some m) (h2 : s.vm.method? m = some meth) (h3 : meth.code = some c) (h4 : c.code = bytes)
    (h5 : (c.maxLocals == mx && c.exceptionTable.isEmpty && decide (c.maxStack ≤ mostOperands) && decide (meth.sig.returnType = rt) && !meth.locks && decide (parseMethodDescriptor y.desc = some meth.sig)) = true) : (Jvm.Cond.code y bytes mx rt).before a s = true := by
  simp only [Bool.and_eq_true, beq_iff_eq, Bool.not_eq_true', decide_eq_true_eq] at h5
  obtain ⟨⟨⟨⟨⟨g1, g2⟩, g3⟩, g4⟩, g5⟩, g6⟩ := h5
  simp [Cond.before, Cond.holds, Cond.value, h1, h2, h3, h4, g1, g2, g3, g4, g5, g6]
def isCode : Jvm.Cond → Bool
  | .code _ _ _ _ => true
  | _ => false
theorem all_split {L : List Jvm.Cond} {P : Jvm.Cond → Bool} (h1 : L.all (fun c => isCode c || P c) = true) (h2 : ∀ c ∈ L.filter isCode, P c = true) : L.all P = true := by
  refine List.all_eq_true.mpr fun c hc => ?_
  have h := List.all_eq_true.mp h1 c hc
  rcases Bool.eq_false_or_eq_true (isCode c) with hi | hi
  · exact h2 c (List.mem_filter.mpr ⟨hc, hi⟩)
  · simpa [hi] using h
set_option maxRecDepth 65536 in
theorem w_c0 : (Jvm.Cond.code x code maxLocals ret).before args0 about1 = true := code_word (m := ⟨1, 1⟩) (meth := k1m1) (c := k1c1) (by decide +kernel) rfl rfl rfl (by decide +kernel)
set_option maxRecDepth 65536 in
theorem w_c1 : (Jvm.Cond.code ({ cls := "com/example/decel/decel/retention/Retention", name := "<init>", desc := "(IJLcom/example/decel/decel/retention/Retention$Combine;JZ)V" } : Jvm.MethodName) prog_28_method_1_code (8 : Nat) (Option.none : Option Jvm.ClassFile.FieldType)).before args0 about1 = true := code_word (m := ⟨8, 0⟩) (meth := k8m0) (c := k8c0) (by decide +kernel) rfl rfl rfl (by decide +kernel)
set_option maxRecDepth 65536 in
theorem w_c2 : (Jvm.Cond.code ({ cls := "java/lang/Record", name := "<init>", desc := "()V" } : Jvm.MethodName) jdk_30_method_1_code (1 : Nat) (Option.none : Option Jvm.ClassFile.FieldType)).before args0 about1 = true := code_word (m := ⟨7, 0⟩) (meth := k7m0) (c := k7c0) (by decide +kernel) rfl rfl rfl (by decide +kernel)
set_option maxRecDepth 65536 in
theorem w_c3 : (Jvm.Cond.code ({ cls := "java/lang/Object", name := "<init>", desc := "()V" } : Jvm.MethodName) object_method_1_code (1 : Nat) (Option.none : Option Jvm.ClassFile.FieldType)).before args0 about1 = true := code_word (m := ⟨0, 0⟩) (meth := k0m0) (c := k0c0) (by decide +kernel) rfl rfl rfl (by decide +kernel)
set_option maxRecDepth 65536 in
theorem w_c4 : (Jvm.Cond.code ({ cls := "java/util/Objects", name := "requireNonNull", desc := "(Ljava/lang/Object;Ljava/lang/String;)Ljava/lang/Object;" } : Jvm.MethodName) jdk_31_method_11_code (2 : Nat) (Option.some (Jvm.ClassFile.FieldType.object "java/lang/Object"))).before args0 about1 = true := code_word (m := ⟨12, 1⟩) (meth := k12m1) (c := k12c1) (by decide +kernel) rfl rfl rfl (by decide +kernel)
set_option maxRecDepth 65536 in
theorem w_c5 : (Jvm.Cond.code ({ cls := "com/example/decel/decel/retention/Retention", name := "lastAdmitted", desc := "(J)J" } : Jvm.MethodName) prog_28_method_16_code (3 : Nat) (Option.some Jvm.ClassFile.FieldType.long)).before args0 about1 = true := code_word (m := ⟨8, 1⟩) (meth := k8m1) (c := k8c1) (by decide +kernel) rfl rfl rfl (by decide +kernel)
def codes1 : List Jvm.Cond := [Jvm.Cond.code x code maxLocals ret, Jvm.Cond.code ({ cls := "com/example/decel/decel/retention/Retention", name := "<init>", desc := "(IJLcom/example/decel/decel/retention/Retention$Combine;JZ)V" } : Jvm.MethodName) prog_28_method_1_code (8 : Nat) (Option.none : Option Jvm.ClassFile.FieldType), Jvm.Cond.code ({ cls := "java/lang/Record", name := "<init>", desc := "()V" } : Jvm.MethodName) jdk_30_method_1_code (1 : Nat) (Option.none : Option Jvm.ClassFile.FieldType), Jvm.Cond.code ({ cls := "java/lang/Object", name := "<init>", desc := "()V" } : Jvm.MethodName) object_method_1_code (1 : Nat) (Option.none : Option Jvm.ClassFile.FieldType), Jvm.Cond.code ({ cls := "java/util/Objects", name := "requireNonNull", desc := "(Ljava/lang/Object;Ljava/lang/String;)Ljava/lang/Object;" } : Jvm.MethodName) jdk_31_method_11_code (2 : Nat) (Option.some (Jvm.ClassFile.FieldType.object "java/lang/Object")), Jvm.Cond.code ({ cls := "com/example/decel/decel/retention/Retention", name := "lastAdmitted", desc := "(J)J" } : Jvm.MethodName) prog_28_method_16_code (3 : Nat) (Option.some Jvm.ClassFile.FieldType.long)]
set_option maxRecDepth 65536 in
theorem codes_eq : words1.filter isCode = codes1 := rfl
theorem w_codes : ∀ c ∈ words1.filter isCode, c.before args0 about1 = true := by
  rw [codes_eq]
  intro c hc
  simp only [codes1, List.mem_cons, List.not_mem_nil, or_false] at hc
  rcases hc with rfl | rfl | rfl | rfl | rfl | rfl
  · exact w_c0
  · exact w_c1
  · exact w_c2
  · exact w_c3
  · exact w_c4
  · exact w_c5
set_option maxRecDepth 65536 in
theorem w_t1 : (words1.take 24).all (fun c => isCode c || c.before args0 about1) = true := by decide +kernel
set_option maxRecDepth 65536 in
theorem w_t2 : ((words1.drop 24).take 24).all (fun c => isCode c || c.before args0 about1) = true := by decide +kernel
set_option maxRecDepth 65536 in
theorem w_t3 : ((words1.drop 24).drop 24).all (fun c => isCode c || c.before args0 about1) = true := by decide +kernel
theorem w_tables : (allAtoms (Jvm.Cond.code x code maxLocals ret :: tables_1)).before args0 about1 = true := by
  rw [allAtoms_all]
  show words1.all (fun c => c.before args0 about1) = true
  refine all_split ?_ w_codes
  rw [← List.take_append_drop 24 words1, List.all_append, w_t1, ← List.take_append_drop 24 (words1.drop 24), List.all_append, w_t2, w_t3]
  rfl
set_option maxRecDepth 65536 in
theorem w_case : (Jvm.Cond.and given_1 narrow_1).before args0 about1 = true := by decide +kernel
theorem w_applies : (headSpec (Jvm.Cond.code x code maxLocals ret :: tables_1) room_1).applies x e0.platform about1 = true :=
  (Spec.applies_iff w_frames).mpr ⟨w_running, w_runnable, w_alone, w_named, w_hears, w_ripe, w_room, w_tables⟩
theorem atStart : AtStart classFile x code maxLocals ret World_1 tables_1 room_1 Calls_1 rest_1 Pre_1 launch0 p0 e0 about1 theMethod args0 below0 :=
  ⟨lists_1, trivial, launch0.admits_env _ _ _, launch0.least_env, fairChoices_fair.cas, fairChoices_fair.clock, w_frames, w_args, w_heap, w_applies, trivial, trivial, w_case⟩
end start1
theorem witness_1 : WitnessClaimed_1 := ⟨start1.p0, start1.e0, start1.about1, start1.theMethod, start1.args0, start1.below0, start1.atStart⟩
end Jvm.Pilot.@@N@@
