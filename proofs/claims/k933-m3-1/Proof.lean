import JvmDerived
import JvmDerived.Pilot.@@N@@Statement
import JvmDerived.Pilot.@@N@@Code
set_option linter.unusedVariables false
set_option linter.unusedSimpArgs false
namespace Jvm.RoadKit
open Sem ClassFile Op Lib Jvm.Stand Jvm.Free Jvm.LawKit
section OwnGo
/-- from the state T with the frame g on top the run comes to a state of which K holds -/
def own_Go (tb : Tables) (e : Env) (below : List Frame) (K : State → Prop) (T : State) (g : JFrame) : Prop := ∃ t, Steps tb e below (T.setTop g) t ∧ K t
/-- the invocation has ended by a return, with what Q says of the value, the heap and the written places -/
def own_Fin (below : List Frame) (s : State) (Q : Option Value → Heap → List Loc → Prop) (k n : Nat) (t : State) : Prop := ∃ o, t.status = .running ∧ Ended t below o ∧ ∃ v L, o = .returned v ∧ Q v t.heap L ∧ FrameEnd s o t L k n
variable {p : Program} {l : Launch} {e : Env} {R : Room} {s : State} {m : MethodId} {args : Array Value} {below : List Frame} {meth : Method} {c : Code} {T : State} {locs : List Loc} {cells slots : Nat}
variable {K : State → Prop} {T' : State} {g g' : JFrame} {tb : Tables} {Q : Option Value → Heap → List Loc → Prop} {k n : Nat}
theorem own_st (h : ∀ t, Steps tb e below (T'.setTop g') t → Steps tb e below (T.setTop g) t) (q : own_Go tb e below K T' g') : own_Go tb e below K T g := by
  obtain ⟨t, h1, h2⟩ := q
  exact ⟨t, h _ h1, h2⟩
theorem own_tr (h : Steps tb e below (T.setTop g) (T'.setTop g')) (q : own_Go tb e below K T' g') : own_Go tb e below K T g := by
  obtain ⟨t, h1, h2⟩ := q
  exact ⟨t, h.trans h1, h2⟩
theorem own_in (h : g = g') (q : own_Go tb e below K T g') : own_Go tb e below K T g := h ▸ q
theorem own_out (q : own_Go tb e below (own_Fin below s Q k n) T g) : ∃ s₂ o, Steps tb e below (T.setTop g) s₂ ∧ s₂.status = .running ∧ Ended s₂ below o ∧ ∃ v L, o = .returned v ∧ Q v s₂.heap L ∧ FrameEnd s o s₂ L k n := by
  obtain ⟨t, h1, o, h2, h3, h4⟩ := q
  exact ⟨t, o, h1, h2, h3, h4⟩
theorem own_leave (X : Stand p l e R s m args below meth c T locs cells slots) (hlk : meth.locks = false) {v : Option Value} (hv : meth.sig.returnType = none → v = none) (hq : Q v T.heap locs) (hk : cells ≤ k) (hn : slots ≤ n)
    (st : ∀ fs, (∀ (f : JFrame) (acts : List Action), f.method = m → f.locked = none → f.entered = [] → (doReturn e (T.setTop f) acts v).1 = T.setFrames fs) → Steps p.tables e below (T.setTop g) (T.setFrames fs)) :
    own_Go p.tables e below (own_Fin below s Q k n) T g := by
  obtain ⟨fs, hr, hrun, hended, hW, hsame⟩ := X.leave (v := v) hv hlk
  exact ⟨_, st fs hr, _, hrun, hended, _, _, rfl, hq, ⟨_, rfl⟩, hW, hsame.mono hk hn⟩
variable {pc : Nat} {Ls : Array Slot} {rest : List Value}
theorem own_retV (X : Stand p l e R s m args below meth c T locs cells slots) (hx : p.tables.exec = Jvm.exec) (hlk : meth.locks = false) (hret : meth.sig.returnType = none) (hd : decode c.code pc = .ok (.return_, 1)) (hq : Q none T.heap locs) (hk : cells ≤ k) (hn : slots ≤ n) :
    own_Go p.tables e below (own_Fin below s Q k n) T (mkF m pc Ls []) :=
  own_leave X hlk (fun _ => rfl) hq hk hn fun _ hr => X.returnOut hx hret hd hr
theorem own_retW (X : Stand p l e R s m args below meth c T locs cells slots) (hx : p.tables.exec = Jvm.exec) (hlk : meth.locks = false) {w : Value} {t : FieldType} {i : Instr} (hret : meth.sig.returnType = some t) (hn' : narrow t w = w)
    (hi : (i = .ireturn ∧ (t = .int ∨ t = .boolean ∨ t = .byte ∨ t = .char ∨ t = .short) ∧ ∃ z, w = .int z) ∨ (i = .lreturn ∧ t = .long ∧ ∃ z, w = .long z) ∨ (i = .dreturn ∧ t = .double ∧ ∃ z, w = .double z) ∨ (i = .freturn ∧ t = .float ∧ ∃ z, w = .float z) ∨ (i = .areturn ∧ t.isReference = true ∧ w.isRef = true))
    (hd : decode c.code pc = .ok (i, 1)) (hq : Q (some w) T.heap locs) (hk : cells ≤ k) (hn : slots ≤ n) :
    own_Go p.tables e below (own_Fin below s Q k n) T (mkF m pc Ls (w :: rest)) :=
  own_leave X hlk (fun h => by rw [hret] at h; cases h) hq hk hn fun _ hr => retOut X hx hret hn' hi hd hr
theorem own_retI (X : Stand p l e R s m args below meth c T locs cells slots) (hx : p.tables.exec = Jvm.exec) (hlk : meth.locks = false) {z : Int32} (hret : meth.sig.returnType = some .int) (hd : decode c.code pc = .ok (.ireturn, 1)) (hq : Q (some (.int z)) T.heap locs) (hk : cells ≤ k) (hn : slots ≤ n) :
    own_Go p.tables e below (own_Fin below s Q k n) T (mkF m pc Ls (.int z :: rest)) :=
  own_retW X hx hlk hret rfl (Or.inl ⟨rfl, Or.inl rfl, _, rfl⟩) hd hq hk hn
theorem own_retJ (X : Stand p l e R s m args below meth c T locs cells slots) (hx : p.tables.exec = Jvm.exec) (hlk : meth.locks = false) {z : Int64} (hret : meth.sig.returnType = some .long) (hd : decode c.code pc = .ok (.lreturn, 1)) (hq : Q (some (.long z)) T.heap locs) (hk : cells ≤ k) (hn : slots ≤ n) :
    own_Go p.tables e below (own_Fin below s Q k n) T (mkF m pc Ls (.long z :: rest)) :=
  own_retW X hx hlk hret rfl (Or.inr (Or.inl ⟨rfl, rfl, _, rfl⟩)) hd hq hk hn
theorem own_retR (X : Stand p l e R s m args below meth c T locs cells slots) (hx : p.tables.exec = Jvm.exec) (hlk : meth.locks = false) {w : Value} {t : FieldType} (hret : meth.sig.returnType = some t) (ht : t.isReference = true) (hw : w.isRef = true) (hn' : narrow t w = w) (hd : decode c.code pc = .ok (.areturn, 1)) (hq : Q (some w) T.heap locs) (hk : cells ≤ k) (hn : slots ≤ n) :
    own_Go p.tables e below (own_Fin below s Q k n) T (mkF m pc Ls (w :: rest)) :=
  own_retW X hx hlk hret hn' (Or.inr (Or.inr (Or.inr (Or.inr ⟨rfl, ht, hw⟩)))) hd hq hk hn
theorem own_retN (X : Stand p l e R s m args below meth c T locs cells slots) (hx : p.tables.exec = Jvm.exec) (hlk : meth.locks = false) {z : Int32} {t : FieldType} (hret : meth.sig.returnType = some t) (ht : t = .boolean ∨ t = .byte ∨ t = .char ∨ t = .short) (hd : decode c.code pc = .ok (.ireturn, 1)) (hq : Q (some (.int (nar t z))) T.heap locs) (hk : cells ≤ k) (hn : slots ≤ n) :
    own_Go p.tables e below (own_Fin below s Q k n) T (mkF m pc Ls (.int z :: rest)) :=
  own_leave X hlk (fun h => by rw [hret] at h; cases h) hq hk hn fun _ hr => retN X hx hret ht hd hr
/-- the same, where String constants may have been resolved -/
def own_FinW (below : List Frame) (s : State) (Q : Option Value → Heap → List Loc → Prop) (k n : Nat) (t : State) : Prop := ∃ o, t.status = .running ∧ Ended t below o ∧ ∃ v L, o = .returned v ∧ Q v t.heap L ∧ ReturnedEndW s o t L k n
theorem own_outW (q : own_Go tb e below (own_FinW below s Q k n) T g) : ∃ s₂ o, Steps tb e below (T.setTop g) s₂ ∧ s₂.status = .running ∧ Ended s₂ below o ∧ ∃ v L, o = .returned v ∧ Q v s₂.heap L ∧ ReturnedEndW s o s₂ L k n := by
  obtain ⟨t, h1, o, h2, h3, h4⟩ := q
  exact ⟨t, o, h1, h2, h3, h4⟩
theorem own_leaveW {vm0 : Vm} {k0 : Nat} (X : Stand p l e R (s.setVm vm0) m args below meth c T locs cells slots) (hS : s.Since vm0 k0) (hk0 : k0 ≤ T.heap.size) (hlk : meth.locks = false) {v : Option Value} (hv : meth.sig.returnType = none → v = none) (hq : Q v T.heap locs) (hk : cells ≤ k) (hn : slots ≤ n)
    (st : ∀ fs, (∀ (f : JFrame) (acts : List Action), f.method = m → f.locked = none → f.entered = [] → (doReturn e (T.setTop f) acts v).1 = T.setFrames fs) → Steps p.tables e below (T.setTop g) (T.setFrames fs)) :
    own_Go p.tables e below (own_FinW below s Q k n) T g := by
  obtain ⟨fs, hr, hrun, hended, h1, h2, h3, h4⟩ := X.leaveW hS hk0 (v := v) hv hlk
  exact ⟨_, st fs hr, _, hrun, hended, _, _, rfl, hq, h1, h2, h3, h4.mono hk hn⟩
theorem own_retVW {vm0 : Vm} {k0 : Nat} (X : Stand p l e R (s.setVm vm0) m args below meth c T locs cells slots) (hS : s.Since vm0 k0) (hk0 : k0 ≤ T.heap.size) (hx : p.tables.exec = Jvm.exec) (hlk : meth.locks = false) (hret : meth.sig.returnType = none) (hd : decode c.code pc = .ok (.return_, 1)) (hq : Q none T.heap locs) (hk : cells ≤ k) (hn : slots ≤ n) :
    own_Go p.tables e below (own_FinW below s Q k n) T (mkF m pc Ls []) :=
  own_leaveW X hS hk0 hlk (fun _ => rfl) hq hk hn fun _ hr => X.returnOut hx hret hd hr
theorem own_retWW {vm0 : Vm} {k0 : Nat} (X : Stand p l e R (s.setVm vm0) m args below meth c T locs cells slots) (hS : s.Since vm0 k0) (hk0 : k0 ≤ T.heap.size) (hx : p.tables.exec = Jvm.exec) (hlk : meth.locks = false) {w : Value} {t : FieldType} {i : Instr} (hret : meth.sig.returnType = some t) (hn' : narrow t w = w)
    (hi : (i = .ireturn ∧ (t = .int ∨ t = .boolean ∨ t = .byte ∨ t = .char ∨ t = .short) ∧ ∃ z, w = .int z) ∨ (i = .lreturn ∧ t = .long ∧ ∃ z, w = .long z) ∨ (i = .dreturn ∧ t = .double ∧ ∃ z, w = .double z) ∨ (i = .freturn ∧ t = .float ∧ ∃ z, w = .float z) ∨ (i = .areturn ∧ t.isReference = true ∧ w.isRef = true))
    (hd : decode c.code pc = .ok (i, 1)) (hq : Q (some w) T.heap locs) (hk : cells ≤ k) (hn : slots ≤ n) :
    own_Go p.tables e below (own_FinW below s Q k n) T (mkF m pc Ls (w :: rest)) :=
  own_leaveW X hS hk0 hlk (fun h => by rw [hret] at h; cases h) hq hk hn fun _ hr => retOut X hx hret hn' hi hd hr
theorem own_retNW {vm0 : Vm} {k0 : Nat} (X : Stand p l e R (s.setVm vm0) m args below meth c T locs cells slots) (hS : s.Since vm0 k0) (hk0 : k0 ≤ T.heap.size) (hx : p.tables.exec = Jvm.exec) (hlk : meth.locks = false) {z : Int32} {t : FieldType} (hret : meth.sig.returnType = some t) (ht : t = .boolean ∨ t = .byte ∨ t = .char ∨ t = .short) (hd : decode c.code pc = .ok (.ireturn, 1)) (hq : Q (some (.int (nar t z))) T.heap locs) (hk : cells ≤ k) (hn : slots ≤ n) :
    own_Go p.tables e below (own_FinW below s Q k n) T (mkF m pc Ls (.int z :: rest)) :=
  own_leaveW X hS hk0 hlk (fun h => by rw [hret] at h; cases h) hq hk hn fun _ hr => retN X hx hret ht hd hr
theorem own_wz {Z : State} {vm0 vm1 : Vm} {k1 : Nat} (hZ : Z.Warmed39 vm0) (hs : (s.setVm vm0).Since vm1 k1) : Z.Warmed39 (s.setVm vm1).vm := State.Warmed39.trans (t := s.setVm vm0) hZ hs.1
theorem own_wo {vm0 vm1 : Vm} {k1 : Nat} {own : String} {q : ClassId} (h : (s.setVm vm0).vm.findClass own = some q) (hs : (s.setVm vm0).Since vm1 k1) : (s.setVm vm1).vm.findClass own = some q := by
  rw [show (s.setVm vm1).vm = vm1 from rfl, hs.1.alike.findClass]; exact h
theorem own_sta_keep {Z : State} {h h' : Heap} {C f d : String} {v : Value} {ws : List Addr} (F : Sta Z h C f d v) (K : Keep h h' ws) (hs : ∀ x ∈ ws, ∀ cl : Cell, h[x]? = some cl → cl.vm.isStatics = false) : Sta Z h' C f d v := by
  obtain ⟨cf, i, k, f', st, cell, h1, h2, h3, h4, h5, h6, h7⟩ := F
  refine ⟨cf, i, k, f', st, cell, h1, h2, h3, h4, K.2.1 _ _ h5 fun q => ?_, h6, h7⟩
  rw [hs st q cell h5] at h6
  cases h6
theorem own_hide {k0 : Nat} (X : Stand p l e R s m args below meth c T locs cells slots) (N : Fr k0 locs) : ∃ L : List Loc, Stand p l e R s m args below meth c T L cells slots ∧ Fr k0 L := ⟨_, X, N⟩
theorem own_getD_int (es : List Int32) (i : Nat) : (es.map Value.int).getD i (.int 0) = .int (es.getD i 0) := by
  induction es generalizing i with
  | nil => rfl
  | cons a t ih => cases i with
    | zero => rfl
    | succ j => simpa using ih j
theorem own_getD_long (es : List Int64) (i : Nat) : (es.map Value.long).getD i (.long 0) = .long (es.getD i 0) := by
  induction es generalizing i with
  | nil => rfl
  | cons a t ih => cases i with
    | zero => rfl
    | succ j => simpa using ih j
theorem own_eq_int {args : Array Value} {s : State} {t : Term} {k : Int32} (h : (Cond.eq t (.int k)).value args s none s [] = some true) : t.eval args s none [] s = some (.int k) := by
  obtain ⟨x, y, e1, e2, hk, hk'⟩ := cmp_v (Or.inl h)
  have e3 : y = .int k := by simpa [Term.eval] using e2.symm
  subst e3
  cases x with
  | int z => simp [Cond.value, e1, e2] at h; rw [e1, h]
  | _ => simp [Kin] at hk'
end OwnGo
end Jvm.RoadKit
namespace Jvm.Pilot.@@N@@
open Jvm Jvm.ClassFile Sem Op Lib Jvm.Free Jvm.Stand Jvm.LawKit Jvm.RoadKit Bundle Jvm.Pilot.@@N@@.Jvm.D
/-! body 1: Markup.isXmlCharacter -/
theorem d1_0 : decode prog_41_method_4_code 0 = .ok (.iload_n 0, 1) := by decide +kernel
theorem d1_1 : decode prog_41_method_4_code 1 = .ok (.bipush 9, 2) := by decide +kernel
theorem d1_3 : decode prog_41_method_4_code 3 = .ok (.if_icmp .eq 51, 3) := by decide +kernel
theorem d1_6 : decode prog_41_method_4_code 6 = .ok (.iload_n 0, 1) := by decide +kernel
theorem d1_7 : decode prog_41_method_4_code 7 = .ok (.bipush 10, 2) := by decide +kernel
theorem d1_9 : decode prog_41_method_4_code 9 = .ok (.if_icmp .eq 45, 3) := by decide +kernel
theorem d1_12 : decode prog_41_method_4_code 12 = .ok (.iload_n 0, 1) := by decide +kernel
theorem d1_13 : decode prog_41_method_4_code 13 = .ok (.bipush 13, 2) := by decide +kernel
theorem d1_15 : decode prog_41_method_4_code 15 = .ok (.if_icmp .eq 39, 3) := by decide +kernel
theorem d1_18 : decode prog_41_method_4_code 18 = .ok (.iload_n 0, 1) := by decide +kernel
theorem d1_19 : decode prog_41_method_4_code 19 = .ok (.bipush 32, 2) := by decide +kernel
theorem d1_21 : decode prog_41_method_4_code 21 = .ok (.if_icmp .lt 9, 3) := by decide +kernel
theorem d1_24 : decode prog_41_method_4_code 24 = .ok (.iload_n 0, 1) := by decide +kernel
theorem d1_25 : decode prog_41_method_4_code 25 = .ok (.ldc 13, 2) := by decide +kernel
theorem d1_27 : decode prog_41_method_4_code 27 = .ok (.if_icmp .le 27, 3) := by decide +kernel
theorem d1_30 : decode prog_41_method_4_code 30 = .ok (.iload_n 0, 1) := by decide +kernel
theorem d1_31 : decode prog_41_method_4_code 31 = .ok (.ldc 14, 2) := by decide +kernel
theorem d1_33 : decode prog_41_method_4_code 33 = .ok (.if_icmp .lt 9, 3) := by decide +kernel
theorem d1_36 : decode prog_41_method_4_code 36 = .ok (.iload_n 0, 1) := by decide +kernel
theorem d1_37 : decode prog_41_method_4_code 37 = .ok (.ldc 15, 2) := by decide +kernel
theorem d1_39 : decode prog_41_method_4_code 39 = .ok (.if_icmp .le 15, 3) := by decide +kernel
theorem d1_42 : decode prog_41_method_4_code 42 = .ok (.iload_n 0, 1) := by decide +kernel
theorem d1_43 : decode prog_41_method_4_code 43 = .ok (.ldc 16, 2) := by decide +kernel
theorem d1_45 : decode prog_41_method_4_code 45 = .ok (.if_icmp .lt 13, 3) := by decide +kernel
theorem d1_48 : decode prog_41_method_4_code 48 = .ok (.iload_n 0, 1) := by decide +kernel
theorem d1_49 : decode prog_41_method_4_code 49 = .ok (.ldc 19, 2) := by decide +kernel
theorem d1_51 : decode prog_41_method_4_code 51 = .ok (.if_icmp .gt 7, 3) := by decide +kernel
theorem d1_54 : decode prog_41_method_4_code 54 = .ok (.iconst 1, 1) := by decide +kernel
theorem d1_55 : decode prog_41_method_4_code 55 = .ok (.goto 4, 3) := by decide +kernel
theorem d1_58 : decode prog_41_method_4_code 58 = .ok (.iconst 0, 1) := by decide +kernel
theorem d1_59 : decode prog_41_method_4_code 59 = .ok (.ireturn, 1) := by decide +kernel
theorem pn_shelfmark_Markup : plainName "shelfmark/Markup" = true := by first | (simp [plainName, overriddenIn]; done) | decide +kernel
theorem ef_1 (m : MethodId) (x0 : Int32) : entryFrame m #[(.int x0)] 1 = mkF m 0 #[.val (.int x0)] [] := by first | (simp [entryFrame, mkF, argsToLocals, Value.category]; done) | rfl
def own_f1_58 (p0 : Int32) : Int32 := (0 : Int32)
def own_f1_54 (p0 : Int32) : Int32 := (1 : Int32)
def own_f1_42 (p0 : Int32) : Int32 := (if p0 < (65536 : Int32) then (own_f1_58 p0) else (if (1114111 : Int32) < p0 then (own_f1_58 p0) else (own_f1_54 p0)))
def own_f1_30 (p0 : Int32) : Int32 := (if p0 < (57344 : Int32) then (own_f1_42 p0) else (if (65533 : Int32) < p0 then (own_f1_42 p0) else (own_f1_54 p0)))
def own_f1 (p0 : Int32) : Int32 := (if p0 = (9 : Int32) then (own_f1_54 p0) else (if p0 = (10 : Int32) then (own_f1_54 p0) else (if p0 = (13 : Int32) then (own_f1_54 p0) else (if p0 < (32 : Int32) then (own_f1_30 p0) else (if (55295 : Int32) < p0 then (own_f1_30 p0) else (own_f1_54 p0))))))
def Q1 (Z : State) (p0 : Int32) (h0 : Heap) (n0 : Nat) (v : Option Value) (h : Heap) (L : List Loc) : Prop := v = some (.int (own_f1 p0)) ∧ Fr n0 L ∧ h = h0
set_option maxRecDepth 65536 in
set_option maxHeartbeats 40000000 in
theorem rm1 (l : Launch) (Z : State) (a0 : Array Value) (hw : ∀ d ∈ tables_1, d.before a0 Z = true) (ws : List Jvm.Cond) (p0 : Int32) (h0 : Heap) (n0 : Nat) (Z0 : n0 ≤ h0.size) :
    MetFree l (⟨"shelfmark/Markup", "isXmlCharacter", "(I)Z"⟩ : MethodName) (head1 (Jvm.Cond.code (⟨"shelfmark/Markup", "isXmlCharacter", "(I)Z"⟩ : MethodName) prog_41_method_4_code 1 (some .boolean) :: ws) ({ frames := 0, cells := 0, slots := 0, locals := 0 } : Room)) (fun a U => a = #[(.int p0)] ∧ Z.Warmed39 U.vm ∧ U.heap = h0) (fun _ _ _ _ _ => True) (fun _ U o U' => ∃ v L, o = .returned v ∧ Q1 Z p0 h0 n0 v U'.heap L ∧ FrameEnd U o U' L ({ frames := 0, cells := 0, slots := 0, locals := 0 } : Room).cells ({ frames := 0, cells := 0, slots := 0, locals := 0 } : Room).slots) := by
  refine MetFree.of_bodySF (plainFor_of_name pn_shelfmark_Markup) hisR ?_
  intro p e s m args below meth c s₁ Bd hml0 hP hK
  obtain ⟨rfl, hZ, hh⟩ := hP
  have hx := Bd.exec
  have hby := Bd.bytes
  have hlk := Bd.notSynchronized
  have hrt := Bd.returns
  have hml : c.maxLocals = 1 := hml0
  have hown : s.vm.findClass "shelfmark/Markup" = some m.cls := findClass_of_methodNamed Bd.named
  have hnm := (name_of_methodNamed Bd.named Bd.method).1
  have X0 : Stand p l e ({ frames := 0, cells := 0, slots := 0, locals := 0 } : Room) s m #[(.int p0)] below meth c s₁ [] 0 0 := Stand.of_body Bd
  have e0 : s₁.heap = h0 := by rw [← hh, Bd.state]; rfl
  have N0 := Fr.nil n0
  have K0 := Keep.refl h0 []
  refine own_out (Q := Q1 Z p0 h0 n0) ?_
  refine own_in (ef_1 m p0) ?_
  have J58 : own_f1 p0 = own_f1_58 p0 → own_Go p.tables e below (own_Fin below s (Q1 Z p0 h0 n0) ({ frames := 0, cells := 0, slots := 0, locals := 0 } : Room).cells ({ frames := 0, cells := 0, slots := 0, locals := 0 } : Room).slots) s₁ (mkF m 58 #[.val (.int p0)] []) := by
    intro hf58
    show own_Go _ _ _ _ s₁ (mkF m 58 #[.val (.int p0)] [])
    refine own_st (fun t k => XS.iconst X0.here hx rfl (hb hby d1_58) k) ?_
    show own_Go _ _ _ _ s₁ (mkF m 59 #[.val (.int p0)] [(.int (0 : Int32))])
    exact own_retN X0 hx hlk (t := .boolean) hrt (by simp) (hb hby d1_59) ⟨(by rw [hf58]; simp only [own_f1_58]; first | rfl | done), N0, e0⟩ (by decide) (by decide)
  have J54 : own_f1 p0 = own_f1_54 p0 → own_Go p.tables e below (own_Fin below s (Q1 Z p0 h0 n0) ({ frames := 0, cells := 0, slots := 0, locals := 0 } : Room).cells ({ frames := 0, cells := 0, slots := 0, locals := 0 } : Room).slots) s₁ (mkF m 54 #[.val (.int p0)] []) := by
    intro hf54
    show own_Go _ _ _ _ s₁ (mkF m 54 #[.val (.int p0)] [])
    refine own_st (fun t k => XS.iconst X0.here hx rfl (hb hby d1_54) k) ?_
    show own_Go _ _ _ _ s₁ (mkF m 55 #[.val (.int p0)] [(.int (1 : Int32))])
    refine own_st (fun t k => XS.goto X0.here hx rfl (pc0 := 55) (pc' := 59) rfl (hb hby d1_55) (by decide) (by decide) k) ?_
    show own_Go _ _ _ _ s₁ (mkF m 59 #[.val (.int p0)] [(.int (1 : Int32))])
    exact own_retN X0 hx hlk (t := .boolean) hrt (by simp) (hb hby d1_59) ⟨(by rw [hf54]; simp only [own_f1_54]; first | rfl | done), N0, e0⟩ (by decide) (by decide)
  have J42 : own_f1 p0 = own_f1_42 p0 → own_Go p.tables e below (own_Fin below s (Q1 Z p0 h0 n0) ({ frames := 0, cells := 0, slots := 0, locals := 0 } : Room).cells ({ frames := 0, cells := 0, slots := 0, locals := 0 } : Room).slots) s₁ (mkF m 42 #[.val (.int p0)] []) := by
    intro hf42
    show own_Go _ _ _ _ s₁ (mkF m 42 #[.val (.int p0)] [])
    refine own_st (fun t k => XS.iloadN X0.here hx rfl (hb hby d1_42) rfl k) ?_
    show own_Go _ _ _ _ s₁ (mkF m 43 #[.val (.int p0)] [(.int p0)])
    refine own_st (X0.ldcInt hx hown (mvT hZ (hw _ (List.mem_of_getElem? (i := 19) rfl))) (g := (mkF m 43 #[.val (.int p0)] [(.int p0)])) rfl (hb hby d1_43)) ?_
    show own_Go _ _ _ _ s₁ (mkF m 45 #[.val (.int p0)] [(.int (65536 : Int32)), (.int p0)])
    by_cases c45_1 : p0 < (65536 : Int32)
    ·
      refine own_st (fun t k => XS.icmpYes X0.here hx rfl (pc0 := 45) (pc' := 58) rfl (hb hby d1_45) rfl (tlt c45_1).1 (by decide) (by decide) k) ?_
      show own_Go _ _ _ _ s₁ (mkF m 58 #[.val (.int p0)] [])
      exact J58 (hf42.trans (by simp only [own_f1_42, if_pos c45_1]; first | rfl | done))
    ·
      refine own_st (fun t k => XS.icmpNo X0.here hx rfl (hb hby d1_45) rfl (flt c45_1).1 k) ?_
      show own_Go _ _ _ _ s₁ (mkF m 48 #[.val (.int p0)] [])
      refine own_st (fun t k => XS.iloadN X0.here hx rfl (hb hby d1_48) rfl k) ?_
      show own_Go _ _ _ _ s₁ (mkF m 49 #[.val (.int p0)] [(.int p0)])
      refine own_st (X0.ldcInt hx hown (mvT hZ (hw _ (List.mem_of_getElem? (i := 26) rfl))) (g := (mkF m 49 #[.val (.int p0)] [(.int p0)])) rfl (hb hby d1_49)) ?_
      show own_Go _ _ _ _ s₁ (mkF m 51 #[.val (.int p0)] [(.int (1114111 : Int32)), (.int p0)])
      by_cases c51_2 : (1114111 : Int32) < p0
      ·
        refine own_st (fun t k => XS.icmpYes X0.here hx rfl (pc0 := 51) (pc' := 58) rfl (hb hby d1_51) rfl (tlt c51_2).2.2.1 (by decide) (by decide) k) ?_
        show own_Go _ _ _ _ s₁ (mkF m 58 #[.val (.int p0)] [])
        exact J58 (hf42.trans (by simp only [own_f1_42, if_neg c45_1, if_pos c51_2]; first | rfl | done))
      ·
        refine own_st (fun t k => XS.icmpNo X0.here hx rfl (hb hby d1_51) rfl (flt c51_2).2.2.1 k) ?_
        show own_Go _ _ _ _ s₁ (mkF m 54 #[.val (.int p0)] [])
        exact J54 (hf42.trans (by simp only [own_f1_42, if_neg c45_1, if_neg c51_2]; first | rfl | done))
  have J30 : own_f1 p0 = own_f1_30 p0 → own_Go p.tables e below (own_Fin below s (Q1 Z p0 h0 n0) ({ frames := 0, cells := 0, slots := 0, locals := 0 } : Room).cells ({ frames := 0, cells := 0, slots := 0, locals := 0 } : Room).slots) s₁ (mkF m 30 #[.val (.int p0)] []) := by
    intro hf30
    show own_Go _ _ _ _ s₁ (mkF m 30 #[.val (.int p0)] [])
    refine own_st (fun t k => XS.iloadN X0.here hx rfl (hb hby d1_30) rfl k) ?_
    show own_Go _ _ _ _ s₁ (mkF m 31 #[.val (.int p0)] [(.int p0)])
    refine own_st (X0.ldcInt hx hown (mvT hZ (hw _ (List.mem_of_getElem? (i := 18) rfl))) (g := (mkF m 31 #[.val (.int p0)] [(.int p0)])) rfl (hb hby d1_31)) ?_
    show own_Go _ _ _ _ s₁ (mkF m 33 #[.val (.int p0)] [(.int (57344 : Int32)), (.int p0)])
    by_cases c33_3 : p0 < (57344 : Int32)
    ·
      refine own_st (fun t k => XS.icmpYes X0.here hx rfl (pc0 := 33) (pc' := 42) rfl (hb hby d1_33) rfl (tlt c33_3).1 (by decide) (by decide) k) ?_
      show own_Go _ _ _ _ s₁ (mkF m 42 #[.val (.int p0)] [])
      exact J42 (hf30.trans (by simp only [own_f1_30, if_pos c33_3]; first | rfl | done))
    ·
      refine own_st (fun t k => XS.icmpNo X0.here hx rfl (hb hby d1_33) rfl (flt c33_3).1 k) ?_
      show own_Go _ _ _ _ s₁ (mkF m 36 #[.val (.int p0)] [])
      refine own_st (fun t k => XS.iloadN X0.here hx rfl (hb hby d1_36) rfl k) ?_
      show own_Go _ _ _ _ s₁ (mkF m 37 #[.val (.int p0)] [(.int p0)])
      refine own_st (X0.ldcInt hx hown (mvT hZ (hw _ (List.mem_of_getElem? (i := 25) rfl))) (g := (mkF m 37 #[.val (.int p0)] [(.int p0)])) rfl (hb hby d1_37)) ?_
      show own_Go _ _ _ _ s₁ (mkF m 39 #[.val (.int p0)] [(.int (65533 : Int32)), (.int p0)])
      by_cases c39_4 : (65533 : Int32) < p0
      ·
        refine own_st (fun t k => XS.icmpNo X0.here hx rfl (hb hby d1_39) rfl (tlt c39_4).2.2.2 k) ?_
        show own_Go _ _ _ _ s₁ (mkF m 42 #[.val (.int p0)] [])
        exact J42 (hf30.trans (by simp only [own_f1_30, if_neg c33_3, if_pos c39_4]; first | rfl | done))
      ·
        refine own_st (fun t k => XS.icmpYes X0.here hx rfl (pc0 := 39) (pc' := 54) rfl (hb hby d1_39) rfl (flt c39_4).2.2.2 (by decide) (by decide) k) ?_
        show own_Go _ _ _ _ s₁ (mkF m 54 #[.val (.int p0)] [])
        exact J54 (hf30.trans (by simp only [own_f1_30, if_neg c33_3, if_neg c39_4]; first | rfl | done))
  show own_Go _ _ _ _ s₁ (mkF m 0 #[.val (.int p0)] [])
  refine own_st (fun t k => XS.iloadN X0.here hx rfl (hb hby d1_0) rfl k) ?_
  show own_Go _ _ _ _ s₁ (mkF m 1 #[.val (.int p0)] [(.int p0)])
  refine own_st (fun t k => XS.bipush X0.here hx rfl (hb hby d1_1) k) ?_
  show own_Go _ _ _ _ s₁ (mkF m 3 #[.val (.int p0)] [(.int (9 : Int32)), (.int p0)])
  by_cases c3_5 : p0 = (9 : Int32)
  ·
    refine own_st (fun t k => XS.icmpYes X0.here hx rfl (pc0 := 3) (pc' := 54) rfl (hb hby d1_3) rfl (teq c3_5).1 (by decide) (by decide) k) ?_
    show own_Go _ _ _ _ s₁ (mkF m 54 #[.val (.int p0)] [])
    exact J54 (by simp only [own_f1, if_pos c3_5]; first | rfl | done)
  ·
    refine own_st (fun t k => XS.icmpNo X0.here hx rfl (hb hby d1_3) rfl (feq c3_5).1 k) ?_
    show own_Go _ _ _ _ s₁ (mkF m 6 #[.val (.int p0)] [])
    refine own_st (fun t k => XS.iloadN X0.here hx rfl (hb hby d1_6) rfl k) ?_
    show own_Go _ _ _ _ s₁ (mkF m 7 #[.val (.int p0)] [(.int p0)])
    refine own_st (fun t k => XS.bipush X0.here hx rfl (hb hby d1_7) k) ?_
    show own_Go _ _ _ _ s₁ (mkF m 9 #[.val (.int p0)] [(.int (10 : Int32)), (.int p0)])
    by_cases c9_6 : p0 = (10 : Int32)
    ·
      refine own_st (fun t k => XS.icmpYes X0.here hx rfl (pc0 := 9) (pc' := 54) rfl (hb hby d1_9) rfl (teq c9_6).1 (by decide) (by decide) k) ?_
      show own_Go _ _ _ _ s₁ (mkF m 54 #[.val (.int p0)] [])
      exact J54 (by simp only [own_f1, if_neg c3_5, if_pos c9_6]; first | rfl | done)
    ·
      refine own_st (fun t k => XS.icmpNo X0.here hx rfl (hb hby d1_9) rfl (feq c9_6).1 k) ?_
      show own_Go _ _ _ _ s₁ (mkF m 12 #[.val (.int p0)] [])
      refine own_st (fun t k => XS.iloadN X0.here hx rfl (hb hby d1_12) rfl k) ?_
      show own_Go _ _ _ _ s₁ (mkF m 13 #[.val (.int p0)] [(.int p0)])
      refine own_st (fun t k => XS.bipush X0.here hx rfl (hb hby d1_13) k) ?_
      show own_Go _ _ _ _ s₁ (mkF m 15 #[.val (.int p0)] [(.int (13 : Int32)), (.int p0)])
      by_cases c15_7 : p0 = (13 : Int32)
      ·
        refine own_st (fun t k => XS.icmpYes X0.here hx rfl (pc0 := 15) (pc' := 54) rfl (hb hby d1_15) rfl (teq c15_7).1 (by decide) (by decide) k) ?_
        show own_Go _ _ _ _ s₁ (mkF m 54 #[.val (.int p0)] [])
        exact J54 (by simp only [own_f1, if_neg c3_5, if_neg c9_6, if_pos c15_7]; first | rfl | done)
      ·
        refine own_st (fun t k => XS.icmpNo X0.here hx rfl (hb hby d1_15) rfl (feq c15_7).1 k) ?_
        show own_Go _ _ _ _ s₁ (mkF m 18 #[.val (.int p0)] [])
        refine own_st (fun t k => XS.iloadN X0.here hx rfl (hb hby d1_18) rfl k) ?_
        show own_Go _ _ _ _ s₁ (mkF m 19 #[.val (.int p0)] [(.int p0)])
        refine own_st (fun t k => XS.bipush X0.here hx rfl (hb hby d1_19) k) ?_
        show own_Go _ _ _ _ s₁ (mkF m 21 #[.val (.int p0)] [(.int (32 : Int32)), (.int p0)])
        by_cases c21_8 : p0 < (32 : Int32)
        ·
          refine own_st (fun t k => XS.icmpYes X0.here hx rfl (pc0 := 21) (pc' := 30) rfl (hb hby d1_21) rfl (tlt c21_8).1 (by decide) (by decide) k) ?_
          show own_Go _ _ _ _ s₁ (mkF m 30 #[.val (.int p0)] [])
          exact J30 (by simp only [own_f1, if_neg c3_5, if_neg c9_6, if_neg c15_7, if_pos c21_8]; first | rfl | done)
        ·
          refine own_st (fun t k => XS.icmpNo X0.here hx rfl (hb hby d1_21) rfl (flt c21_8).1 k) ?_
          show own_Go _ _ _ _ s₁ (mkF m 24 #[.val (.int p0)] [])
          refine own_st (fun t k => XS.iloadN X0.here hx rfl (hb hby d1_24) rfl k) ?_
          show own_Go _ _ _ _ s₁ (mkF m 25 #[.val (.int p0)] [(.int p0)])
          refine own_st (X0.ldcInt hx hown (mvT hZ (hw _ (List.mem_of_getElem? (i := 24) rfl))) (g := (mkF m 25 #[.val (.int p0)] [(.int p0)])) rfl (hb hby d1_25)) ?_
          show own_Go _ _ _ _ s₁ (mkF m 27 #[.val (.int p0)] [(.int (55295 : Int32)), (.int p0)])
          by_cases c27_9 : (55295 : Int32) < p0
          ·
            refine own_st (fun t k => XS.icmpNo X0.here hx rfl (hb hby d1_27) rfl (tlt c27_9).2.2.2 k) ?_
            show own_Go _ _ _ _ s₁ (mkF m 30 #[.val (.int p0)] [])
            exact J30 (by simp only [own_f1, if_neg c3_5, if_neg c9_6, if_neg c15_7, if_neg c21_8, if_pos c27_9]; first | rfl | done)
          ·
            refine own_st (fun t k => XS.icmpYes X0.here hx rfl (pc0 := 27) (pc' := 54) rfl (hb hby d1_27) rfl (flt c27_9).2.2.2 (by decide) (by decide) k) ?_
            show own_Go _ _ _ _ s₁ (mkF m 54 #[.val (.int p0)] [])
            exact J54 (by simp only [own_f1, if_neg c3_5, if_neg c9_6, if_neg c15_7, if_neg c21_8, if_neg c27_9]; first | rfl | done)
/-! body 2: MarkupIsXmlCharacterPinLaw.ref -/
theorem d2_0 : decode method_2_code 0 = .ok (.iload_n 0, 1) := by decide +kernel
theorem d2_1 : decode method_2_code 1 = .ok (.ifCond .ge 5, 3) := by decide +kernel
theorem d2_4 : decode method_2_code 4 = .ok (.iconst 0, 1) := by decide +kernel
theorem d2_5 : decode method_2_code 5 = .ok (.ireturn, 1) := by decide +kernel
theorem d2_6 : decode method_2_code 6 = .ok (.iload_n 0, 1) := by decide +kernel
theorem d2_7 : decode method_2_code 7 = .ok (.ldc 7, 2) := by decide +kernel
theorem d2_9 : decode method_2_code 9 = .ok (.if_icmp .le 5, 3) := by decide +kernel
theorem d2_12 : decode method_2_code 12 = .ok (.iconst 0, 1) := by decide +kernel
theorem d2_13 : decode method_2_code 13 = .ok (.ireturn, 1) := by decide +kernel
theorem d2_14 : decode method_2_code 14 = .ok (.iload_n 0, 1) := by decide +kernel
theorem d2_15 : decode method_2_code 15 = .ok (.bipush 32, 2) := by decide +kernel
theorem d2_17 : decode method_2_code 17 = .ok (.if_icmp .ge 27, 3) := by decide +kernel
theorem d2_20 : decode method_2_code 20 = .ok (.iload_n 0, 1) := by decide +kernel
theorem d2_21 : decode method_2_code 21 = .ok (.bipush 9, 2) := by decide +kernel
theorem d2_23 : decode method_2_code 23 = .ok (.if_icmp .eq 15, 3) := by decide +kernel
theorem d2_26 : decode method_2_code 26 = .ok (.iload_n 0, 1) := by decide +kernel
theorem d2_27 : decode method_2_code 27 = .ok (.bipush 10, 2) := by decide +kernel
theorem d2_29 : decode method_2_code 29 = .ok (.if_icmp .eq 9, 3) := by decide +kernel
theorem d2_32 : decode method_2_code 32 = .ok (.iload_n 0, 1) := by decide +kernel
theorem d2_33 : decode method_2_code 33 = .ok (.bipush 13, 2) := by decide +kernel
theorem d2_35 : decode method_2_code 35 = .ok (.if_icmp .ne 7, 3) := by decide +kernel
theorem d2_38 : decode method_2_code 38 = .ok (.iconst 1, 1) := by decide +kernel
theorem d2_39 : decode method_2_code 39 = .ok (.goto 4, 3) := by decide +kernel
theorem d2_42 : decode method_2_code 42 = .ok (.iconst 0, 1) := by decide +kernel
theorem d2_43 : decode method_2_code 43 = .ok (.ireturn, 1) := by decide +kernel
theorem d2_44 : decode method_2_code 44 = .ok (.iload_n 0, 1) := by decide +kernel
theorem d2_45 : decode method_2_code 45 = .ok (.ldc 8, 2) := by decide +kernel
theorem d2_47 : decode method_2_code 47 = .ok (.if_icmp .lt 11, 3) := by decide +kernel
theorem d2_50 : decode method_2_code 50 = .ok (.iload_n 0, 1) := by decide +kernel
theorem d2_51 : decode method_2_code 51 = .ok (.ldc 9, 2) := by decide +kernel
theorem d2_53 : decode method_2_code 53 = .ok (.if_icmp .gt 5, 3) := by decide +kernel
theorem d2_56 : decode method_2_code 56 = .ok (.iconst 0, 1) := by decide +kernel
theorem d2_57 : decode method_2_code 57 = .ok (.ireturn, 1) := by decide +kernel
theorem d2_58 : decode method_2_code 58 = .ok (.iload_n 0, 1) := by decide +kernel
theorem d2_59 : decode method_2_code 59 = .ok (.ldc 10, 2) := by decide +kernel
theorem d2_61 : decode method_2_code 61 = .ok (.if_icmp .eq 9, 3) := by decide +kernel
theorem d2_64 : decode method_2_code 64 = .ok (.iload_n 0, 1) := by decide +kernel
theorem d2_65 : decode method_2_code 65 = .ok (.ldc 11, 2) := by decide +kernel
theorem d2_67 : decode method_2_code 67 = .ok (.if_icmp .ne 5, 3) := by decide +kernel
theorem d2_70 : decode method_2_code 70 = .ok (.iconst 0, 1) := by decide +kernel
theorem d2_71 : decode method_2_code 71 = .ok (.ireturn, 1) := by decide +kernel
theorem d2_72 : decode method_2_code 72 = .ok (.iconst 1, 1) := by decide +kernel
theorem d2_73 : decode method_2_code 73 = .ok (.ireturn, 1) := by decide +kernel
theorem pn_shelfmark_MarkupIsXmlCharacterPinLaw : plainName "shelfmark/MarkupIsXmlCharacterPinLaw" = true := by first | (simp [plainName, overriddenIn]; done) | decide +kernel
theorem ef_2 (m : MethodId) (x0 : Int32) : entryFrame m #[(.int x0)] 1 = mkF m 0 #[.val (.int x0)] [] := by first | (simp [entryFrame, mkF, argsToLocals, Value.category]; done) | rfl
def own_f2_70 (p0 : Int32) : Int32 := (0 : Int32)
def own_f2_58 (p0 : Int32) : Int32 := (if p0 = (65534 : Int32) then (own_f2_70 p0) else (if p0 = (65535 : Int32) then (own_f2_70 p0) else (1 : Int32)))
def own_f2_38 (p0 : Int32) : Int32 := (1 : Int32)
def own_f2 (p0 : Int32) : Int32 := (if p0 < (0 : Int32) then (0 : Int32) else (if (1114111 : Int32) < p0 then (0 : Int32) else (if p0 < (32 : Int32) then (if p0 = (9 : Int32) then (own_f2_38 p0) else (if p0 = (10 : Int32) then (own_f2_38 p0) else (if p0 = (13 : Int32) then (own_f2_38 p0) else (0 : Int32)))) else (if p0 < (55296 : Int32) then (own_f2_58 p0) else (if (57343 : Int32) < p0 then (own_f2_58 p0) else (0 : Int32))))))
def Q2 (Z : State) (p0 : Int32) (h0 : Heap) (n0 : Nat) (v : Option Value) (h : Heap) (L : List Loc) : Prop := v = some (.int (own_f2 p0)) ∧ Fr n0 L ∧ h = h0
set_option maxRecDepth 65536 in
set_option maxHeartbeats 40000000 in
theorem rm2 (l : Launch) (Z : State) (a0 : Array Value) (hw : ∀ d ∈ tables_1, d.before a0 Z = true) (ws : List Jvm.Cond) (p0 : Int32) (h0 : Heap) (n0 : Nat) (Z0 : n0 ≤ h0.size) :
    MetFree l (⟨"shelfmark/MarkupIsXmlCharacterPinLaw", "ref", "(I)Z"⟩ : MethodName) (head1 (Jvm.Cond.code (⟨"shelfmark/MarkupIsXmlCharacterPinLaw", "ref", "(I)Z"⟩ : MethodName) method_2_code 1 (some .boolean) :: ws) ({ frames := 0, cells := 0, slots := 0, locals := 0 } : Room)) (fun a U => a = #[(.int p0)] ∧ Z.Warmed39 U.vm ∧ U.heap = h0) (fun _ _ _ _ _ => True) (fun _ U o U' => ∃ v L, o = .returned v ∧ Q2 Z p0 h0 n0 v U'.heap L ∧ FrameEnd U o U' L ({ frames := 0, cells := 0, slots := 0, locals := 0 } : Room).cells ({ frames := 0, cells := 0, slots := 0, locals := 0 } : Room).slots) := by
  refine MetFree.of_bodySF (plainFor_of_name pn_shelfmark_MarkupIsXmlCharacterPinLaw) hisR ?_
  intro p e s m args below meth c s₁ Bd hml0 hP hK
  obtain ⟨rfl, hZ, hh⟩ := hP
  have hx := Bd.exec
  have hby := Bd.bytes
  have hlk := Bd.notSynchronized
  have hrt := Bd.returns
  have hml : c.maxLocals = 1 := hml0
  have hown : s.vm.findClass "shelfmark/MarkupIsXmlCharacterPinLaw" = some m.cls := findClass_of_methodNamed Bd.named
  have hnm := (name_of_methodNamed Bd.named Bd.method).1
  have X0 : Stand p l e ({ frames := 0, cells := 0, slots := 0, locals := 0 } : Room) s m #[(.int p0)] below meth c s₁ [] 0 0 := Stand.of_body Bd
  have e0 : s₁.heap = h0 := by rw [← hh, Bd.state]; rfl
  have N0 := Fr.nil n0
  have K0 := Keep.refl h0 []
  refine own_out (Q := Q2 Z p0 h0 n0) ?_
  refine own_in (ef_2 m p0) ?_
  have J70 : own_f2 p0 = own_f2_70 p0 → own_Go p.tables e below (own_Fin below s (Q2 Z p0 h0 n0) ({ frames := 0, cells := 0, slots := 0, locals := 0 } : Room).cells ({ frames := 0, cells := 0, slots := 0, locals := 0 } : Room).slots) s₁ (mkF m 70 #[.val (.int p0)] []) := by
    intro hf70
    show own_Go _ _ _ _ s₁ (mkF m 70 #[.val (.int p0)] [])
    refine own_st (fun t k => XS.iconst X0.here hx rfl (hb hby d2_70) k) ?_
    show own_Go _ _ _ _ s₁ (mkF m 71 #[.val (.int p0)] [(.int (0 : Int32))])
    exact own_retN X0 hx hlk (t := .boolean) hrt (by simp) (hb hby d2_71) ⟨(by rw [hf70]; simp only [own_f2_70]; first | rfl | done), N0, e0⟩ (by decide) (by decide)
  have J58 : own_f2 p0 = own_f2_58 p0 → own_Go p.tables e below (own_Fin below s (Q2 Z p0 h0 n0) ({ frames := 0, cells := 0, slots := 0, locals := 0 } : Room).cells ({ frames := 0, cells := 0, slots := 0, locals := 0 } : Room).slots) s₁ (mkF m 58 #[.val (.int p0)] []) := by
    intro hf58
    show own_Go _ _ _ _ s₁ (mkF m 58 #[.val (.int p0)] [])
    refine own_st (fun t k => XS.iloadN X0.here hx rfl (hb hby d2_58) rfl k) ?_
    show own_Go _ _ _ _ s₁ (mkF m 59 #[.val (.int p0)] [(.int p0)])
    refine own_st (X0.ldcInt hx hown (mvT hZ (hw _ (List.mem_of_getElem? (i := 6) rfl))) (g := (mkF m 59 #[.val (.int p0)] [(.int p0)])) rfl (hb hby d2_59)) ?_
    show own_Go _ _ _ _ s₁ (mkF m 61 #[.val (.int p0)] [(.int (65534 : Int32)), (.int p0)])
    by_cases c61_1 : p0 = (65534 : Int32)
    ·
      refine own_st (fun t k => XS.icmpYes X0.here hx rfl (pc0 := 61) (pc' := 70) rfl (hb hby d2_61) rfl (teq c61_1).1 (by decide) (by decide) k) ?_
      show own_Go _ _ _ _ s₁ (mkF m 70 #[.val (.int p0)] [])
      exact J70 (hf58.trans (by simp only [own_f2_58, if_pos c61_1]; first | rfl | done))
    ·
      refine own_st (fun t k => XS.icmpNo X0.here hx rfl (hb hby d2_61) rfl (feq c61_1).1 k) ?_
      show own_Go _ _ _ _ s₁ (mkF m 64 #[.val (.int p0)] [])
      refine own_st (fun t k => XS.iloadN X0.here hx rfl (hb hby d2_64) rfl k) ?_
      show own_Go _ _ _ _ s₁ (mkF m 65 #[.val (.int p0)] [(.int p0)])
      refine own_st (X0.ldcInt hx hown (mvT hZ (hw _ (List.mem_of_getElem? (i := 7) rfl))) (g := (mkF m 65 #[.val (.int p0)] [(.int p0)])) rfl (hb hby d2_65)) ?_
      show own_Go _ _ _ _ s₁ (mkF m 67 #[.val (.int p0)] [(.int (65535 : Int32)), (.int p0)])
      by_cases c67_2 : p0 = (65535 : Int32)
      ·
        refine own_st (fun t k => XS.icmpNo X0.here hx rfl (hb hby d2_67) rfl (teq c67_2).2 k) ?_
        show own_Go _ _ _ _ s₁ (mkF m 70 #[.val (.int p0)] [])
        exact J70 (hf58.trans (by simp only [own_f2_58, if_neg c61_1, if_pos c67_2]; first | rfl | done))
      ·
        refine own_st (fun t k => XS.icmpYes X0.here hx rfl (pc0 := 67) (pc' := 72) rfl (hb hby d2_67) rfl (feq c67_2).2 (by decide) (by decide) k) ?_
        show own_Go _ _ _ _ s₁ (mkF m 72 #[.val (.int p0)] [])
        refine own_st (fun t k => XS.iconst X0.here hx rfl (hb hby d2_72) k) ?_
        show own_Go _ _ _ _ s₁ (mkF m 73 #[.val (.int p0)] [(.int (1 : Int32))])
        exact own_retN X0 hx hlk (t := .boolean) hrt (by simp) (hb hby d2_73) ⟨(by rw [hf58]; simp only [own_f2_58, if_neg c61_1, if_neg c67_2]; first | rfl | done), N0, e0⟩ (by decide) (by decide)
  have J38 : own_f2 p0 = own_f2_38 p0 → own_Go p.tables e below (own_Fin below s (Q2 Z p0 h0 n0) ({ frames := 0, cells := 0, slots := 0, locals := 0 } : Room).cells ({ frames := 0, cells := 0, slots := 0, locals := 0 } : Room).slots) s₁ (mkF m 38 #[.val (.int p0)] []) := by
    intro hf38
    show own_Go _ _ _ _ s₁ (mkF m 38 #[.val (.int p0)] [])
    refine own_st (fun t k => XS.iconst X0.here hx rfl (hb hby d2_38) k) ?_
    show own_Go _ _ _ _ s₁ (mkF m 39 #[.val (.int p0)] [(.int (1 : Int32))])
    refine own_st (fun t k => XS.goto X0.here hx rfl (pc0 := 39) (pc' := 43) rfl (hb hby d2_39) (by decide) (by decide) k) ?_
    show own_Go _ _ _ _ s₁ (mkF m 43 #[.val (.int p0)] [(.int (1 : Int32))])
    exact own_retN X0 hx hlk (t := .boolean) hrt (by simp) (hb hby d2_43) ⟨(by rw [hf38]; simp only [own_f2_38]; first | rfl | done), N0, e0⟩ (by decide) (by decide)
  show own_Go _ _ _ _ s₁ (mkF m 0 #[.val (.int p0)] [])
  refine own_st (fun t k => XS.iloadN X0.here hx rfl (hb hby d2_0) rfl k) ?_
  show own_Go _ _ _ _ s₁ (mkF m 1 #[.val (.int p0)] [(.int p0)])
  by_cases c1_3 : p0 < (0 : Int32)
  ·
    refine own_st (fun t k => XS.ifNo X0.here hx rfl (hb hby d2_1) rfl ((if0 _ _).trans (tlt c1_3).2.1) k) ?_
    show own_Go _ _ _ _ s₁ (mkF m 4 #[.val (.int p0)] [])
    refine own_st (fun t k => XS.iconst X0.here hx rfl (hb hby d2_4) k) ?_
    show own_Go _ _ _ _ s₁ (mkF m 5 #[.val (.int p0)] [(.int (0 : Int32))])
    exact own_retN X0 hx hlk (t := .boolean) hrt (by simp) (hb hby d2_5) ⟨(by simp only [own_f2, if_pos c1_3]; first | rfl | done), N0, e0⟩ (by decide) (by decide)
  ·
    refine own_st (fun t k => XS.ifYes X0.here hx rfl (pc0 := 1) (pc' := 6) rfl (hb hby d2_1) rfl ((if0 _ _).trans (flt c1_3).2.1) (by decide) (by decide) k) ?_
    show own_Go _ _ _ _ s₁ (mkF m 6 #[.val (.int p0)] [])
    refine own_st (fun t k => XS.iloadN X0.here hx rfl (hb hby d2_6) rfl k) ?_
    show own_Go _ _ _ _ s₁ (mkF m 7 #[.val (.int p0)] [(.int p0)])
    refine own_st (X0.ldcInt hx hown (mvT hZ (hw _ (List.mem_of_getElem? (i := 9) rfl))) (g := (mkF m 7 #[.val (.int p0)] [(.int p0)])) rfl (hb hby d2_7)) ?_
    show own_Go _ _ _ _ s₁ (mkF m 9 #[.val (.int p0)] [(.int (1114111 : Int32)), (.int p0)])
    by_cases c9_4 : (1114111 : Int32) < p0
    ·
      refine own_st (fun t k => XS.icmpNo X0.here hx rfl (hb hby d2_9) rfl (tlt c9_4).2.2.2 k) ?_
      show own_Go _ _ _ _ s₁ (mkF m 12 #[.val (.int p0)] [])
      refine own_st (fun t k => XS.iconst X0.here hx rfl (hb hby d2_12) k) ?_
      show own_Go _ _ _ _ s₁ (mkF m 13 #[.val (.int p0)] [(.int (0 : Int32))])
      exact own_retN X0 hx hlk (t := .boolean) hrt (by simp) (hb hby d2_13) ⟨(by simp only [own_f2, if_neg c1_3, if_pos c9_4]; first | rfl | done), N0, e0⟩ (by decide) (by decide)
    ·
      refine own_st (fun t k => XS.icmpYes X0.here hx rfl (pc0 := 9) (pc' := 14) rfl (hb hby d2_9) rfl (flt c9_4).2.2.2 (by decide) (by decide) k) ?_
      show own_Go _ _ _ _ s₁ (mkF m 14 #[.val (.int p0)] [])
      refine own_st (fun t k => XS.iloadN X0.here hx rfl (hb hby d2_14) rfl k) ?_
      show own_Go _ _ _ _ s₁ (mkF m 15 #[.val (.int p0)] [(.int p0)])
      refine own_st (fun t k => XS.bipush X0.here hx rfl (hb hby d2_15) k) ?_
      show own_Go _ _ _ _ s₁ (mkF m 17 #[.val (.int p0)] [(.int (32 : Int32)), (.int p0)])
      by_cases c17_5 : p0 < (32 : Int32)
      ·
        refine own_st (fun t k => XS.icmpNo X0.here hx rfl (hb hby d2_17) rfl (tlt c17_5).2.1 k) ?_
        show own_Go _ _ _ _ s₁ (mkF m 20 #[.val (.int p0)] [])
        refine own_st (fun t k => XS.iloadN X0.here hx rfl (hb hby d2_20) rfl k) ?_
        show own_Go _ _ _ _ s₁ (mkF m 21 #[.val (.int p0)] [(.int p0)])
        refine own_st (fun t k => XS.bipush X0.here hx rfl (hb hby d2_21) k) ?_
        show own_Go _ _ _ _ s₁ (mkF m 23 #[.val (.int p0)] [(.int (9 : Int32)), (.int p0)])
        by_cases c23_6 : p0 = (9 : Int32)
        ·
          refine own_st (fun t k => XS.icmpYes X0.here hx rfl (pc0 := 23) (pc' := 38) rfl (hb hby d2_23) rfl (teq c23_6).1 (by decide) (by decide) k) ?_
          show own_Go _ _ _ _ s₁ (mkF m 38 #[.val (.int p0)] [])
          exact J38 (by simp only [own_f2, if_neg c1_3, if_neg c9_4, if_pos c17_5, if_pos c23_6]; first | rfl | done)
        ·
          refine own_st (fun t k => XS.icmpNo X0.here hx rfl (hb hby d2_23) rfl (feq c23_6).1 k) ?_
          show own_Go _ _ _ _ s₁ (mkF m 26 #[.val (.int p0)] [])
          refine own_st (fun t k => XS.iloadN X0.here hx rfl (hb hby d2_26) rfl k) ?_
          show own_Go _ _ _ _ s₁ (mkF m 27 #[.val (.int p0)] [(.int p0)])
          refine own_st (fun t k => XS.bipush X0.here hx rfl (hb hby d2_27) k) ?_
          show own_Go _ _ _ _ s₁ (mkF m 29 #[.val (.int p0)] [(.int (10 : Int32)), (.int p0)])
          by_cases c29_7 : p0 = (10 : Int32)
          ·
            refine own_st (fun t k => XS.icmpYes X0.here hx rfl (pc0 := 29) (pc' := 38) rfl (hb hby d2_29) rfl (teq c29_7).1 (by decide) (by decide) k) ?_
            show own_Go _ _ _ _ s₁ (mkF m 38 #[.val (.int p0)] [])
            exact J38 (by simp only [own_f2, if_neg c1_3, if_neg c9_4, if_pos c17_5, if_neg c23_6, if_pos c29_7]; first | rfl | done)
          ·
            refine own_st (fun t k => XS.icmpNo X0.here hx rfl (hb hby d2_29) rfl (feq c29_7).1 k) ?_
            show own_Go _ _ _ _ s₁ (mkF m 32 #[.val (.int p0)] [])
            refine own_st (fun t k => XS.iloadN X0.here hx rfl (hb hby d2_32) rfl k) ?_
            show own_Go _ _ _ _ s₁ (mkF m 33 #[.val (.int p0)] [(.int p0)])
            refine own_st (fun t k => XS.bipush X0.here hx rfl (hb hby d2_33) k) ?_
            show own_Go _ _ _ _ s₁ (mkF m 35 #[.val (.int p0)] [(.int (13 : Int32)), (.int p0)])
            by_cases c35_8 : p0 = (13 : Int32)
            ·
              refine own_st (fun t k => XS.icmpNo X0.here hx rfl (hb hby d2_35) rfl (teq c35_8).2 k) ?_
              show own_Go _ _ _ _ s₁ (mkF m 38 #[.val (.int p0)] [])
              exact J38 (by simp only [own_f2, if_neg c1_3, if_neg c9_4, if_pos c17_5, if_neg c23_6, if_neg c29_7, if_pos c35_8]; first | rfl | done)
            ·
              refine own_st (fun t k => XS.icmpYes X0.here hx rfl (pc0 := 35) (pc' := 42) rfl (hb hby d2_35) rfl (feq c35_8).2 (by decide) (by decide) k) ?_
              show own_Go _ _ _ _ s₁ (mkF m 42 #[.val (.int p0)] [])
              refine own_st (fun t k => XS.iconst X0.here hx rfl (hb hby d2_42) k) ?_
              show own_Go _ _ _ _ s₁ (mkF m 43 #[.val (.int p0)] [(.int (0 : Int32))])
              exact own_retN X0 hx hlk (t := .boolean) hrt (by simp) (hb hby d2_43) ⟨(by simp only [own_f2, if_neg c1_3, if_neg c9_4, if_pos c17_5, if_neg c23_6, if_neg c29_7, if_neg c35_8]; first | rfl | done), N0, e0⟩ (by decide) (by decide)
      ·
        refine own_st (fun t k => XS.icmpYes X0.here hx rfl (pc0 := 17) (pc' := 44) rfl (hb hby d2_17) rfl (flt c17_5).2.1 (by decide) (by decide) k) ?_
        show own_Go _ _ _ _ s₁ (mkF m 44 #[.val (.int p0)] [])
        refine own_st (fun t k => XS.iloadN X0.here hx rfl (hb hby d2_44) rfl k) ?_
        show own_Go _ _ _ _ s₁ (mkF m 45 #[.val (.int p0)] [(.int p0)])
        refine own_st (X0.ldcInt hx hown (mvT hZ (hw _ (List.mem_of_getElem? (i := 2) rfl))) (g := (mkF m 45 #[.val (.int p0)] [(.int p0)])) rfl (hb hby d2_45)) ?_
        show own_Go _ _ _ _ s₁ (mkF m 47 #[.val (.int p0)] [(.int (55296 : Int32)), (.int p0)])
        by_cases c47_9 : p0 < (55296 : Int32)
        ·
          refine own_st (fun t k => XS.icmpYes X0.here hx rfl (pc0 := 47) (pc' := 58) rfl (hb hby d2_47) rfl (tlt c47_9).1 (by decide) (by decide) k) ?_
          show own_Go _ _ _ _ s₁ (mkF m 58 #[.val (.int p0)] [])
          exact J58 (by simp only [own_f2, if_neg c1_3, if_neg c9_4, if_neg c17_5, if_pos c47_9]; first | rfl | done)
        ·
          refine own_st (fun t k => XS.icmpNo X0.here hx rfl (hb hby d2_47) rfl (flt c47_9).1 k) ?_
          show own_Go _ _ _ _ s₁ (mkF m 50 #[.val (.int p0)] [])
          refine own_st (fun t k => XS.iloadN X0.here hx rfl (hb hby d2_50) rfl k) ?_
          show own_Go _ _ _ _ s₁ (mkF m 51 #[.val (.int p0)] [(.int p0)])
          refine own_st (X0.ldcInt hx hown (mvT hZ (hw _ (List.mem_of_getElem? (i := 3) rfl))) (g := (mkF m 51 #[.val (.int p0)] [(.int p0)])) rfl (hb hby d2_51)) ?_
          show own_Go _ _ _ _ s₁ (mkF m 53 #[.val (.int p0)] [(.int (57343 : Int32)), (.int p0)])
          by_cases c53_10 : (57343 : Int32) < p0
          ·
            refine own_st (fun t k => XS.icmpYes X0.here hx rfl (pc0 := 53) (pc' := 58) rfl (hb hby d2_53) rfl (tlt c53_10).2.2.1 (by decide) (by decide) k) ?_
            show own_Go _ _ _ _ s₁ (mkF m 58 #[.val (.int p0)] [])
            exact J58 (by simp only [own_f2, if_neg c1_3, if_neg c9_4, if_neg c17_5, if_neg c47_9, if_pos c53_10]; first | rfl | done)
          ·
            refine own_st (fun t k => XS.icmpNo X0.here hx rfl (hb hby d2_53) rfl (flt c53_10).2.2.1 k) ?_
            show own_Go _ _ _ _ s₁ (mkF m 56 #[.val (.int p0)] [])
            refine own_st (fun t k => XS.iconst X0.here hx rfl (hb hby d2_56) k) ?_
            show own_Go _ _ _ _ s₁ (mkF m 57 #[.val (.int p0)] [(.int (0 : Int32))])
            exact own_retN X0 hx hlk (t := .boolean) hrt (by simp) (hb hby d2_57) ⟨(by simp only [own_f2, if_neg c1_3, if_neg c9_4, if_neg c17_5, if_neg c47_9, if_neg c53_10]; first | rfl | done), N0, e0⟩ (by decide) (by decide)
theorem own_lt (x y : Int32) : (x < y) = (x.toInt < y.toInt) := propext Int32.lt_iff_toInt_lt
theorem own_eqi (x y : Int32) : (x = y) = (x.toInt = y.toInt) := propext Int32.toInt_inj.symm
def own_f1_42_P (z : Int) : Prop := (65536 ≤ z ∧ z ≤ 1114111)
instance (z : Int) : Decidable (own_f1_42_P z) := by unfold own_f1_42_P; infer_instance
theorem own_f1_42_is (c : Int32) : own_f1_42 c = if own_f1_42_P c.toInt then 1 else 0 := by
  by_cases hP : own_f1_42_P c.toInt
  · rw [if_pos hP]
    simp only [own_f1_42_P] at hP
    simp only [own_f1_42, own_f1_58, own_f1_54, own_lt]
    simp only [own_eqi c, Int32.reduceToInt]
    generalize c.toInt = z at *
    repeat' split
    all_goals first | rfl | (exfalso; omega)
  · rw [if_neg hP]
    simp only [own_f1_42_P] at hP
    simp only [own_f1_42, own_f1_58, own_f1_54, own_lt]
    simp only [own_eqi c, Int32.reduceToInt]
    generalize c.toInt = z at *
    repeat' split
    all_goals first | rfl | (exfalso; omega)
def own_f1_30_P (z : Int) : Prop := (57344 ≤ z ∧ z ≤ 65533) ∨ own_f1_42_P z
instance (z : Int) : Decidable (own_f1_30_P z) := by unfold own_f1_30_P; infer_instance
theorem own_f1_30_is (c : Int32) : own_f1_30 c = if own_f1_30_P c.toInt then 1 else 0 := by
  by_cases hP : own_f1_30_P c.toInt
  · rw [if_pos hP]
    simp only [own_f1_30_P] at hP
    simp only [own_f1_30, own_f1_54, own_f1_42_is, own_lt]
    simp only [own_eqi c, Int32.reduceToInt]
    generalize c.toInt = z at *
    by_cases hn : own_f1_42_P z
    · simp only [if_pos hn]
      try simp only [hn, or_true, true_or, and_true, true_and, or_false, false_or, and_false, false_and, not_true_eq_false, not_false_eq_true] at hP
      all_goals (repeat' split)
      all_goals first | rfl | (exfalso; omega)
    · simp only [if_neg hn]
      try simp only [hn, or_true, true_or, and_true, true_and, or_false, false_or, and_false, false_and, not_true_eq_false, not_false_eq_true] at hP
      all_goals (repeat' split)
      all_goals first | rfl | (exfalso; omega)
  · rw [if_neg hP]
    simp only [own_f1_30_P] at hP
    simp only [own_f1_30, own_f1_54, own_f1_42_is, own_lt]
    simp only [own_eqi c, Int32.reduceToInt]
    generalize c.toInt = z at *
    by_cases hn : own_f1_42_P z
    · simp only [if_pos hn]
      try simp only [hn, or_true, true_or, and_true, true_and, or_false, false_or, and_false, false_and, not_true_eq_false, not_false_eq_true] at hP
      all_goals (repeat' split)
      all_goals first | rfl | (exfalso; omega)
    · simp only [if_neg hn]
      try simp only [hn, or_true, true_or, and_true, true_and, or_false, false_or, and_false, false_and, not_true_eq_false, not_false_eq_true] at hP
      all_goals (repeat' split)
      all_goals first | rfl | (exfalso; omega)
def own_f1_P (z : Int) : Prop := z = 9 ∨ z = 10 ∨ z = 13 ∨ (32 ≤ z ∧ z ≤ 55295) ∨ own_f1_30_P z
instance (z : Int) : Decidable (own_f1_P z) := by unfold own_f1_P; infer_instance
theorem own_f1_is (c : Int32) : own_f1 c = if own_f1_P c.toInt then 1 else 0 := by
  by_cases hP : own_f1_P c.toInt
  · rw [if_pos hP]
    simp only [own_f1_P] at hP
    simp only [own_f1, own_f1_54, own_f1_30_is, own_lt]
    simp only [own_eqi c, Int32.reduceToInt]
    generalize c.toInt = z at *
    by_cases hn : own_f1_30_P z
    · simp only [if_pos hn]
      try simp only [hn, or_true, true_or, and_true, true_and, or_false, false_or, and_false, false_and, not_true_eq_false, not_false_eq_true] at hP
      all_goals (repeat' split)
      all_goals first | rfl | (exfalso; omega)
    · simp only [if_neg hn]
      try simp only [hn, or_true, true_or, and_true, true_and, or_false, false_or, and_false, false_and, not_true_eq_false, not_false_eq_true] at hP
      all_goals (repeat' split)
      all_goals first | rfl | (exfalso; omega)
  · rw [if_neg hP]
    simp only [own_f1_P] at hP
    simp only [own_f1, own_f1_54, own_f1_30_is, own_lt]
    simp only [own_eqi c, Int32.reduceToInt]
    generalize c.toInt = z at *
    by_cases hn : own_f1_30_P z
    · simp only [if_pos hn]
      try simp only [hn, or_true, true_or, and_true, true_and, or_false, false_or, and_false, false_and, not_true_eq_false, not_false_eq_true] at hP
      all_goals (repeat' split)
      all_goals first | rfl | (exfalso; omega)
    · simp only [if_neg hn]
      try simp only [hn, or_true, true_or, and_true, true_and, or_false, false_or, and_false, false_and, not_true_eq_false, not_false_eq_true] at hP
      all_goals (repeat' split)
      all_goals first | rfl | (exfalso; omega)
def own_f2_58_P (z : Int) : Prop := ¬ z = 65534 ∧ ¬ z = 65535
instance (z : Int) : Decidable (own_f2_58_P z) := by unfold own_f2_58_P; infer_instance
theorem own_f2_58_is (c : Int32) : own_f2_58 c = if own_f2_58_P c.toInt then 1 else 0 := by
  by_cases hP : own_f2_58_P c.toInt
  · rw [if_pos hP]
    simp only [own_f2_58_P] at hP
    simp only [own_f2_58, own_f2_70, own_lt]
    simp only [own_eqi c, Int32.reduceToInt]
    generalize c.toInt = z at *
    repeat' split
    all_goals first | rfl | (exfalso; omega)
  · rw [if_neg hP]
    simp only [own_f2_58_P] at hP
    simp only [own_f2_58, own_f2_70, own_lt]
    simp only [own_eqi c, Int32.reduceToInt]
    generalize c.toInt = z at *
    repeat' split
    all_goals first | rfl | (exfalso; omega)
def own_f2_P (z : Int) : Prop := 0 ≤ z ∧ z ≤ 1114111 ∧ ((z < 32 ∧ (z = 9 ∨ z = 10 ∨ z = 13)) ∨ (32 ≤ z ∧ (z < 55296 ∨ 57343 < z) ∧ own_f2_58_P z))
instance (z : Int) : Decidable (own_f2_P z) := by unfold own_f2_P; infer_instance
theorem own_f2_is (c : Int32) : own_f2 c = if own_f2_P c.toInt then 1 else 0 := by
  by_cases hP : own_f2_P c.toInt
  · rw [if_pos hP]
    simp only [own_f2_P] at hP
    simp only [own_f2, own_f2_38, own_f2_58_is, own_lt]
    simp only [own_eqi c, Int32.reduceToInt]
    generalize c.toInt = z at *
    by_cases hn : own_f2_58_P z
    · simp only [if_pos hn]
      try simp only [hn, or_true, true_or, and_true, true_and, or_false, false_or, and_false, false_and, not_true_eq_false, not_false_eq_true] at hP
      all_goals (repeat' split)
      all_goals first | rfl | (exfalso; omega)
    · simp only [if_neg hn]
      try simp only [hn, or_true, true_or, and_true, true_and, or_false, false_or, and_false, false_and, not_true_eq_false, not_false_eq_true] at hP
      all_goals (repeat' split)
      all_goals first | rfl | (exfalso; omega)
  · rw [if_neg hP]
    simp only [own_f2_P] at hP
    simp only [own_f2, own_f2_38, own_f2_58_is, own_lt]
    simp only [own_eqi c, Int32.reduceToInt]
    generalize c.toInt = z at *
    by_cases hn : own_f2_58_P z
    · simp only [if_pos hn]
      try simp only [hn, or_true, true_or, and_true, true_and, or_false, false_or, and_false, false_and, not_true_eq_false, not_false_eq_true] at hP
      all_goals (repeat' split)
      all_goals first | rfl | (exfalso; omega)
    · simp only [if_neg hn]
      try simp only [hn, or_true, true_or, and_true, true_and, or_false, false_or, and_false, false_and, not_true_eq_false, not_false_eq_true] at hP
      all_goals (repeat' split)
      all_goals first | rfl | (exfalso; omega)

theorem own_eq (c : Int32) : own_f1 c = own_f2 c := by
  have q : own_f1_P c.toInt ↔ own_f2_P c.toInt := by
    simp only [own_f1_P, own_f1_30_P, own_f1_42_P, own_f2_P, own_f2_58_P]
    omega
  rw [own_f1_is, own_f2_is]
  by_cases h : own_f2_P c.toInt
  · rw [if_pos h, if_pos (q.mpr h)]
  · rw [if_neg h, if_neg fun u => h (q.mp u)]
theorem own_idx (k : Int32) : ¬ ((k &&& (2147483647 : Int32)) % (20 : Int32)) < 0 ∧ ((k &&& (2147483647 : Int32)) % (20 : Int32)) < (20 : Int32) := by
  have h1 := c_and k (2147483647 : Int32) (by decide)
  have h2 := (c_irem (k &&& (2147483647 : Int32)) (20 : Int32) 20 (by decide)).1 h1.1
  constructor
  · rw [Int32.lt_iff_toInt_lt]; simp only [Int32.reduceToInt]; omega
  · rw [Int32.lt_iff_toInt_lt]; simp only [Int32.reduceToInt]; omega

theorem pd__28I_29Z : parseMethodDescriptor "(I)Z" = some ⟨[.int], some .boolean⟩ := by decide +kernel
/-! body 0: MarkupIsXmlCharacterPinLaw.law -/
theorem ef_0 (m : MethodId) (x0 : Int32) (x1 : Int32) : entryFrame m #[(.int x0), (.int x1)] maxLocals = mkF m 0 #[.val (.int x0), .val (.int x1), .unset, .unset, .unset, .unset, .unset, .unset] [] := by first | (simp [entryFrame, mkF, argsToLocals, Value.category, maxLocals]; done) | rfl
def Q0 (Z : State) (p0 : Int32) (p1 : Int32) (h0 : Heap) (n0 : Nat) (v : Option Value) (h : Heap) (L : List Loc) : Prop := v = some (.int (1 : Int32)) ∧ Fr n0 L
set_option maxRecDepth 65536 in
set_option maxHeartbeats 40000000 in
theorem rm0 (l : Launch) (Z : State) (a0 : Array Value) (hw : ∀ d ∈ tables_1, d.before a0 Z = true) (ws : List Jvm.Cond) (p0 : Int32) (p1 : Int32) (h0 : Heap) (n0 : Nat) (Z0 : n0 ≤ h0.size) :
    MetFree l x (head1 (Jvm.Cond.code x code maxLocals ret :: ws) room_1) (fun a U => a = #[(.int p0), (.int p1)] ∧ Z.Warmed39 U.vm ∧ U.heap = h0) (fun _ _ _ _ _ => True) (fun _ U o U' => ∃ v L, o = .returned v ∧ Q0 Z p0 p1 h0 n0 v U'.heap L ∧ FrameEnd U o U' L 1 20) := by
  refine MetFree.of_bodySF (plainFor_of_name pn_shelfmark_MarkupIsXmlCharacterPinLaw) hisR ?_
  intro p e s m args below meth c s₁ Bd hml0 hP hK
  obtain ⟨rfl, hZ, hh⟩ := hP
  have hx := Bd.exec
  have hby := Bd.bytes
  have hlk := Bd.notSynchronized
  have hrt := Bd.returns
  have hml : c.maxLocals = 8 := hml0
  have hown : s.vm.findClass "shelfmark/MarkupIsXmlCharacterPinLaw" = some m.cls := findClass_of_methodNamed Bd.named
  have hnm := (name_of_methodNamed Bd.named Bd.method).1
  have X0 : Stand p l e room_1 s m #[(.int p0), (.int p1)] below meth c s₁ [] 0 0 := Stand.of_body Bd
  have e0 : s₁.heap = h0 := by rw [← hh, Bd.state]; rfl
  have N0 := Fr.nil n0
  have K0 := Keep.refl h0 []
  refine own_out (Q := Q0 Z p0 p1 h0 n0) ?_
  refine own_in (ef_0 m p0 p1) ?_
  show own_Go _ _ _ _ s₁ (mkF m 0 #[.val (.int p0), .val (.int p1), .unset, .unset, .unset, .unset, .unset, .unset] [])
  refine own_st (fun t k => XS.bipush X0.here hx rfl (hb hby at_0) k) ?_
  show own_Go _ _ _ _ s₁ (mkF m 2 #[.val (.int p0), .val (.int p1), .unset, .unset, .unset, .unset, .unset, .unset] [(.int (20 : Int32))])
  obtain ⟨T1, h1, k1, X1, e1, E1, A1, st1⟩ := newP X0 hx hZ (hw _ (List.mem_of_getElem? (i := 0) rfl)) e0 (g := (mkF m 2 #[.val (.int p0), .val (.int p1), .unset, .unset, .unset, .unset, .unset, .unset] [(.int (20 : Int32))])) rfl (hb hby at_2) rfl (by decide) (cap := 20) (by decide) (by decide) (by decide) (by decide)
  obtain ⟨b1, g1⟩ : ∃ z, z = h0.size := ⟨_, rfl⟩
  rw [← g1] at A1 st1
  have sz_b1 : h0.size ≤ b1 := Nat.le_trans K0.1 (Nat.le_of_eq g1.symm)
  have g_b1 : n0 ≤ b1 := Nat.le_trans Z0 sz_b1
  have V1 : Arv Z h1 b1 k1 .int (20 : Int32) [(.int (0 : Int32)), (.int (0 : Int32)), (.int (0 : Int32)), (.int (0 : Int32)), (.int (0 : Int32)), (.int (0 : Int32)), (.int (0 : Int32)), (.int (0 : Int32)), (.int (0 : Int32)), (.int (0 : Int32)), (.int (0 : Int32)), (.int (0 : Int32)), (.int (0 : Int32)), (.int (0 : Int32)), (.int (0 : Int32)), (.int (0 : Int32)), (.int (0 : Int32)), (.int (0 : Int32)), (.int (0 : Int32)), (.int (0 : Int32))] (.int (0 : Int32)) := (Arv.new A1 (by decide)).pad (pad_rep [] (.int (0 : Int32)) 20)
  refine own_st st1 ?_
  show own_Go _ _ _ _ T1 (mkF m 4 #[.val (.int p0), .val (.int p1), .unset, .unset, .unset, .unset, .unset, .unset] [(.ref b1)])
  refine own_st (fun t k => XS.dup X1.here hx rfl (hb hby at_4) rfl rfl k) ?_
  show own_Go _ _ _ _ T1 (mkF m 5 #[.val (.int p0), .val (.int p1), .unset, .unset, .unset, .unset, .unset, .unset] [(.ref b1), (.ref b1)])
  refine own_st (fun t k => XS.iconst X1.here hx rfl (hb hby at_5) k) ?_
  show own_Go _ _ _ _ T1 (mkF m 6 #[.val (.int p0), .val (.int p1), .unset, .unset, .unset, .unset, .unset, .unset] [(.int (0 : Int32)), (.ref b1), (.ref b1)])
  refine own_st (fun t k => XS.iconst X1.here hx rfl (hb hby at_6) k) ?_
  show own_Go _ _ _ _ T1 (mkF m 7 #[.val (.int p0), .val (.int p1), .unset, .unset, .unset, .unset, .unset, .unset] [(.int (0 : Int32)), (.int (0 : Int32)), (.ref b1), (.ref b1)])
  have K0_2 := (K0.ext E1)
  obtain ⟨cl3, Ar3, qk3, Sz3, Nn3, Hs3, Gf3⟩ := id V1
  have hin3 : ¬ ((0 : Int32) < 0 ∨ cl3.slots.size ≤ ((0 : Int32)).toNatClampNeg) := inb_of Sz3 ⟨by decide, by decide⟩
  obtain ⟨T4, h4, X4, e4, W4, st4⟩ := stI X1 hx hZ e1 Ar3 (j := (0 : Int32)) hin3 (g := (mkF m 7 #[.val (.int p0), .val (.int p1), .unset, .unset, .unset, .unset, .unset, .unset] [(.int (0 : Int32)), (.int (0 : Int32)), (.ref b1), (.ref b1)])) rfl rfl (hb hby at_7)
  have V4 : Arv Z h4 b1 k1 .int (20 : Int32) [(.int (0 : Int32)), (.int (0 : Int32)), (.int (0 : Int32)), (.int (0 : Int32)), (.int (0 : Int32)), (.int (0 : Int32)), (.int (0 : Int32)), (.int (0 : Int32)), (.int (0 : Int32)), (.int (0 : Int32)), (.int (0 : Int32)), (.int (0 : Int32)), (.int (0 : Int32)), (.int (0 : Int32)), (.int (0 : Int32)), (.int (0 : Int32)), (.int (0 : Int32)), (.int (0 : Int32)), (.int (0 : Int32)), (.int (0 : Int32))] (.int (0 : Int32)) := Arv.set Ar3 qk3 Sz3 Nn3 Hs3 Gf3 rfl W4 0 rfl (Nat.le_of_ble_eq_true rfl)
  obtain ⟨_, X4, N4⟩ := own_hide X4 (Fr.snoc X4 N0 g_b1)
  refine own_st st4 ?_
  show own_Go _ _ _ _ T4 (mkF m 8 #[.val (.int p0), .val (.int p1), .unset, .unset, .unset, .unset, .unset, .unset] [(.ref b1)])
  refine own_st (fun t k => XS.dup X4.here hx rfl (hb hby at_8) rfl rfl k) ?_
  show own_Go _ _ _ _ T4 (mkF m 9 #[.val (.int p0), .val (.int p1), .unset, .unset, .unset, .unset, .unset, .unset] [(.ref b1), (.ref b1)])
  refine own_st (fun t k => XS.iconst X4.here hx rfl (hb hby at_9) k) ?_
  show own_Go _ _ _ _ T4 (mkF m 10 #[.val (.int p0), .val (.int p1), .unset, .unset, .unset, .unset, .unset, .unset] [(.int (1 : Int32)), (.ref b1), (.ref b1)])
  refine own_st (fun t k => XS.bipush X4.here hx rfl (hb hby at_10) k) ?_
  show own_Go _ _ _ _ T4 (mkF m 12 #[.val (.int p0), .val (.int p1), .unset, .unset, .unset, .unset, .unset, .unset] [(.int (9 : Int32)), (.int (1 : Int32)), (.ref b1), (.ref b1)])
  have K0_5 := (K0_2.wr W4 (Or.inr sz_b1))
  obtain ⟨cl6, Ar6, qk6, Sz6, Nn6, Hs6, Gf6⟩ := id V4
  have hin6 : ¬ ((1 : Int32) < 0 ∨ cl6.slots.size ≤ ((1 : Int32)).toNatClampNeg) := inb_of Sz6 ⟨by decide, by decide⟩
  obtain ⟨T7, h7, X7, e7, W7, st7⟩ := stI X4 hx hZ e4 Ar6 (j := (1 : Int32)) hin6 (g := (mkF m 12 #[.val (.int p0), .val (.int p1), .unset, .unset, .unset, .unset, .unset, .unset] [(.int (9 : Int32)), (.int (1 : Int32)), (.ref b1), (.ref b1)])) rfl rfl (hb hby at_12)
  have V7 : Arv Z h7 b1 k1 .int (20 : Int32) [(.int (0 : Int32)), (.int (9 : Int32)), (.int (0 : Int32)), (.int (0 : Int32)), (.int (0 : Int32)), (.int (0 : Int32)), (.int (0 : Int32)), (.int (0 : Int32)), (.int (0 : Int32)), (.int (0 : Int32)), (.int (0 : Int32)), (.int (0 : Int32)), (.int (0 : Int32)), (.int (0 : Int32)), (.int (0 : Int32)), (.int (0 : Int32)), (.int (0 : Int32)), (.int (0 : Int32)), (.int (0 : Int32)), (.int (0 : Int32))] (.int (0 : Int32)) := Arv.set Ar6 qk6 Sz6 Nn6 Hs6 Gf6 rfl W7 1 rfl (Nat.le_of_ble_eq_true rfl)
  obtain ⟨_, X7, N7⟩ := own_hide X7 (Fr.snoc X7 N4 g_b1)
  refine own_st st7 ?_
  show own_Go _ _ _ _ T7 (mkF m 13 #[.val (.int p0), .val (.int p1), .unset, .unset, .unset, .unset, .unset, .unset] [(.ref b1)])
  refine own_st (fun t k => XS.dup X7.here hx rfl (hb hby at_13) rfl rfl k) ?_
  show own_Go _ _ _ _ T7 (mkF m 14 #[.val (.int p0), .val (.int p1), .unset, .unset, .unset, .unset, .unset, .unset] [(.ref b1), (.ref b1)])
  refine own_st (fun t k => XS.iconst X7.here hx rfl (hb hby at_14) k) ?_
  show own_Go _ _ _ _ T7 (mkF m 15 #[.val (.int p0), .val (.int p1), .unset, .unset, .unset, .unset, .unset, .unset] [(.int (2 : Int32)), (.ref b1), (.ref b1)])
  refine own_st (fun t k => XS.bipush X7.here hx rfl (hb hby at_15) k) ?_
  show own_Go _ _ _ _ T7 (mkF m 17 #[.val (.int p0), .val (.int p1), .unset, .unset, .unset, .unset, .unset, .unset] [(.int (10 : Int32)), (.int (2 : Int32)), (.ref b1), (.ref b1)])
  have K0_8 := (K0_5.wr W7 (Or.inr sz_b1))
  obtain ⟨cl9, Ar9, qk9, Sz9, Nn9, Hs9, Gf9⟩ := id V7
  have hin9 : ¬ ((2 : Int32) < 0 ∨ cl9.slots.size ≤ ((2 : Int32)).toNatClampNeg) := inb_of Sz9 ⟨by decide, by decide⟩
  obtain ⟨T10, h10, X10, e10, W10, st10⟩ := stI X7 hx hZ e7 Ar9 (j := (2 : Int32)) hin9 (g := (mkF m 17 #[.val (.int p0), .val (.int p1), .unset, .unset, .unset, .unset, .unset, .unset] [(.int (10 : Int32)), (.int (2 : Int32)), (.ref b1), (.ref b1)])) rfl rfl (hb hby at_17)
  have V10 : Arv Z h10 b1 k1 .int (20 : Int32) [(.int (0 : Int32)), (.int (9 : Int32)), (.int (10 : Int32)), (.int (0 : Int32)), (.int (0 : Int32)), (.int (0 : Int32)), (.int (0 : Int32)), (.int (0 : Int32)), (.int (0 : Int32)), (.int (0 : Int32)), (.int (0 : Int32)), (.int (0 : Int32)), (.int (0 : Int32)), (.int (0 : Int32)), (.int (0 : Int32)), (.int (0 : Int32)), (.int (0 : Int32)), (.int (0 : Int32)), (.int (0 : Int32)), (.int (0 : Int32))] (.int (0 : Int32)) := Arv.set Ar9 qk9 Sz9 Nn9 Hs9 Gf9 rfl W10 2 rfl (Nat.le_of_ble_eq_true rfl)
  obtain ⟨_, X10, N10⟩ := own_hide X10 (Fr.snoc X10 N7 g_b1)
  refine own_st st10 ?_
  show own_Go _ _ _ _ T10 (mkF m 18 #[.val (.int p0), .val (.int p1), .unset, .unset, .unset, .unset, .unset, .unset] [(.ref b1)])
  refine own_st (fun t k => XS.dup X10.here hx rfl (hb hby at_18) rfl rfl k) ?_
  show own_Go _ _ _ _ T10 (mkF m 19 #[.val (.int p0), .val (.int p1), .unset, .unset, .unset, .unset, .unset, .unset] [(.ref b1), (.ref b1)])
  refine own_st (fun t k => XS.iconst X10.here hx rfl (hb hby at_19) k) ?_
  show own_Go _ _ _ _ T10 (mkF m 20 #[.val (.int p0), .val (.int p1), .unset, .unset, .unset, .unset, .unset, .unset] [(.int (3 : Int32)), (.ref b1), (.ref b1)])
  refine own_st (fun t k => XS.bipush X10.here hx rfl (hb hby at_20) k) ?_
  show own_Go _ _ _ _ T10 (mkF m 22 #[.val (.int p0), .val (.int p1), .unset, .unset, .unset, .unset, .unset, .unset] [(.int (13 : Int32)), (.int (3 : Int32)), (.ref b1), (.ref b1)])
  have K0_11 := (K0_8.wr W10 (Or.inr sz_b1))
  obtain ⟨cl12, Ar12, qk12, Sz12, Nn12, Hs12, Gf12⟩ := id V10
  have hin12 : ¬ ((3 : Int32) < 0 ∨ cl12.slots.size ≤ ((3 : Int32)).toNatClampNeg) := inb_of Sz12 ⟨by decide, by decide⟩
  obtain ⟨T13, h13, X13, e13, W13, st13⟩ := stI X10 hx hZ e10 Ar12 (j := (3 : Int32)) hin12 (g := (mkF m 22 #[.val (.int p0), .val (.int p1), .unset, .unset, .unset, .unset, .unset, .unset] [(.int (13 : Int32)), (.int (3 : Int32)), (.ref b1), (.ref b1)])) rfl rfl (hb hby at_22)
  have V13 : Arv Z h13 b1 k1 .int (20 : Int32) [(.int (0 : Int32)), (.int (9 : Int32)), (.int (10 : Int32)), (.int (13 : Int32)), (.int (0 : Int32)), (.int (0 : Int32)), (.int (0 : Int32)), (.int (0 : Int32)), (.int (0 : Int32)), (.int (0 : Int32)), (.int (0 : Int32)), (.int (0 : Int32)), (.int (0 : Int32)), (.int (0 : Int32)), (.int (0 : Int32)), (.int (0 : Int32)), (.int (0 : Int32)), (.int (0 : Int32)), (.int (0 : Int32)), (.int (0 : Int32))] (.int (0 : Int32)) := Arv.set Ar12 qk12 Sz12 Nn12 Hs12 Gf12 rfl W13 3 rfl (Nat.le_of_ble_eq_true rfl)
  obtain ⟨_, X13, N13⟩ := own_hide X13 (Fr.snoc X13 N10 g_b1)
  refine own_st st13 ?_
  show own_Go _ _ _ _ T13 (mkF m 23 #[.val (.int p0), .val (.int p1), .unset, .unset, .unset, .unset, .unset, .unset] [(.ref b1)])
  refine own_st (fun t k => XS.dup X13.here hx rfl (hb hby at_23) rfl rfl k) ?_
  show own_Go _ _ _ _ T13 (mkF m 24 #[.val (.int p0), .val (.int p1), .unset, .unset, .unset, .unset, .unset, .unset] [(.ref b1), (.ref b1)])
  refine own_st (fun t k => XS.iconst X13.here hx rfl (hb hby at_24) k) ?_
  show own_Go _ _ _ _ T13 (mkF m 25 #[.val (.int p0), .val (.int p1), .unset, .unset, .unset, .unset, .unset, .unset] [(.int (4 : Int32)), (.ref b1), (.ref b1)])
  refine own_st (fun t k => XS.bipush X13.here hx rfl (hb hby at_25) k) ?_
  show own_Go _ _ _ _ T13 (mkF m 27 #[.val (.int p0), .val (.int p1), .unset, .unset, .unset, .unset, .unset, .unset] [(.int (31 : Int32)), (.int (4 : Int32)), (.ref b1), (.ref b1)])
  have K0_14 := (K0_11.wr W13 (Or.inr sz_b1))
  obtain ⟨cl15, Ar15, qk15, Sz15, Nn15, Hs15, Gf15⟩ := id V13
  have hin15 : ¬ ((4 : Int32) < 0 ∨ cl15.slots.size ≤ ((4 : Int32)).toNatClampNeg) := inb_of Sz15 ⟨by decide, by decide⟩
  obtain ⟨T16, h16, X16, e16, W16, st16⟩ := stI X13 hx hZ e13 Ar15 (j := (4 : Int32)) hin15 (g := (mkF m 27 #[.val (.int p0), .val (.int p1), .unset, .unset, .unset, .unset, .unset, .unset] [(.int (31 : Int32)), (.int (4 : Int32)), (.ref b1), (.ref b1)])) rfl rfl (hb hby at_27)
  have V16 : Arv Z h16 b1 k1 .int (20 : Int32) [(.int (0 : Int32)), (.int (9 : Int32)), (.int (10 : Int32)), (.int (13 : Int32)), (.int (31 : Int32)), (.int (0 : Int32)), (.int (0 : Int32)), (.int (0 : Int32)), (.int (0 : Int32)), (.int (0 : Int32)), (.int (0 : Int32)), (.int (0 : Int32)), (.int (0 : Int32)), (.int (0 : Int32)), (.int (0 : Int32)), (.int (0 : Int32)), (.int (0 : Int32)), (.int (0 : Int32)), (.int (0 : Int32)), (.int (0 : Int32))] (.int (0 : Int32)) := Arv.set Ar15 qk15 Sz15 Nn15 Hs15 Gf15 rfl W16 4 rfl (Nat.le_of_ble_eq_true rfl)
  obtain ⟨_, X16, N16⟩ := own_hide X16 (Fr.snoc X16 N13 g_b1)
  refine own_st st16 ?_
  show own_Go _ _ _ _ T16 (mkF m 28 #[.val (.int p0), .val (.int p1), .unset, .unset, .unset, .unset, .unset, .unset] [(.ref b1)])
  refine own_st (fun t k => XS.dup X16.here hx rfl (hb hby at_28) rfl rfl k) ?_
  show own_Go _ _ _ _ T16 (mkF m 29 #[.val (.int p0), .val (.int p1), .unset, .unset, .unset, .unset, .unset, .unset] [(.ref b1), (.ref b1)])
  refine own_st (fun t k => XS.iconst X16.here hx rfl (hb hby at_29) k) ?_
  show own_Go _ _ _ _ T16 (mkF m 30 #[.val (.int p0), .val (.int p1), .unset, .unset, .unset, .unset, .unset, .unset] [(.int (5 : Int32)), (.ref b1), (.ref b1)])
  refine own_st (fun t k => XS.bipush X16.here hx rfl (hb hby at_30) k) ?_
  show own_Go _ _ _ _ T16 (mkF m 32 #[.val (.int p0), .val (.int p1), .unset, .unset, .unset, .unset, .unset, .unset] [(.int (32 : Int32)), (.int (5 : Int32)), (.ref b1), (.ref b1)])
  have K0_17 := (K0_14.wr W16 (Or.inr sz_b1))
  obtain ⟨cl18, Ar18, qk18, Sz18, Nn18, Hs18, Gf18⟩ := id V16
  have hin18 : ¬ ((5 : Int32) < 0 ∨ cl18.slots.size ≤ ((5 : Int32)).toNatClampNeg) := inb_of Sz18 ⟨by decide, by decide⟩
  obtain ⟨T19, h19, X19, e19, W19, st19⟩ := stI X16 hx hZ e16 Ar18 (j := (5 : Int32)) hin18 (g := (mkF m 32 #[.val (.int p0), .val (.int p1), .unset, .unset, .unset, .unset, .unset, .unset] [(.int (32 : Int32)), (.int (5 : Int32)), (.ref b1), (.ref b1)])) rfl rfl (hb hby at_32)
  have V19 : Arv Z h19 b1 k1 .int (20 : Int32) [(.int (0 : Int32)), (.int (9 : Int32)), (.int (10 : Int32)), (.int (13 : Int32)), (.int (31 : Int32)), (.int (32 : Int32)), (.int (0 : Int32)), (.int (0 : Int32)), (.int (0 : Int32)), (.int (0 : Int32)), (.int (0 : Int32)), (.int (0 : Int32)), (.int (0 : Int32)), (.int (0 : Int32)), (.int (0 : Int32)), (.int (0 : Int32)), (.int (0 : Int32)), (.int (0 : Int32)), (.int (0 : Int32)), (.int (0 : Int32))] (.int (0 : Int32)) := Arv.set Ar18 qk18 Sz18 Nn18 Hs18 Gf18 rfl W19 5 rfl (Nat.le_of_ble_eq_true rfl)
  obtain ⟨_, X19, N19⟩ := own_hide X19 (Fr.snoc X19 N16 g_b1)
  refine own_st st19 ?_
  show own_Go _ _ _ _ T19 (mkF m 33 #[.val (.int p0), .val (.int p1), .unset, .unset, .unset, .unset, .unset, .unset] [(.ref b1)])
  refine own_st (fun t k => XS.dup X19.here hx rfl (hb hby at_33) rfl rfl k) ?_
  show own_Go _ _ _ _ T19 (mkF m 34 #[.val (.int p0), .val (.int p1), .unset, .unset, .unset, .unset, .unset, .unset] [(.ref b1), (.ref b1)])
  refine own_st (fun t k => XS.bipush X19.here hx rfl (hb hby at_34) k) ?_
  show own_Go _ _ _ _ T19 (mkF m 36 #[.val (.int p0), .val (.int p1), .unset, .unset, .unset, .unset, .unset, .unset] [(.int (6 : Int32)), (.ref b1), (.ref b1)])
  refine own_st (fun t k => XS.bipush X19.here hx rfl (hb hby at_36) k) ?_
  show own_Go _ _ _ _ T19 (mkF m 38 #[.val (.int p0), .val (.int p1), .unset, .unset, .unset, .unset, .unset, .unset] [(.int (127 : Int32)), (.int (6 : Int32)), (.ref b1), (.ref b1)])
  have K0_20 := (K0_17.wr W19 (Or.inr sz_b1))
  obtain ⟨cl21, Ar21, qk21, Sz21, Nn21, Hs21, Gf21⟩ := id V19
  have hin21 : ¬ ((6 : Int32) < 0 ∨ cl21.slots.size ≤ ((6 : Int32)).toNatClampNeg) := inb_of Sz21 ⟨by decide, by decide⟩
  obtain ⟨T22, h22, X22, e22, W22, st22⟩ := stI X19 hx hZ e19 Ar21 (j := (6 : Int32)) hin21 (g := (mkF m 38 #[.val (.int p0), .val (.int p1), .unset, .unset, .unset, .unset, .unset, .unset] [(.int (127 : Int32)), (.int (6 : Int32)), (.ref b1), (.ref b1)])) rfl rfl (hb hby at_38)
  have V22 : Arv Z h22 b1 k1 .int (20 : Int32) [(.int (0 : Int32)), (.int (9 : Int32)), (.int (10 : Int32)), (.int (13 : Int32)), (.int (31 : Int32)), (.int (32 : Int32)), (.int (127 : Int32)), (.int (0 : Int32)), (.int (0 : Int32)), (.int (0 : Int32)), (.int (0 : Int32)), (.int (0 : Int32)), (.int (0 : Int32)), (.int (0 : Int32)), (.int (0 : Int32)), (.int (0 : Int32)), (.int (0 : Int32)), (.int (0 : Int32)), (.int (0 : Int32)), (.int (0 : Int32))] (.int (0 : Int32)) := Arv.set Ar21 qk21 Sz21 Nn21 Hs21 Gf21 rfl W22 6 rfl (Nat.le_of_ble_eq_true rfl)
  obtain ⟨_, X22, N22⟩ := own_hide X22 (Fr.snoc X22 N19 g_b1)
  refine own_st st22 ?_
  show own_Go _ _ _ _ T22 (mkF m 39 #[.val (.int p0), .val (.int p1), .unset, .unset, .unset, .unset, .unset, .unset] [(.ref b1)])
  refine own_st (fun t k => XS.dup X22.here hx rfl (hb hby at_39) rfl rfl k) ?_
  show own_Go _ _ _ _ T22 (mkF m 40 #[.val (.int p0), .val (.int p1), .unset, .unset, .unset, .unset, .unset, .unset] [(.ref b1), (.ref b1)])
  refine own_st (fun t k => XS.bipush X22.here hx rfl (hb hby at_40) k) ?_
  show own_Go _ _ _ _ T22 (mkF m 42 #[.val (.int p0), .val (.int p1), .unset, .unset, .unset, .unset, .unset, .unset] [(.int (7 : Int32)), (.ref b1), (.ref b1)])
  refine own_st (X22.ldcInt hx hown (mvT hZ (hw _ (List.mem_of_getElem? (i := 1) rfl))) (g := (mkF m 42 #[.val (.int p0), .val (.int p1), .unset, .unset, .unset, .unset, .unset, .unset] [(.int (7 : Int32)), (.ref b1), (.ref b1)])) rfl (hb hby at_42)) ?_
  show own_Go _ _ _ _ T22 (mkF m 44 #[.val (.int p0), .val (.int p1), .unset, .unset, .unset, .unset, .unset, .unset] [(.int (55295 : Int32)), (.int (7 : Int32)), (.ref b1), (.ref b1)])
  have K0_23 := (K0_20.wr W22 (Or.inr sz_b1))
  obtain ⟨cl24, Ar24, qk24, Sz24, Nn24, Hs24, Gf24⟩ := id V22
  have hin24 : ¬ ((7 : Int32) < 0 ∨ cl24.slots.size ≤ ((7 : Int32)).toNatClampNeg) := inb_of Sz24 ⟨by decide, by decide⟩
  obtain ⟨T25, h25, X25, e25, W25, st25⟩ := stI X22 hx hZ e22 Ar24 (j := (7 : Int32)) hin24 (g := (mkF m 44 #[.val (.int p0), .val (.int p1), .unset, .unset, .unset, .unset, .unset, .unset] [(.int (55295 : Int32)), (.int (7 : Int32)), (.ref b1), (.ref b1)])) rfl rfl (hb hby at_44)
  have V25 : Arv Z h25 b1 k1 .int (20 : Int32) [(.int (0 : Int32)), (.int (9 : Int32)), (.int (10 : Int32)), (.int (13 : Int32)), (.int (31 : Int32)), (.int (32 : Int32)), (.int (127 : Int32)), (.int (55295 : Int32)), (.int (0 : Int32)), (.int (0 : Int32)), (.int (0 : Int32)), (.int (0 : Int32)), (.int (0 : Int32)), (.int (0 : Int32)), (.int (0 : Int32)), (.int (0 : Int32)), (.int (0 : Int32)), (.int (0 : Int32)), (.int (0 : Int32)), (.int (0 : Int32))] (.int (0 : Int32)) := Arv.set Ar24 qk24 Sz24 Nn24 Hs24 Gf24 rfl W25 7 rfl (Nat.le_of_ble_eq_true rfl)
  obtain ⟨_, X25, N25⟩ := own_hide X25 (Fr.snoc X25 N22 g_b1)
  refine own_st st25 ?_
  show own_Go _ _ _ _ T25 (mkF m 45 #[.val (.int p0), .val (.int p1), .unset, .unset, .unset, .unset, .unset, .unset] [(.ref b1)])
  refine own_st (fun t k => XS.dup X25.here hx rfl (hb hby at_45) rfl rfl k) ?_
  show own_Go _ _ _ _ T25 (mkF m 46 #[.val (.int p0), .val (.int p1), .unset, .unset, .unset, .unset, .unset, .unset] [(.ref b1), (.ref b1)])
  refine own_st (fun t k => XS.bipush X25.here hx rfl (hb hby at_46) k) ?_
  show own_Go _ _ _ _ T25 (mkF m 48 #[.val (.int p0), .val (.int p1), .unset, .unset, .unset, .unset, .unset, .unset] [(.int (8 : Int32)), (.ref b1), (.ref b1)])
  refine own_st (X25.ldcInt hx hown (mvT hZ (hw _ (List.mem_of_getElem? (i := 2) rfl))) (g := (mkF m 48 #[.val (.int p0), .val (.int p1), .unset, .unset, .unset, .unset, .unset, .unset] [(.int (8 : Int32)), (.ref b1), (.ref b1)])) rfl (hb hby at_48)) ?_
  show own_Go _ _ _ _ T25 (mkF m 50 #[.val (.int p0), .val (.int p1), .unset, .unset, .unset, .unset, .unset, .unset] [(.int (55296 : Int32)), (.int (8 : Int32)), (.ref b1), (.ref b1)])
  have K0_26 := (K0_23.wr W25 (Or.inr sz_b1))
  obtain ⟨cl27, Ar27, qk27, Sz27, Nn27, Hs27, Gf27⟩ := id V25
  have hin27 : ¬ ((8 : Int32) < 0 ∨ cl27.slots.size ≤ ((8 : Int32)).toNatClampNeg) := inb_of Sz27 ⟨by decide, by decide⟩
  obtain ⟨T28, h28, X28, e28, W28, st28⟩ := stI X25 hx hZ e25 Ar27 (j := (8 : Int32)) hin27 (g := (mkF m 50 #[.val (.int p0), .val (.int p1), .unset, .unset, .unset, .unset, .unset, .unset] [(.int (55296 : Int32)), (.int (8 : Int32)), (.ref b1), (.ref b1)])) rfl rfl (hb hby at_50)
  have V28 : Arv Z h28 b1 k1 .int (20 : Int32) [(.int (0 : Int32)), (.int (9 : Int32)), (.int (10 : Int32)), (.int (13 : Int32)), (.int (31 : Int32)), (.int (32 : Int32)), (.int (127 : Int32)), (.int (55295 : Int32)), (.int (55296 : Int32)), (.int (0 : Int32)), (.int (0 : Int32)), (.int (0 : Int32)), (.int (0 : Int32)), (.int (0 : Int32)), (.int (0 : Int32)), (.int (0 : Int32)), (.int (0 : Int32)), (.int (0 : Int32)), (.int (0 : Int32)), (.int (0 : Int32))] (.int (0 : Int32)) := Arv.set Ar27 qk27 Sz27 Nn27 Hs27 Gf27 rfl W28 8 rfl (Nat.le_of_ble_eq_true rfl)
  obtain ⟨_, X28, N28⟩ := own_hide X28 (Fr.snoc X28 N25 g_b1)
  refine own_st st28 ?_
  show own_Go _ _ _ _ T28 (mkF m 51 #[.val (.int p0), .val (.int p1), .unset, .unset, .unset, .unset, .unset, .unset] [(.ref b1)])
  refine own_st (fun t k => XS.dup X28.here hx rfl (hb hby at_51) rfl rfl k) ?_
  show own_Go _ _ _ _ T28 (mkF m 52 #[.val (.int p0), .val (.int p1), .unset, .unset, .unset, .unset, .unset, .unset] [(.ref b1), (.ref b1)])
  refine own_st (fun t k => XS.bipush X28.here hx rfl (hb hby at_52) k) ?_
  show own_Go _ _ _ _ T28 (mkF m 54 #[.val (.int p0), .val (.int p1), .unset, .unset, .unset, .unset, .unset, .unset] [(.int (9 : Int32)), (.ref b1), (.ref b1)])
  refine own_st (X28.ldcInt hx hown (mvT hZ (hw _ (List.mem_of_getElem? (i := 3) rfl))) (g := (mkF m 54 #[.val (.int p0), .val (.int p1), .unset, .unset, .unset, .unset, .unset, .unset] [(.int (9 : Int32)), (.ref b1), (.ref b1)])) rfl (hb hby at_54)) ?_
  show own_Go _ _ _ _ T28 (mkF m 56 #[.val (.int p0), .val (.int p1), .unset, .unset, .unset, .unset, .unset, .unset] [(.int (57343 : Int32)), (.int (9 : Int32)), (.ref b1), (.ref b1)])
  have K0_29 := (K0_26.wr W28 (Or.inr sz_b1))
  obtain ⟨cl30, Ar30, qk30, Sz30, Nn30, Hs30, Gf30⟩ := id V28
  have hin30 : ¬ ((9 : Int32) < 0 ∨ cl30.slots.size ≤ ((9 : Int32)).toNatClampNeg) := inb_of Sz30 ⟨by decide, by decide⟩
  obtain ⟨T31, h31, X31, e31, W31, st31⟩ := stI X28 hx hZ e28 Ar30 (j := (9 : Int32)) hin30 (g := (mkF m 56 #[.val (.int p0), .val (.int p1), .unset, .unset, .unset, .unset, .unset, .unset] [(.int (57343 : Int32)), (.int (9 : Int32)), (.ref b1), (.ref b1)])) rfl rfl (hb hby at_56)
  have V31 : Arv Z h31 b1 k1 .int (20 : Int32) [(.int (0 : Int32)), (.int (9 : Int32)), (.int (10 : Int32)), (.int (13 : Int32)), (.int (31 : Int32)), (.int (32 : Int32)), (.int (127 : Int32)), (.int (55295 : Int32)), (.int (55296 : Int32)), (.int (57343 : Int32)), (.int (0 : Int32)), (.int (0 : Int32)), (.int (0 : Int32)), (.int (0 : Int32)), (.int (0 : Int32)), (.int (0 : Int32)), (.int (0 : Int32)), (.int (0 : Int32)), (.int (0 : Int32)), (.int (0 : Int32))] (.int (0 : Int32)) := Arv.set Ar30 qk30 Sz30 Nn30 Hs30 Gf30 rfl W31 9 rfl (Nat.le_of_ble_eq_true rfl)
  obtain ⟨_, X31, N31⟩ := own_hide X31 (Fr.snoc X31 N28 g_b1)
  refine own_st st31 ?_
  show own_Go _ _ _ _ T31 (mkF m 57 #[.val (.int p0), .val (.int p1), .unset, .unset, .unset, .unset, .unset, .unset] [(.ref b1)])
  refine own_st (fun t k => XS.dup X31.here hx rfl (hb hby at_57) rfl rfl k) ?_
  show own_Go _ _ _ _ T31 (mkF m 58 #[.val (.int p0), .val (.int p1), .unset, .unset, .unset, .unset, .unset, .unset] [(.ref b1), (.ref b1)])
  refine own_st (fun t k => XS.bipush X31.here hx rfl (hb hby at_58) k) ?_
  show own_Go _ _ _ _ T31 (mkF m 60 #[.val (.int p0), .val (.int p1), .unset, .unset, .unset, .unset, .unset, .unset] [(.int (10 : Int32)), (.ref b1), (.ref b1)])
  refine own_st (X31.ldcInt hx hown (mvT hZ (hw _ (List.mem_of_getElem? (i := 4) rfl))) (g := (mkF m 60 #[.val (.int p0), .val (.int p1), .unset, .unset, .unset, .unset, .unset, .unset] [(.int (10 : Int32)), (.ref b1), (.ref b1)])) rfl (hb hby at_60)) ?_
  show own_Go _ _ _ _ T31 (mkF m 62 #[.val (.int p0), .val (.int p1), .unset, .unset, .unset, .unset, .unset, .unset] [(.int (57344 : Int32)), (.int (10 : Int32)), (.ref b1), (.ref b1)])
  have K0_32 := (K0_29.wr W31 (Or.inr sz_b1))
  obtain ⟨cl33, Ar33, qk33, Sz33, Nn33, Hs33, Gf33⟩ := id V31
  have hin33 : ¬ ((10 : Int32) < 0 ∨ cl33.slots.size ≤ ((10 : Int32)).toNatClampNeg) := inb_of Sz33 ⟨by decide, by decide⟩
  obtain ⟨T34, h34, X34, e34, W34, st34⟩ := stI X31 hx hZ e31 Ar33 (j := (10 : Int32)) hin33 (g := (mkF m 62 #[.val (.int p0), .val (.int p1), .unset, .unset, .unset, .unset, .unset, .unset] [(.int (57344 : Int32)), (.int (10 : Int32)), (.ref b1), (.ref b1)])) rfl rfl (hb hby at_62)
  have V34 : Arv Z h34 b1 k1 .int (20 : Int32) [(.int (0 : Int32)), (.int (9 : Int32)), (.int (10 : Int32)), (.int (13 : Int32)), (.int (31 : Int32)), (.int (32 : Int32)), (.int (127 : Int32)), (.int (55295 : Int32)), (.int (55296 : Int32)), (.int (57343 : Int32)), (.int (57344 : Int32)), (.int (0 : Int32)), (.int (0 : Int32)), (.int (0 : Int32)), (.int (0 : Int32)), (.int (0 : Int32)), (.int (0 : Int32)), (.int (0 : Int32)), (.int (0 : Int32)), (.int (0 : Int32))] (.int (0 : Int32)) := Arv.set Ar33 qk33 Sz33 Nn33 Hs33 Gf33 rfl W34 10 rfl (Nat.le_of_ble_eq_true rfl)
  obtain ⟨_, X34, N34⟩ := own_hide X34 (Fr.snoc X34 N31 g_b1)
  refine own_st st34 ?_
  show own_Go _ _ _ _ T34 (mkF m 63 #[.val (.int p0), .val (.int p1), .unset, .unset, .unset, .unset, .unset, .unset] [(.ref b1)])
  refine own_st (fun t k => XS.dup X34.here hx rfl (hb hby at_63) rfl rfl k) ?_
  show own_Go _ _ _ _ T34 (mkF m 64 #[.val (.int p0), .val (.int p1), .unset, .unset, .unset, .unset, .unset, .unset] [(.ref b1), (.ref b1)])
  refine own_st (fun t k => XS.bipush X34.here hx rfl (hb hby at_64) k) ?_
  show own_Go _ _ _ _ T34 (mkF m 66 #[.val (.int p0), .val (.int p1), .unset, .unset, .unset, .unset, .unset, .unset] [(.int (11 : Int32)), (.ref b1), (.ref b1)])
  refine own_st (X34.ldcInt hx hown (mvT hZ (hw _ (List.mem_of_getElem? (i := 5) rfl))) (g := (mkF m 66 #[.val (.int p0), .val (.int p1), .unset, .unset, .unset, .unset, .unset, .unset] [(.int (11 : Int32)), (.ref b1), (.ref b1)])) rfl (hb hby at_66)) ?_
  show own_Go _ _ _ _ T34 (mkF m 68 #[.val (.int p0), .val (.int p1), .unset, .unset, .unset, .unset, .unset, .unset] [(.int (65533 : Int32)), (.int (11 : Int32)), (.ref b1), (.ref b1)])
  have K0_35 := (K0_32.wr W34 (Or.inr sz_b1))
  obtain ⟨cl36, Ar36, qk36, Sz36, Nn36, Hs36, Gf36⟩ := id V34
  have hin36 : ¬ ((11 : Int32) < 0 ∨ cl36.slots.size ≤ ((11 : Int32)).toNatClampNeg) := inb_of Sz36 ⟨by decide, by decide⟩
  obtain ⟨T37, h37, X37, e37, W37, st37⟩ := stI X34 hx hZ e34 Ar36 (j := (11 : Int32)) hin36 (g := (mkF m 68 #[.val (.int p0), .val (.int p1), .unset, .unset, .unset, .unset, .unset, .unset] [(.int (65533 : Int32)), (.int (11 : Int32)), (.ref b1), (.ref b1)])) rfl rfl (hb hby at_68)
  have V37 : Arv Z h37 b1 k1 .int (20 : Int32) [(.int (0 : Int32)), (.int (9 : Int32)), (.int (10 : Int32)), (.int (13 : Int32)), (.int (31 : Int32)), (.int (32 : Int32)), (.int (127 : Int32)), (.int (55295 : Int32)), (.int (55296 : Int32)), (.int (57343 : Int32)), (.int (57344 : Int32)), (.int (65533 : Int32)), (.int (0 : Int32)), (.int (0 : Int32)), (.int (0 : Int32)), (.int (0 : Int32)), (.int (0 : Int32)), (.int (0 : Int32)), (.int (0 : Int32)), (.int (0 : Int32))] (.int (0 : Int32)) := Arv.set Ar36 qk36 Sz36 Nn36 Hs36 Gf36 rfl W37 11 rfl (Nat.le_of_ble_eq_true rfl)
  obtain ⟨_, X37, N37⟩ := own_hide X37 (Fr.snoc X37 N34 g_b1)
  refine own_st st37 ?_
  show own_Go _ _ _ _ T37 (mkF m 69 #[.val (.int p0), .val (.int p1), .unset, .unset, .unset, .unset, .unset, .unset] [(.ref b1)])
  refine own_st (fun t k => XS.dup X37.here hx rfl (hb hby at_69) rfl rfl k) ?_
  show own_Go _ _ _ _ T37 (mkF m 70 #[.val (.int p0), .val (.int p1), .unset, .unset, .unset, .unset, .unset, .unset] [(.ref b1), (.ref b1)])
  refine own_st (fun t k => XS.bipush X37.here hx rfl (hb hby at_70) k) ?_
  show own_Go _ _ _ _ T37 (mkF m 72 #[.val (.int p0), .val (.int p1), .unset, .unset, .unset, .unset, .unset, .unset] [(.int (12 : Int32)), (.ref b1), (.ref b1)])
  refine own_st (X37.ldcInt hx hown (mvT hZ (hw _ (List.mem_of_getElem? (i := 6) rfl))) (g := (mkF m 72 #[.val (.int p0), .val (.int p1), .unset, .unset, .unset, .unset, .unset, .unset] [(.int (12 : Int32)), (.ref b1), (.ref b1)])) rfl (hb hby at_72)) ?_
  show own_Go _ _ _ _ T37 (mkF m 74 #[.val (.int p0), .val (.int p1), .unset, .unset, .unset, .unset, .unset, .unset] [(.int (65534 : Int32)), (.int (12 : Int32)), (.ref b1), (.ref b1)])
  have K0_38 := (K0_35.wr W37 (Or.inr sz_b1))
  obtain ⟨cl39, Ar39, qk39, Sz39, Nn39, Hs39, Gf39⟩ := id V37
  have hin39 : ¬ ((12 : Int32) < 0 ∨ cl39.slots.size ≤ ((12 : Int32)).toNatClampNeg) := inb_of Sz39 ⟨by decide, by decide⟩
  obtain ⟨T40, h40, X40, e40, W40, st40⟩ := stI X37 hx hZ e37 Ar39 (j := (12 : Int32)) hin39 (g := (mkF m 74 #[.val (.int p0), .val (.int p1), .unset, .unset, .unset, .unset, .unset, .unset] [(.int (65534 : Int32)), (.int (12 : Int32)), (.ref b1), (.ref b1)])) rfl rfl (hb hby at_74)
  have V40 : Arv Z h40 b1 k1 .int (20 : Int32) [(.int (0 : Int32)), (.int (9 : Int32)), (.int (10 : Int32)), (.int (13 : Int32)), (.int (31 : Int32)), (.int (32 : Int32)), (.int (127 : Int32)), (.int (55295 : Int32)), (.int (55296 : Int32)), (.int (57343 : Int32)), (.int (57344 : Int32)), (.int (65533 : Int32)), (.int (65534 : Int32)), (.int (0 : Int32)), (.int (0 : Int32)), (.int (0 : Int32)), (.int (0 : Int32)), (.int (0 : Int32)), (.int (0 : Int32)), (.int (0 : Int32))] (.int (0 : Int32)) := Arv.set Ar39 qk39 Sz39 Nn39 Hs39 Gf39 rfl W40 12 rfl (Nat.le_of_ble_eq_true rfl)
  obtain ⟨_, X40, N40⟩ := own_hide X40 (Fr.snoc X40 N37 g_b1)
  refine own_st st40 ?_
  show own_Go _ _ _ _ T40 (mkF m 75 #[.val (.int p0), .val (.int p1), .unset, .unset, .unset, .unset, .unset, .unset] [(.ref b1)])
  refine own_st (fun t k => XS.dup X40.here hx rfl (hb hby at_75) rfl rfl k) ?_
  show own_Go _ _ _ _ T40 (mkF m 76 #[.val (.int p0), .val (.int p1), .unset, .unset, .unset, .unset, .unset, .unset] [(.ref b1), (.ref b1)])
  refine own_st (fun t k => XS.bipush X40.here hx rfl (hb hby at_76) k) ?_
  show own_Go _ _ _ _ T40 (mkF m 78 #[.val (.int p0), .val (.int p1), .unset, .unset, .unset, .unset, .unset, .unset] [(.int (13 : Int32)), (.ref b1), (.ref b1)])
  refine own_st (X40.ldcInt hx hown (mvT hZ (hw _ (List.mem_of_getElem? (i := 7) rfl))) (g := (mkF m 78 #[.val (.int p0), .val (.int p1), .unset, .unset, .unset, .unset, .unset, .unset] [(.int (13 : Int32)), (.ref b1), (.ref b1)])) rfl (hb hby at_78)) ?_
  show own_Go _ _ _ _ T40 (mkF m 80 #[.val (.int p0), .val (.int p1), .unset, .unset, .unset, .unset, .unset, .unset] [(.int (65535 : Int32)), (.int (13 : Int32)), (.ref b1), (.ref b1)])
  have K0_41 := (K0_38.wr W40 (Or.inr sz_b1))
  obtain ⟨cl42, Ar42, qk42, Sz42, Nn42, Hs42, Gf42⟩ := id V40
  have hin42 : ¬ ((13 : Int32) < 0 ∨ cl42.slots.size ≤ ((13 : Int32)).toNatClampNeg) := inb_of Sz42 ⟨by decide, by decide⟩
  obtain ⟨T43, h43, X43, e43, W43, st43⟩ := stI X40 hx hZ e40 Ar42 (j := (13 : Int32)) hin42 (g := (mkF m 80 #[.val (.int p0), .val (.int p1), .unset, .unset, .unset, .unset, .unset, .unset] [(.int (65535 : Int32)), (.int (13 : Int32)), (.ref b1), (.ref b1)])) rfl rfl (hb hby at_80)
  have V43 : Arv Z h43 b1 k1 .int (20 : Int32) [(.int (0 : Int32)), (.int (9 : Int32)), (.int (10 : Int32)), (.int (13 : Int32)), (.int (31 : Int32)), (.int (32 : Int32)), (.int (127 : Int32)), (.int (55295 : Int32)), (.int (55296 : Int32)), (.int (57343 : Int32)), (.int (57344 : Int32)), (.int (65533 : Int32)), (.int (65534 : Int32)), (.int (65535 : Int32)), (.int (0 : Int32)), (.int (0 : Int32)), (.int (0 : Int32)), (.int (0 : Int32)), (.int (0 : Int32)), (.int (0 : Int32))] (.int (0 : Int32)) := Arv.set Ar42 qk42 Sz42 Nn42 Hs42 Gf42 rfl W43 13 rfl (Nat.le_of_ble_eq_true rfl)
  obtain ⟨_, X43, N43⟩ := own_hide X43 (Fr.snoc X43 N40 g_b1)
  refine own_st st43 ?_
  show own_Go _ _ _ _ T43 (mkF m 81 #[.val (.int p0), .val (.int p1), .unset, .unset, .unset, .unset, .unset, .unset] [(.ref b1)])
  refine own_st (fun t k => XS.dup X43.here hx rfl (hb hby at_81) rfl rfl k) ?_
  show own_Go _ _ _ _ T43 (mkF m 82 #[.val (.int p0), .val (.int p1), .unset, .unset, .unset, .unset, .unset, .unset] [(.ref b1), (.ref b1)])
  refine own_st (fun t k => XS.bipush X43.here hx rfl (hb hby at_82) k) ?_
  show own_Go _ _ _ _ T43 (mkF m 84 #[.val (.int p0), .val (.int p1), .unset, .unset, .unset, .unset, .unset, .unset] [(.int (14 : Int32)), (.ref b1), (.ref b1)])
  refine own_st (X43.ldcInt hx hown (mvT hZ (hw _ (List.mem_of_getElem? (i := 8) rfl))) (g := (mkF m 84 #[.val (.int p0), .val (.int p1), .unset, .unset, .unset, .unset, .unset, .unset] [(.int (14 : Int32)), (.ref b1), (.ref b1)])) rfl (hb hby at_84)) ?_
  show own_Go _ _ _ _ T43 (mkF m 86 #[.val (.int p0), .val (.int p1), .unset, .unset, .unset, .unset, .unset, .unset] [(.int (65536 : Int32)), (.int (14 : Int32)), (.ref b1), (.ref b1)])
  have K0_44 := (K0_41.wr W43 (Or.inr sz_b1))
  obtain ⟨cl45, Ar45, qk45, Sz45, Nn45, Hs45, Gf45⟩ := id V43
  have hin45 : ¬ ((14 : Int32) < 0 ∨ cl45.slots.size ≤ ((14 : Int32)).toNatClampNeg) := inb_of Sz45 ⟨by decide, by decide⟩
  obtain ⟨T46, h46, X46, e46, W46, st46⟩ := stI X43 hx hZ e43 Ar45 (j := (14 : Int32)) hin45 (g := (mkF m 86 #[.val (.int p0), .val (.int p1), .unset, .unset, .unset, .unset, .unset, .unset] [(.int (65536 : Int32)), (.int (14 : Int32)), (.ref b1), (.ref b1)])) rfl rfl (hb hby at_86)
  have V46 : Arv Z h46 b1 k1 .int (20 : Int32) [(.int (0 : Int32)), (.int (9 : Int32)), (.int (10 : Int32)), (.int (13 : Int32)), (.int (31 : Int32)), (.int (32 : Int32)), (.int (127 : Int32)), (.int (55295 : Int32)), (.int (55296 : Int32)), (.int (57343 : Int32)), (.int (57344 : Int32)), (.int (65533 : Int32)), (.int (65534 : Int32)), (.int (65535 : Int32)), (.int (65536 : Int32)), (.int (0 : Int32)), (.int (0 : Int32)), (.int (0 : Int32)), (.int (0 : Int32)), (.int (0 : Int32))] (.int (0 : Int32)) := Arv.set Ar45 qk45 Sz45 Nn45 Hs45 Gf45 rfl W46 14 rfl (Nat.le_of_ble_eq_true rfl)
  obtain ⟨_, X46, N46⟩ := own_hide X46 (Fr.snoc X46 N43 g_b1)
  refine own_st st46 ?_
  show own_Go _ _ _ _ T46 (mkF m 87 #[.val (.int p0), .val (.int p1), .unset, .unset, .unset, .unset, .unset, .unset] [(.ref b1)])
  refine own_st (fun t k => XS.dup X46.here hx rfl (hb hby at_87) rfl rfl k) ?_
  show own_Go _ _ _ _ T46 (mkF m 88 #[.val (.int p0), .val (.int p1), .unset, .unset, .unset, .unset, .unset, .unset] [(.ref b1), (.ref b1)])
  refine own_st (fun t k => XS.bipush X46.here hx rfl (hb hby at_88) k) ?_
  show own_Go _ _ _ _ T46 (mkF m 90 #[.val (.int p0), .val (.int p1), .unset, .unset, .unset, .unset, .unset, .unset] [(.int (15 : Int32)), (.ref b1), (.ref b1)])
  refine own_st (X46.ldcInt hx hown (mvT hZ (hw _ (List.mem_of_getElem? (i := 9) rfl))) (g := (mkF m 90 #[.val (.int p0), .val (.int p1), .unset, .unset, .unset, .unset, .unset, .unset] [(.int (15 : Int32)), (.ref b1), (.ref b1)])) rfl (hb hby at_90)) ?_
  show own_Go _ _ _ _ T46 (mkF m 92 #[.val (.int p0), .val (.int p1), .unset, .unset, .unset, .unset, .unset, .unset] [(.int (1114111 : Int32)), (.int (15 : Int32)), (.ref b1), (.ref b1)])
  have K0_47 := (K0_44.wr W46 (Or.inr sz_b1))
  obtain ⟨cl48, Ar48, qk48, Sz48, Nn48, Hs48, Gf48⟩ := id V46
  have hin48 : ¬ ((15 : Int32) < 0 ∨ cl48.slots.size ≤ ((15 : Int32)).toNatClampNeg) := inb_of Sz48 ⟨by decide, by decide⟩
  obtain ⟨T49, h49, X49, e49, W49, st49⟩ := stI X46 hx hZ e46 Ar48 (j := (15 : Int32)) hin48 (g := (mkF m 92 #[.val (.int p0), .val (.int p1), .unset, .unset, .unset, .unset, .unset, .unset] [(.int (1114111 : Int32)), (.int (15 : Int32)), (.ref b1), (.ref b1)])) rfl rfl (hb hby at_92)
  have V49 : Arv Z h49 b1 k1 .int (20 : Int32) [(.int (0 : Int32)), (.int (9 : Int32)), (.int (10 : Int32)), (.int (13 : Int32)), (.int (31 : Int32)), (.int (32 : Int32)), (.int (127 : Int32)), (.int (55295 : Int32)), (.int (55296 : Int32)), (.int (57343 : Int32)), (.int (57344 : Int32)), (.int (65533 : Int32)), (.int (65534 : Int32)), (.int (65535 : Int32)), (.int (65536 : Int32)), (.int (1114111 : Int32)), (.int (0 : Int32)), (.int (0 : Int32)), (.int (0 : Int32)), (.int (0 : Int32))] (.int (0 : Int32)) := Arv.set Ar48 qk48 Sz48 Nn48 Hs48 Gf48 rfl W49 15 rfl (Nat.le_of_ble_eq_true rfl)
  obtain ⟨_, X49, N49⟩ := own_hide X49 (Fr.snoc X49 N46 g_b1)
  refine own_st st49 ?_
  show own_Go _ _ _ _ T49 (mkF m 93 #[.val (.int p0), .val (.int p1), .unset, .unset, .unset, .unset, .unset, .unset] [(.ref b1)])
  refine own_st (fun t k => XS.dup X49.here hx rfl (hb hby at_93) rfl rfl k) ?_
  show own_Go _ _ _ _ T49 (mkF m 94 #[.val (.int p0), .val (.int p1), .unset, .unset, .unset, .unset, .unset, .unset] [(.ref b1), (.ref b1)])
  refine own_st (fun t k => XS.bipush X49.here hx rfl (hb hby at_94) k) ?_
  show own_Go _ _ _ _ T49 (mkF m 96 #[.val (.int p0), .val (.int p1), .unset, .unset, .unset, .unset, .unset, .unset] [(.int (16 : Int32)), (.ref b1), (.ref b1)])
  refine own_st (X49.ldcInt hx hown (mvT hZ (hw _ (List.mem_of_getElem? (i := 10) rfl))) (g := (mkF m 96 #[.val (.int p0), .val (.int p1), .unset, .unset, .unset, .unset, .unset, .unset] [(.int (16 : Int32)), (.ref b1), (.ref b1)])) rfl (hb hby at_96)) ?_
  show own_Go _ _ _ _ T49 (mkF m 98 #[.val (.int p0), .val (.int p1), .unset, .unset, .unset, .unset, .unset, .unset] [(.int (1114112 : Int32)), (.int (16 : Int32)), (.ref b1), (.ref b1)])
  have K0_50 := (K0_47.wr W49 (Or.inr sz_b1))
  obtain ⟨cl51, Ar51, qk51, Sz51, Nn51, Hs51, Gf51⟩ := id V49
  have hin51 : ¬ ((16 : Int32) < 0 ∨ cl51.slots.size ≤ ((16 : Int32)).toNatClampNeg) := inb_of Sz51 ⟨by decide, by decide⟩
  obtain ⟨T52, h52, X52, e52, W52, st52⟩ := stI X49 hx hZ e49 Ar51 (j := (16 : Int32)) hin51 (g := (mkF m 98 #[.val (.int p0), .val (.int p1), .unset, .unset, .unset, .unset, .unset, .unset] [(.int (1114112 : Int32)), (.int (16 : Int32)), (.ref b1), (.ref b1)])) rfl rfl (hb hby at_98)
  have V52 : Arv Z h52 b1 k1 .int (20 : Int32) [(.int (0 : Int32)), (.int (9 : Int32)), (.int (10 : Int32)), (.int (13 : Int32)), (.int (31 : Int32)), (.int (32 : Int32)), (.int (127 : Int32)), (.int (55295 : Int32)), (.int (55296 : Int32)), (.int (57343 : Int32)), (.int (57344 : Int32)), (.int (65533 : Int32)), (.int (65534 : Int32)), (.int (65535 : Int32)), (.int (65536 : Int32)), (.int (1114111 : Int32)), (.int (1114112 : Int32)), (.int (0 : Int32)), (.int (0 : Int32)), (.int (0 : Int32))] (.int (0 : Int32)) := Arv.set Ar51 qk51 Sz51 Nn51 Hs51 Gf51 rfl W52 16 rfl (Nat.le_of_ble_eq_true rfl)
  obtain ⟨_, X52, N52⟩ := own_hide X52 (Fr.snoc X52 N49 g_b1)
  refine own_st st52 ?_
  show own_Go _ _ _ _ T52 (mkF m 99 #[.val (.int p0), .val (.int p1), .unset, .unset, .unset, .unset, .unset, .unset] [(.ref b1)])
  refine own_st (fun t k => XS.dup X52.here hx rfl (hb hby at_99) rfl rfl k) ?_
  show own_Go _ _ _ _ T52 (mkF m 100 #[.val (.int p0), .val (.int p1), .unset, .unset, .unset, .unset, .unset, .unset] [(.ref b1), (.ref b1)])
  refine own_st (fun t k => XS.bipush X52.here hx rfl (hb hby at_100) k) ?_
  show own_Go _ _ _ _ T52 (mkF m 102 #[.val (.int p0), .val (.int p1), .unset, .unset, .unset, .unset, .unset, .unset] [(.int (17 : Int32)), (.ref b1), (.ref b1)])
  refine own_st (X52.ldcInt hx hown (mvT hZ (hw _ (List.mem_of_getElem? (i := 11) rfl))) (g := (mkF m 102 #[.val (.int p0), .val (.int p1), .unset, .unset, .unset, .unset, .unset, .unset] [(.int (17 : Int32)), (.ref b1), (.ref b1)])) rfl (hb hby at_102)) ?_
  show own_Go _ _ _ _ T52 (mkF m 104 #[.val (.int p0), .val (.int p1), .unset, .unset, .unset, .unset, .unset, .unset] [(.int (-2147483648 : Int32)), (.int (17 : Int32)), (.ref b1), (.ref b1)])
  have K0_53 := (K0_50.wr W52 (Or.inr sz_b1))
  obtain ⟨cl54, Ar54, qk54, Sz54, Nn54, Hs54, Gf54⟩ := id V52
  have hin54 : ¬ ((17 : Int32) < 0 ∨ cl54.slots.size ≤ ((17 : Int32)).toNatClampNeg) := inb_of Sz54 ⟨by decide, by decide⟩
  obtain ⟨T55, h55, X55, e55, W55, st55⟩ := stI X52 hx hZ e52 Ar54 (j := (17 : Int32)) hin54 (g := (mkF m 104 #[.val (.int p0), .val (.int p1), .unset, .unset, .unset, .unset, .unset, .unset] [(.int (-2147483648 : Int32)), (.int (17 : Int32)), (.ref b1), (.ref b1)])) rfl rfl (hb hby at_104)
  have V55 : Arv Z h55 b1 k1 .int (20 : Int32) [(.int (0 : Int32)), (.int (9 : Int32)), (.int (10 : Int32)), (.int (13 : Int32)), (.int (31 : Int32)), (.int (32 : Int32)), (.int (127 : Int32)), (.int (55295 : Int32)), (.int (55296 : Int32)), (.int (57343 : Int32)), (.int (57344 : Int32)), (.int (65533 : Int32)), (.int (65534 : Int32)), (.int (65535 : Int32)), (.int (65536 : Int32)), (.int (1114111 : Int32)), (.int (1114112 : Int32)), (.int (-2147483648 : Int32)), (.int (0 : Int32)), (.int (0 : Int32))] (.int (0 : Int32)) := Arv.set Ar54 qk54 Sz54 Nn54 Hs54 Gf54 rfl W55 17 rfl (Nat.le_of_ble_eq_true rfl)
  obtain ⟨_, X55, N55⟩ := own_hide X55 (Fr.snoc X55 N52 g_b1)
  refine own_st st55 ?_
  show own_Go _ _ _ _ T55 (mkF m 105 #[.val (.int p0), .val (.int p1), .unset, .unset, .unset, .unset, .unset, .unset] [(.ref b1)])
  refine own_st (fun t k => XS.dup X55.here hx rfl (hb hby at_105) rfl rfl k) ?_
  show own_Go _ _ _ _ T55 (mkF m 106 #[.val (.int p0), .val (.int p1), .unset, .unset, .unset, .unset, .unset, .unset] [(.ref b1), (.ref b1)])
  refine own_st (fun t k => XS.bipush X55.here hx rfl (hb hby at_106) k) ?_
  show own_Go _ _ _ _ T55 (mkF m 108 #[.val (.int p0), .val (.int p1), .unset, .unset, .unset, .unset, .unset, .unset] [(.int (18 : Int32)), (.ref b1), (.ref b1)])
  refine own_st (X55.ldcInt hx hown (mvT hZ (hw _ (List.mem_of_getElem? (i := 12) rfl))) (g := (mkF m 108 #[.val (.int p0), .val (.int p1), .unset, .unset, .unset, .unset, .unset, .unset] [(.int (18 : Int32)), (.ref b1), (.ref b1)])) rfl (hb hby at_108)) ?_
  show own_Go _ _ _ _ T55 (mkF m 110 #[.val (.int p0), .val (.int p1), .unset, .unset, .unset, .unset, .unset, .unset] [(.int (2147483647 : Int32)), (.int (18 : Int32)), (.ref b1), (.ref b1)])
  have K0_56 := (K0_53.wr W55 (Or.inr sz_b1))
  obtain ⟨cl57, Ar57, qk57, Sz57, Nn57, Hs57, Gf57⟩ := id V55
  have hin57 : ¬ ((18 : Int32) < 0 ∨ cl57.slots.size ≤ ((18 : Int32)).toNatClampNeg) := inb_of Sz57 ⟨by decide, by decide⟩
  obtain ⟨T58, h58, X58, e58, W58, st58⟩ := stI X55 hx hZ e55 Ar57 (j := (18 : Int32)) hin57 (g := (mkF m 110 #[.val (.int p0), .val (.int p1), .unset, .unset, .unset, .unset, .unset, .unset] [(.int (2147483647 : Int32)), (.int (18 : Int32)), (.ref b1), (.ref b1)])) rfl rfl (hb hby at_110)
  have V58 : Arv Z h58 b1 k1 .int (20 : Int32) [(.int (0 : Int32)), (.int (9 : Int32)), (.int (10 : Int32)), (.int (13 : Int32)), (.int (31 : Int32)), (.int (32 : Int32)), (.int (127 : Int32)), (.int (55295 : Int32)), (.int (55296 : Int32)), (.int (57343 : Int32)), (.int (57344 : Int32)), (.int (65533 : Int32)), (.int (65534 : Int32)), (.int (65535 : Int32)), (.int (65536 : Int32)), (.int (1114111 : Int32)), (.int (1114112 : Int32)), (.int (-2147483648 : Int32)), (.int (2147483647 : Int32)), (.int (0 : Int32))] (.int (0 : Int32)) := Arv.set Ar57 qk57 Sz57 Nn57 Hs57 Gf57 rfl W58 18 rfl (Nat.le_of_ble_eq_true rfl)
  obtain ⟨_, X58, N58⟩ := own_hide X58 (Fr.snoc X58 N55 g_b1)
  refine own_st st58 ?_
  show own_Go _ _ _ _ T58 (mkF m 111 #[.val (.int p0), .val (.int p1), .unset, .unset, .unset, .unset, .unset, .unset] [(.ref b1)])
  refine own_st (fun t k => XS.dup X58.here hx rfl (hb hby at_111) rfl rfl k) ?_
  show own_Go _ _ _ _ T58 (mkF m 112 #[.val (.int p0), .val (.int p1), .unset, .unset, .unset, .unset, .unset, .unset] [(.ref b1), (.ref b1)])
  refine own_st (fun t k => XS.bipush X58.here hx rfl (hb hby at_112) k) ?_
  show own_Go _ _ _ _ T58 (mkF m 114 #[.val (.int p0), .val (.int p1), .unset, .unset, .unset, .unset, .unset, .unset] [(.int (19 : Int32)), (.ref b1), (.ref b1)])
  refine own_st (X58.ldcInt hx hown (mvT hZ (hw _ (List.mem_of_getElem? (i := 13) rfl))) (g := (mkF m 114 #[.val (.int p0), .val (.int p1), .unset, .unset, .unset, .unset, .unset, .unset] [(.int (19 : Int32)), (.ref b1), (.ref b1)])) rfl (hb hby at_114)) ?_
  show own_Go _ _ _ _ T58 (mkF m 116 #[.val (.int p0), .val (.int p1), .unset, .unset, .unset, .unset, .unset, .unset] [(.int (2147483646 : Int32)), (.int (19 : Int32)), (.ref b1), (.ref b1)])
  have K0_59 := (K0_56.wr W58 (Or.inr sz_b1))
  obtain ⟨cl60, Ar60, qk60, Sz60, Nn60, Hs60, Gf60⟩ := id V58
  have hin60 : ¬ ((19 : Int32) < 0 ∨ cl60.slots.size ≤ ((19 : Int32)).toNatClampNeg) := inb_of Sz60 ⟨by decide, by decide⟩
  obtain ⟨T61, h61, X61, e61, W61, st61⟩ := stI X58 hx hZ e58 Ar60 (j := (19 : Int32)) hin60 (g := (mkF m 116 #[.val (.int p0), .val (.int p1), .unset, .unset, .unset, .unset, .unset, .unset] [(.int (2147483646 : Int32)), (.int (19 : Int32)), (.ref b1), (.ref b1)])) rfl rfl (hb hby at_116)
  have V61 : Arv Z h61 b1 k1 .int (20 : Int32) [(.int (0 : Int32)), (.int (9 : Int32)), (.int (10 : Int32)), (.int (13 : Int32)), (.int (31 : Int32)), (.int (32 : Int32)), (.int (127 : Int32)), (.int (55295 : Int32)), (.int (55296 : Int32)), (.int (57343 : Int32)), (.int (57344 : Int32)), (.int (65533 : Int32)), (.int (65534 : Int32)), (.int (65535 : Int32)), (.int (65536 : Int32)), (.int (1114111 : Int32)), (.int (1114112 : Int32)), (.int (-2147483648 : Int32)), (.int (2147483647 : Int32)), (.int (2147483646 : Int32))] (.int (0 : Int32)) := Arv.set Ar60 qk60 Sz60 Nn60 Hs60 Gf60 rfl W61 19 rfl (Nat.le_of_ble_eq_true rfl)
  obtain ⟨_, X61, N61⟩ := own_hide X61 (Fr.snoc X61 N58 g_b1)
  refine own_st st61 ?_
  show own_Go _ _ _ _ T61 (mkF m 117 #[.val (.int p0), .val (.int p1), .unset, .unset, .unset, .unset, .unset, .unset] [(.ref b1)])
  refine own_st (fun t k => XS.astoreN X61.here hx rfl (hb hby at_117) rfl rfl (l' := #[.val (.int p0), .val (.int p1), .val (.ref b1), .unset, .unset, .unset, .unset, .unset]) rfl k) ?_
  show own_Go _ _ _ _ T61 (mkF m 118 #[.val (.int p0), .val (.int p1), .val (.ref b1), .unset, .unset, .unset, .unset, .unset] [])
  refine own_st (fun t k => XS.iloadN X61.here hx rfl (hb hby at_118) rfl k) ?_
  show own_Go _ _ _ _ T61 (mkF m 119 #[.val (.int p0), .val (.int p1), .val (.ref b1), .unset, .unset, .unset, .unset, .unset] [(.int p1)])
  refine own_st (X61.ldcInt hx hown (mvT hZ (hw _ (List.mem_of_getElem? (i := 12) rfl))) (g := (mkF m 119 #[.val (.int p0), .val (.int p1), .val (.ref b1), .unset, .unset, .unset, .unset, .unset] [(.int p1)])) rfl (hb hby at_119)) ?_
  show own_Go _ _ _ _ T61 (mkF m 121 #[.val (.int p0), .val (.int p1), .val (.ref b1), .unset, .unset, .unset, .unset, .unset] [(.int (2147483647 : Int32)), (.int p1)])
  refine own_st (fun t k => XS.iand X61.here hx rfl (hb hby at_121) rfl k) ?_
  show own_Go _ _ _ _ T61 (mkF m 122 #[.val (.int p0), .val (.int p1), .val (.ref b1), .unset, .unset, .unset, .unset, .unset] [(.int (p1 &&& (2147483647 : Int32)))])
  refine own_st (fun t k => XS.aloadN X61.here hx rfl (hb hby at_122) rfl rfl k) ?_
  show own_Go _ _ _ _ T61 (mkF m 123 #[.val (.int p0), .val (.int p1), .val (.ref b1), .unset, .unset, .unset, .unset, .unset] [(.ref b1), (.int (p1 &&& (2147483647 : Int32)))])
  obtain ⟨cl62, Ar62, qk62, Sz62, Nn62, Hs62, Gf62⟩ := id V61
  refine own_st (X61.arraylength hx (by rw [e61]; exact Ar62.1) (State.isArrayOf_alike hZ.alike Ar62.2.1) (g := (mkF m 123 #[.val (.int p0), .val (.int p1), .val (.ref b1), .unset, .unset, .unset, .unset, .unset] [(.ref b1), (.int (p1 &&& (2147483647 : Int32)))])) rfl rfl (hb hby at_123)) ?_
  rw [len_of Sz62 Nn62]
  show own_Go _ _ _ _ T61 (mkF m 124 #[.val (.int p0), .val (.int p1), .val (.ref b1), .unset, .unset, .unset, .unset, .unset] [(.int (20 : Int32)), (.int (p1 &&& (2147483647 : Int32)))])
  refine own_st (fun t k => iremM X61 hx rfl (hb hby at_124) rfl (by decide) k) ?_
  show own_Go _ _ _ _ T61 (mkF m 125 #[.val (.int p0), .val (.int p1), .val (.ref b1), .unset, .unset, .unset, .unset, .unset] [(.int ((p1 &&& (2147483647 : Int32)) % (20 : Int32)))])
  refine own_st (fun t k => XS.istoreN X61.here hx rfl (hb hby at_125) rfl (l' := #[.val (.int p0), .val (.int p1), .val (.ref b1), .val (.int ((p1 &&& (2147483647 : Int32)) % (20 : Int32))), .unset, .unset, .unset, .unset]) rfl k) ?_
  show own_Go _ _ _ _ T61 (mkF m 126 #[.val (.int p0), .val (.int p1), .val (.ref b1), .val (.int ((p1 &&& (2147483647 : Int32)) % (20 : Int32))), .unset, .unset, .unset, .unset] [])
  refine own_st (fun t k => XS.iloadN X61.here hx rfl (hb hby at_126) rfl k) ?_
  show own_Go _ _ _ _ T61 (mkF m 127 #[.val (.int p0), .val (.int p1), .val (.ref b1), .val (.int ((p1 &&& (2147483647 : Int32)) % (20 : Int32))), .unset, .unset, .unset, .unset] [(.int p1)])
  refine own_st (fun t k => XS.bipush X61.here hx rfl (hb hby at_127) k) ?_
  show own_Go _ _ _ _ T61 (mkF m 129 #[.val (.int p0), .val (.int p1), .val (.ref b1), .val (.int ((p1 &&& (2147483647 : Int32)) % (20 : Int32))), .unset, .unset, .unset, .unset] [(.int (28 : Int32)), (.int p1)])
  refine own_st (fun t k => XS.iushr X61.here hx rfl (hb hby at_129) rfl k) ?_
  show own_Go _ _ _ _ T61 (mkF m 130 #[.val (.int p0), .val (.int p1), .val (.ref b1), .val (.int ((p1 &&& (2147483647 : Int32)) % (20 : Int32))), .unset, .unset, .unset, .unset] [(.int ((p1.toUInt32 >>> ((28 : Int32) &&& 31).toUInt32).toInt32))])
  refine own_st (fun t k => XS.iconst X61.here hx rfl (hb hby at_130) k) ?_
  show own_Go _ _ _ _ T61 (mkF m 131 #[.val (.int p0), .val (.int p1), .val (.ref b1), .val (.int ((p1 &&& (2147483647 : Int32)) % (20 : Int32))), .unset, .unset, .unset, .unset] [(.int (3 : Int32)), (.int ((p1.toUInt32 >>> ((28 : Int32) &&& 31).toUInt32).toInt32))])
  refine own_st (fun t k => XS.iand X61.here hx rfl (hb hby at_131) rfl k) ?_
  show own_Go _ _ _ _ T61 (mkF m 132 #[.val (.int p0), .val (.int p1), .val (.ref b1), .val (.int ((p1 &&& (2147483647 : Int32)) % (20 : Int32))), .unset, .unset, .unset, .unset] [(.int (((p1.toUInt32 >>> ((28 : Int32) &&& 31).toUInt32).toInt32) &&& (3 : Int32)))])
  refine own_st (fun t k => XS.iconst X61.here hx rfl (hb hby at_132) k) ?_
  show own_Go _ _ _ _ T61 (mkF m 133 #[.val (.int p0), .val (.int p1), .val (.ref b1), .val (.int ((p1 &&& (2147483647 : Int32)) % (20 : Int32))), .unset, .unset, .unset, .unset] [(.int (1 : Int32)), (.int (((p1.toUInt32 >>> ((28 : Int32) &&& 31).toUInt32).toInt32) &&& (3 : Int32)))])
  refine own_st (fun t k => XS.isub X61.here hx rfl (hb hby at_133) rfl k) ?_
  show own_Go _ _ _ _ T61 (mkF m 134 #[.val (.int p0), .val (.int p1), .val (.ref b1), .val (.int ((p1 &&& (2147483647 : Int32)) % (20 : Int32))), .unset, .unset, .unset, .unset] [(.int ((((p1.toUInt32 >>> ((28 : Int32) &&& 31).toUInt32).toInt32) &&& (3 : Int32)) - (1 : Int32)))])
  refine own_st (fun t k => XS.istore X61.here hx rfl (hb hby at_134) rfl (l' := #[.val (.int p0), .val (.int p1), .val (.ref b1), .val (.int ((p1 &&& (2147483647 : Int32)) % (20 : Int32))), .val (.int ((((p1.toUInt32 >>> ((28 : Int32) &&& 31).toUInt32).toInt32) &&& (3 : Int32)) - (1 : Int32))), .unset, .unset, .unset]) rfl k) ?_
  show own_Go _ _ _ _ T61 (mkF m 136 #[.val (.int p0), .val (.int p1), .val (.ref b1), .val (.int ((p1 &&& (2147483647 : Int32)) % (20 : Int32))), .val (.int ((((p1.toUInt32 >>> ((28 : Int32) &&& 31).toUInt32).toInt32) &&& (3 : Int32)) - (1 : Int32))), .unset, .unset, .unset] [])
  refine own_st (fun t k => XS.aloadN X61.here hx rfl (hb hby at_136) rfl rfl k) ?_
  show own_Go _ _ _ _ T61 (mkF m 137 #[.val (.int p0), .val (.int p1), .val (.ref b1), .val (.int ((p1 &&& (2147483647 : Int32)) % (20 : Int32))), .val (.int ((((p1.toUInt32 >>> ((28 : Int32) &&& 31).toUInt32).toInt32) &&& (3 : Int32)) - (1 : Int32))), .unset, .unset, .unset] [(.ref b1)])
  refine own_st (fun t k => XS.iloadN X61.here hx rfl (hb hby at_137) rfl k) ?_
  show own_Go _ _ _ _ T61 (mkF m 138 #[.val (.int p0), .val (.int p1), .val (.ref b1), .val (.int ((p1 &&& (2147483647 : Int32)) % (20 : Int32))), .val (.int ((((p1.toUInt32 >>> ((28 : Int32) &&& 31).toUInt32).toInt32) &&& (3 : Int32)) - (1 : Int32))), .unset, .unset, .unset] [(.int ((p1 &&& (2147483647 : Int32)) % (20 : Int32))), (.ref b1)])
  obtain ⟨cl63, Ar63, qk63, Sz63, Nn63, Hs63, Gf63⟩ := id V61
  have hin63 : ¬ (((p1 &&& (2147483647 : Int32)) % (20 : Int32)) < 0 ∨ cl63.slots.size ≤ (((p1 &&& (2147483647 : Int32)) % (20 : Int32))).toNatClampNeg) := inb_of Sz63 (own_idx _)
  obtain ⟨w63, hw63, hat63⟩ : ∃ w : Int32, w = [(0 : Int32), (9 : Int32), (10 : Int32), (13 : Int32), (31 : Int32), (32 : Int32), (127 : Int32), (55295 : Int32), (55296 : Int32), (57343 : Int32), (57344 : Int32), (65533 : Int32), (65534 : Int32), (65535 : Int32), (65536 : Int32), (1114111 : Int32), (1114112 : Int32), (-2147483648 : Int32), (2147483647 : Int32), (2147483646 : Int32)].getD (((p1 &&& (2147483647 : Int32)) % (20 : Int32))).toNatClampNeg (0 : Int32) ∧ cl63.slots[(((p1 &&& (2147483647 : Int32)) % (20 : Int32))).toNatClampNeg]? = some (.int w) := ⟨_, rfl, Has.at Hs63 hin63 (own_getD_int [(0 : Int32), (9 : Int32), (10 : Int32), (13 : Int32), (31 : Int32), (32 : Int32), (127 : Int32), (55295 : Int32), (55296 : Int32), (57343 : Int32), (57344 : Int32), (65533 : Int32), (65534 : Int32), (65535 : Int32), (65536 : Int32), (1114111 : Int32), (1114112 : Int32), (-2147483648 : Int32), (2147483647 : Int32), (2147483646 : Int32)] _)⟩
  refine own_st (X61.iaload hx (j := ((p1 &&& (2147483647 : Int32)) % (20 : Int32))) (v := (.int w63)) (by rw [e61]; exact Ar63.1) (State.isArrayOf_alike hZ.alike Ar63.2.1) Ar63.2.2 hin63 hat63 (g := (mkF m 138 #[.val (.int p0), .val (.int p1), .val (.ref b1), .val (.int ((p1 &&& (2147483647 : Int32)) % (20 : Int32))), .val (.int ((((p1.toUInt32 >>> ((28 : Int32) &&& 31).toUInt32).toInt32) &&& (3 : Int32)) - (1 : Int32))), .unset, .unset, .unset] [(.int ((p1 &&& (2147483647 : Int32)) % (20 : Int32))), (.ref b1)])) rfl rfl (hb hby at_138)) ?_
  show own_Go _ _ _ _ T61 (mkF m 139 #[.val (.int p0), .val (.int p1), .val (.ref b1), .val (.int ((p1 &&& (2147483647 : Int32)) % (20 : Int32))), .val (.int ((((p1.toUInt32 >>> ((28 : Int32) &&& 31).toUInt32).toInt32) &&& (3 : Int32)) - (1 : Int32))), .unset, .unset, .unset] [(.int w63)])
  refine own_st (fun t k => XS.iload X61.here hx rfl (hb hby at_139) rfl k) ?_
  show own_Go _ _ _ _ T61 (mkF m 141 #[.val (.int p0), .val (.int p1), .val (.ref b1), .val (.int ((p1 &&& (2147483647 : Int32)) % (20 : Int32))), .val (.int ((((p1.toUInt32 >>> ((28 : Int32) &&& 31).toUInt32).toInt32) &&& (3 : Int32)) - (1 : Int32))), .unset, .unset, .unset] [(.int ((((p1.toUInt32 >>> ((28 : Int32) &&& 31).toUInt32).toInt32) &&& (3 : Int32)) - (1 : Int32))), (.int w63)])
  refine own_st (fun t k => XS.iadd X61.here hx rfl (hb hby at_141) rfl k) ?_
  show own_Go _ _ _ _ T61 (mkF m 142 #[.val (.int p0), .val (.int p1), .val (.ref b1), .val (.int ((p1 &&& (2147483647 : Int32)) % (20 : Int32))), .val (.int ((((p1.toUInt32 >>> ((28 : Int32) &&& 31).toUInt32).toInt32) &&& (3 : Int32)) - (1 : Int32))), .unset, .unset, .unset] [(.int (w63 + ((((p1.toUInt32 >>> ((28 : Int32) &&& 31).toUInt32).toInt32) &&& (3 : Int32)) - (1 : Int32))))])
  refine own_st (fun t k => XS.istore X61.here hx rfl (hb hby at_142) rfl (l' := #[.val (.int p0), .val (.int p1), .val (.ref b1), .val (.int ((p1 &&& (2147483647 : Int32)) % (20 : Int32))), .val (.int ((((p1.toUInt32 >>> ((28 : Int32) &&& 31).toUInt32).toInt32) &&& (3 : Int32)) - (1 : Int32))), .val (.int (w63 + ((((p1.toUInt32 >>> ((28 : Int32) &&& 31).toUInt32).toInt32) &&& (3 : Int32)) - (1 : Int32)))), .unset, .unset]) rfl k) ?_
  show own_Go _ _ _ _ T61 (mkF m 144 #[.val (.int p0), .val (.int p1), .val (.ref b1), .val (.int ((p1 &&& (2147483647 : Int32)) % (20 : Int32))), .val (.int ((((p1.toUInt32 >>> ((28 : Int32) &&& 31).toUInt32).toInt32) &&& (3 : Int32)) - (1 : Int32))), .val (.int (w63 + ((((p1.toUInt32 >>> ((28 : Int32) &&& 31).toUInt32).toInt32) &&& (3 : Int32)) - (1 : Int32)))), .unset, .unset] [])
  refine own_st (fun t k => XS.iloadN X61.here hx rfl (hb hby at_144) rfl k) ?_
  show own_Go _ _ _ _ T61 (mkF m 145 #[.val (.int p0), .val (.int p1), .val (.ref b1), .val (.int ((p1 &&& (2147483647 : Int32)) % (20 : Int32))), .val (.int ((((p1.toUInt32 >>> ((28 : Int32) &&& 31).toUInt32).toInt32) &&& (3 : Int32)) - (1 : Int32))), .val (.int (w63 + ((((p1.toUInt32 >>> ((28 : Int32) &&& 31).toUInt32).toInt32) &&& (3 : Int32)) - (1 : Int32)))), .unset, .unset] [(.int p0)])
  have K0_65 := (K0_59.wr W61 (Or.inr sz_b1))
  obtain ⟨_, _, ⟨T64, L64, k64, n64⟩, -, X64, ⟨Lc64, hQ64, l64, y64, z64⟩, st64⟩ := Jvm.LawKit.callS X61 hx (y := (⟨"shelfmark/Markup", "isXmlCharacter", "(I)Z"⟩ : MethodName)) hown (mvT hZ (hw _ (List.mem_of_getElem? (i := 14) rfl))) (mvT hZ (hw _ (List.mem_of_getElem? (i := 15) rfl))) (mvT hZ (hw _ (List.mem_of_getElem? (i := 16) rfl))) (mvT hZ (hw _ (List.mem_of_getElem? (i := 17) rfl))) (by decide) (backOf (W := 0) (rm1 l Z a0 hw [] p0  h61 n0 (Nat.le_trans Z0 K0_65.1) ) hZ (hw _ (List.mem_of_getElem? (i := 17) rfl)) (hw _ (List.mem_of_getElem? (i := 16) rfl)) (by decide) (by decide)) (g := (mkF m 145 #[.val (.int p0), .val (.int p1), .val (.ref b1), .val (.int ((p1 &&& (2147483647 : Int32)) % (20 : Int32))), .val (.int ((((p1.toUInt32 >>> ((28 : Int32) &&& 31).toUInt32).toInt32) &&& (3 : Int32)) - (1 : Int32))), .val (.int (w63 + ((((p1.toUInt32 >>> ((28 : Int32) &&& 31).toUInt32).toInt32) &&& (3 : Int32)) - (1 : Int32)))), .unset, .unset] [(.int p0)])) rfl (by rw [hml]; rfl) (argsL := [(.int p0)]) (rest := []) (lenOf pd__28I_29Z rfl) rfl (by show 2 * 0 + _ ≤ _; exact Nat.le_of_eq rfl) (hb hby at_145) (fun _ _ => ⟨rfl, e61, (by decide : 1 + 0 ≤ _), (by decide : 20 + 0 ≤ _)⟩)
  dsimp only [Pt.U, Pt.locs, Pt.cells, Pt.slots] at X64 l64 y64 z64 st64 hQ64
  subst l64 y64 z64
  obtain ⟨rfl, N64q, e64⟩ := hQ64
  obtain ⟨_, X64, N64⟩ := own_hide X64 (Fr.app N61 N64q)
  refine own_st st64 ?_
  show own_Go _ _ _ _ T64 (mkF m 148 #[.val (.int p0), .val (.int p1), .val (.ref b1), .val (.int ((p1 &&& (2147483647 : Int32)) % (20 : Int32))), .val (.int ((((p1.toUInt32 >>> ((28 : Int32) &&& 31).toUInt32).toInt32) &&& (3 : Int32)) - (1 : Int32))), .val (.int (w63 + ((((p1.toUInt32 >>> ((28 : Int32) &&& 31).toUInt32).toInt32) &&& (3 : Int32)) - (1 : Int32)))), .unset, .unset] [(.int (own_f1 p0))])
  refine own_st (fun t k => XS.iloadN X64.here hx rfl (hb hby at_148) rfl k) ?_
  show own_Go _ _ _ _ T64 (mkF m 149 #[.val (.int p0), .val (.int p1), .val (.ref b1), .val (.int ((p1 &&& (2147483647 : Int32)) % (20 : Int32))), .val (.int ((((p1.toUInt32 >>> ((28 : Int32) &&& 31).toUInt32).toInt32) &&& (3 : Int32)) - (1 : Int32))), .val (.int (w63 + ((((p1.toUInt32 >>> ((28 : Int32) &&& 31).toUInt32).toInt32) &&& (3 : Int32)) - (1 : Int32)))), .unset, .unset] [(.int p0), (.int (own_f1 p0))])
  obtain ⟨_, _, ⟨T66, L66, k66, n66⟩, -, X66, ⟨Lc66, hQ66, l66, y66, z66⟩, st66⟩ := Jvm.LawKit.callS X64 hx (y := (⟨"shelfmark/MarkupIsXmlCharacterPinLaw", "ref", "(I)Z"⟩ : MethodName)) hown (mvT hZ (hw _ (List.mem_of_getElem? (i := 20) rfl))) (mvT hZ (hw _ (List.mem_of_getElem? (i := 21) rfl))) (mvT hZ (hw _ (List.mem_of_getElem? (i := 22) rfl))) (mvT hZ (hw _ (List.mem_of_getElem? (i := 23) rfl))) (by decide) (backOf (W := 1) (rm2 l Z a0 hw [] p0  h61 n0 (Nat.le_trans Z0 K0_65.1) ) hZ (hw _ (List.mem_of_getElem? (i := 23) rfl)) (hw _ (List.mem_of_getElem? (i := 22) rfl)) (by decide) (by decide)) (g := (mkF m 149 #[.val (.int p0), .val (.int p1), .val (.ref b1), .val (.int ((p1 &&& (2147483647 : Int32)) % (20 : Int32))), .val (.int ((((p1.toUInt32 >>> ((28 : Int32) &&& 31).toUInt32).toInt32) &&& (3 : Int32)) - (1 : Int32))), .val (.int (w63 + ((((p1.toUInt32 >>> ((28 : Int32) &&& 31).toUInt32).toInt32) &&& (3 : Int32)) - (1 : Int32)))), .unset, .unset] [(.int p0), (.int (own_f1 p0))])) rfl (by rw [hml]; rfl) (argsL := [(.int p0)]) (rest := [(.int (own_f1 p0))]) (lenOf pd__28I_29Z rfl) rfl (by show 2 * 0 + _ ≤ _; exact Nat.le_of_eq rfl) (hb hby at_149) (fun _ _ => ⟨rfl, e64, (by decide : 1 + 0 ≤ _), (by decide : 20 + 0 ≤ _)⟩)
  dsimp only [Pt.U, Pt.locs, Pt.cells, Pt.slots] at X66 l66 y66 z66 st66 hQ66
  subst l66 y66 z66
  obtain ⟨rfl, N66q, e66⟩ := hQ66
  obtain ⟨_, X66, N66⟩ := own_hide X66 (Fr.app N64 N66q)
  refine own_st st66 ?_
  show own_Go _ _ _ _ T66 (mkF m 152 #[.val (.int p0), .val (.int p1), .val (.ref b1), .val (.int ((p1 &&& (2147483647 : Int32)) % (20 : Int32))), .val (.int ((((p1.toUInt32 >>> ((28 : Int32) &&& 31).toUInt32).toInt32) &&& (3 : Int32)) - (1 : Int32))), .val (.int (w63 + ((((p1.toUInt32 >>> ((28 : Int32) &&& 31).toUInt32).toInt32) &&& (3 : Int32)) - (1 : Int32)))), .unset, .unset] [(.int (own_f2 p0)), (.int (own_f1 p0))])
  refine own_st (fun t k => XS.icmpNo X66.here hx rfl (hb hby at_152) rfl (teq (own_eq _ : (own_f1 p0) = (own_f2 p0))).2 k) ?_
  show own_Go _ _ _ _ T66 (mkF m 155 #[.val (.int p0), .val (.int p1), .val (.ref b1), .val (.int ((p1 &&& (2147483647 : Int32)) % (20 : Int32))), .val (.int ((((p1.toUInt32 >>> ((28 : Int32) &&& 31).toUInt32).toInt32) &&& (3 : Int32)) - (1 : Int32))), .val (.int (w63 + ((((p1.toUInt32 >>> ((28 : Int32) &&& 31).toUInt32).toInt32) &&& (3 : Int32)) - (1 : Int32)))), .unset, .unset] [])
  refine own_st (fun t k => XS.iconst X66.here hx rfl (hb hby at_155) k) ?_
  show own_Go _ _ _ _ T66 (mkF m 156 #[.val (.int p0), .val (.int p1), .val (.ref b1), .val (.int ((p1 &&& (2147483647 : Int32)) % (20 : Int32))), .val (.int ((((p1.toUInt32 >>> ((28 : Int32) &&& 31).toUInt32).toInt32) &&& (3 : Int32)) - (1 : Int32))), .val (.int (w63 + ((((p1.toUInt32 >>> ((28 : Int32) &&& 31).toUInt32).toInt32) &&& (3 : Int32)) - (1 : Int32)))), .unset, .unset] [(.int (1 : Int32))])
  refine own_st (fun t k => XS.goto X66.here hx rfl (pc0 := 156) (pc' := 160) rfl (hb hby at_156) (by decide) (by decide) k) ?_
  show own_Go _ _ _ _ T66 (mkF m 160 #[.val (.int p0), .val (.int p1), .val (.ref b1), .val (.int ((p1 &&& (2147483647 : Int32)) % (20 : Int32))), .val (.int ((((p1.toUInt32 >>> ((28 : Int32) &&& 31).toUInt32).toInt32) &&& (3 : Int32)) - (1 : Int32))), .val (.int (w63 + ((((p1.toUInt32 >>> ((28 : Int32) &&& 31).toUInt32).toInt32) &&& (3 : Int32)) - (1 : Int32)))), .unset, .unset] [(.int (1 : Int32))])
  refine own_st (fun t k => XS.istore X66.here hx rfl (hb hby at_160) rfl (l' := #[.val (.int p0), .val (.int p1), .val (.ref b1), .val (.int ((p1 &&& (2147483647 : Int32)) % (20 : Int32))), .val (.int ((((p1.toUInt32 >>> ((28 : Int32) &&& 31).toUInt32).toInt32) &&& (3 : Int32)) - (1 : Int32))), .val (.int (w63 + ((((p1.toUInt32 >>> ((28 : Int32) &&& 31).toUInt32).toInt32) &&& (3 : Int32)) - (1 : Int32)))), .val (.int (1 : Int32)), .unset]) rfl k) ?_
  show own_Go _ _ _ _ T66 (mkF m 162 #[.val (.int p0), .val (.int p1), .val (.ref b1), .val (.int ((p1 &&& (2147483647 : Int32)) % (20 : Int32))), .val (.int ((((p1.toUInt32 >>> ((28 : Int32) &&& 31).toUInt32).toInt32) &&& (3 : Int32)) - (1 : Int32))), .val (.int (w63 + ((((p1.toUInt32 >>> ((28 : Int32) &&& 31).toUInt32).toInt32) &&& (3 : Int32)) - (1 : Int32)))), .val (.int (1 : Int32)), .unset] [])
  refine own_st (fun t k => XS.iload X66.here hx rfl (hb hby at_162) rfl k) ?_
  show own_Go _ _ _ _ T66 (mkF m 164 #[.val (.int p0), .val (.int p1), .val (.ref b1), .val (.int ((p1 &&& (2147483647 : Int32)) % (20 : Int32))), .val (.int ((((p1.toUInt32 >>> ((28 : Int32) &&& 31).toUInt32).toInt32) &&& (3 : Int32)) - (1 : Int32))), .val (.int (w63 + ((((p1.toUInt32 >>> ((28 : Int32) &&& 31).toUInt32).toInt32) &&& (3 : Int32)) - (1 : Int32)))), .val (.int (1 : Int32)), .unset] [(.int (w63 + ((((p1.toUInt32 >>> ((28 : Int32) &&& 31).toUInt32).toInt32) &&& (3 : Int32)) - (1 : Int32))))])
  obtain ⟨_, _, ⟨T67, L67, k67, n67⟩, -, X67, ⟨Lc67, hQ67, l67, y67, z67⟩, st67⟩ := Jvm.LawKit.callS X66 hx (y := (⟨"shelfmark/Markup", "isXmlCharacter", "(I)Z"⟩ : MethodName)) hown (mvT hZ (hw _ (List.mem_of_getElem? (i := 14) rfl))) (mvT hZ (hw _ (List.mem_of_getElem? (i := 15) rfl))) (mvT hZ (hw _ (List.mem_of_getElem? (i := 16) rfl))) (mvT hZ (hw _ (List.mem_of_getElem? (i := 17) rfl))) (by decide) (backOf (W := 0) (rm1 l Z a0 hw [] (w63 + ((((p1.toUInt32 >>> ((28 : Int32) &&& 31).toUInt32).toInt32) &&& (3 : Int32)) - (1 : Int32)))  h61 n0 (Nat.le_trans Z0 K0_65.1) ) hZ (hw _ (List.mem_of_getElem? (i := 17) rfl)) (hw _ (List.mem_of_getElem? (i := 16) rfl)) (by decide) (by decide)) (g := (mkF m 164 #[.val (.int p0), .val (.int p1), .val (.ref b1), .val (.int ((p1 &&& (2147483647 : Int32)) % (20 : Int32))), .val (.int ((((p1.toUInt32 >>> ((28 : Int32) &&& 31).toUInt32).toInt32) &&& (3 : Int32)) - (1 : Int32))), .val (.int (w63 + ((((p1.toUInt32 >>> ((28 : Int32) &&& 31).toUInt32).toInt32) &&& (3 : Int32)) - (1 : Int32)))), .val (.int (1 : Int32)), .unset] [(.int (w63 + ((((p1.toUInt32 >>> ((28 : Int32) &&& 31).toUInt32).toInt32) &&& (3 : Int32)) - (1 : Int32))))])) rfl (by rw [hml]; rfl) (argsL := [(.int (w63 + ((((p1.toUInt32 >>> ((28 : Int32) &&& 31).toUInt32).toInt32) &&& (3 : Int32)) - (1 : Int32))))]) (rest := []) (lenOf pd__28I_29Z rfl) rfl (by show 2 * 0 + _ ≤ _; exact Nat.le_of_eq rfl) (hb hby at_164) (fun _ _ => ⟨rfl, e66, (by decide : 1 + 0 ≤ _), (by decide : 20 + 0 ≤ _)⟩)
  dsimp only [Pt.U, Pt.locs, Pt.cells, Pt.slots] at X67 l67 y67 z67 st67 hQ67
  subst l67 y67 z67
  obtain ⟨rfl, N67q, e67⟩ := hQ67
  obtain ⟨_, X67, N67⟩ := own_hide X67 (Fr.app N66 N67q)
  refine own_st st67 ?_
  show own_Go _ _ _ _ T67 (mkF m 167 #[.val (.int p0), .val (.int p1), .val (.ref b1), .val (.int ((p1 &&& (2147483647 : Int32)) % (20 : Int32))), .val (.int ((((p1.toUInt32 >>> ((28 : Int32) &&& 31).toUInt32).toInt32) &&& (3 : Int32)) - (1 : Int32))), .val (.int (w63 + ((((p1.toUInt32 >>> ((28 : Int32) &&& 31).toUInt32).toInt32) &&& (3 : Int32)) - (1 : Int32)))), .val (.int (1 : Int32)), .unset] [(.int (own_f1 (w63 + ((((p1.toUInt32 >>> ((28 : Int32) &&& 31).toUInt32).toInt32) &&& (3 : Int32)) - (1 : Int32)))))])
  refine own_st (fun t k => XS.iload X67.here hx rfl (hb hby at_167) rfl k) ?_
  show own_Go _ _ _ _ T67 (mkF m 169 #[.val (.int p0), .val (.int p1), .val (.ref b1), .val (.int ((p1 &&& (2147483647 : Int32)) % (20 : Int32))), .val (.int ((((p1.toUInt32 >>> ((28 : Int32) &&& 31).toUInt32).toInt32) &&& (3 : Int32)) - (1 : Int32))), .val (.int (w63 + ((((p1.toUInt32 >>> ((28 : Int32) &&& 31).toUInt32).toInt32) &&& (3 : Int32)) - (1 : Int32)))), .val (.int (1 : Int32)), .unset] [(.int (w63 + ((((p1.toUInt32 >>> ((28 : Int32) &&& 31).toUInt32).toInt32) &&& (3 : Int32)) - (1 : Int32)))), (.int (own_f1 (w63 + ((((p1.toUInt32 >>> ((28 : Int32) &&& 31).toUInt32).toInt32) &&& (3 : Int32)) - (1 : Int32)))))])
  obtain ⟨_, _, ⟨T68, L68, k68, n68⟩, -, X68, ⟨Lc68, hQ68, l68, y68, z68⟩, st68⟩ := Jvm.LawKit.callS X67 hx (y := (⟨"shelfmark/MarkupIsXmlCharacterPinLaw", "ref", "(I)Z"⟩ : MethodName)) hown (mvT hZ (hw _ (List.mem_of_getElem? (i := 20) rfl))) (mvT hZ (hw _ (List.mem_of_getElem? (i := 21) rfl))) (mvT hZ (hw _ (List.mem_of_getElem? (i := 22) rfl))) (mvT hZ (hw _ (List.mem_of_getElem? (i := 23) rfl))) (by decide) (backOf (W := 1) (rm2 l Z a0 hw [] (w63 + ((((p1.toUInt32 >>> ((28 : Int32) &&& 31).toUInt32).toInt32) &&& (3 : Int32)) - (1 : Int32)))  h61 n0 (Nat.le_trans Z0 K0_65.1) ) hZ (hw _ (List.mem_of_getElem? (i := 23) rfl)) (hw _ (List.mem_of_getElem? (i := 22) rfl)) (by decide) (by decide)) (g := (mkF m 169 #[.val (.int p0), .val (.int p1), .val (.ref b1), .val (.int ((p1 &&& (2147483647 : Int32)) % (20 : Int32))), .val (.int ((((p1.toUInt32 >>> ((28 : Int32) &&& 31).toUInt32).toInt32) &&& (3 : Int32)) - (1 : Int32))), .val (.int (w63 + ((((p1.toUInt32 >>> ((28 : Int32) &&& 31).toUInt32).toInt32) &&& (3 : Int32)) - (1 : Int32)))), .val (.int (1 : Int32)), .unset] [(.int (w63 + ((((p1.toUInt32 >>> ((28 : Int32) &&& 31).toUInt32).toInt32) &&& (3 : Int32)) - (1 : Int32)))), (.int (own_f1 (w63 + ((((p1.toUInt32 >>> ((28 : Int32) &&& 31).toUInt32).toInt32) &&& (3 : Int32)) - (1 : Int32)))))])) rfl (by rw [hml]; rfl) (argsL := [(.int (w63 + ((((p1.toUInt32 >>> ((28 : Int32) &&& 31).toUInt32).toInt32) &&& (3 : Int32)) - (1 : Int32))))]) (rest := [(.int (own_f1 (w63 + ((((p1.toUInt32 >>> ((28 : Int32) &&& 31).toUInt32).toInt32) &&& (3 : Int32)) - (1 : Int32)))))]) (lenOf pd__28I_29Z rfl) rfl (by show 2 * 0 + _ ≤ _; exact Nat.le_of_eq rfl) (hb hby at_169) (fun _ _ => ⟨rfl, e67, (by decide : 1 + 0 ≤ _), (by decide : 20 + 0 ≤ _)⟩)
  dsimp only [Pt.U, Pt.locs, Pt.cells, Pt.slots] at X68 l68 y68 z68 st68 hQ68
  subst l68 y68 z68
  obtain ⟨rfl, N68q, e68⟩ := hQ68
  obtain ⟨_, X68, N68⟩ := own_hide X68 (Fr.app N67 N68q)
  refine own_st st68 ?_
  show own_Go _ _ _ _ T68 (mkF m 172 #[.val (.int p0), .val (.int p1), .val (.ref b1), .val (.int ((p1 &&& (2147483647 : Int32)) % (20 : Int32))), .val (.int ((((p1.toUInt32 >>> ((28 : Int32) &&& 31).toUInt32).toInt32) &&& (3 : Int32)) - (1 : Int32))), .val (.int (w63 + ((((p1.toUInt32 >>> ((28 : Int32) &&& 31).toUInt32).toInt32) &&& (3 : Int32)) - (1 : Int32)))), .val (.int (1 : Int32)), .unset] [(.int (own_f2 (w63 + ((((p1.toUInt32 >>> ((28 : Int32) &&& 31).toUInt32).toInt32) &&& (3 : Int32)) - (1 : Int32))))), (.int (own_f1 (w63 + ((((p1.toUInt32 >>> ((28 : Int32) &&& 31).toUInt32).toInt32) &&& (3 : Int32)) - (1 : Int32)))))])
  refine own_st (fun t k => XS.icmpNo X68.here hx rfl (hb hby at_172) rfl (teq (own_eq _ : (own_f1 (w63 + ((((p1.toUInt32 >>> ((28 : Int32) &&& 31).toUInt32).toInt32) &&& (3 : Int32)) - (1 : Int32)))) = (own_f2 (w63 + ((((p1.toUInt32 >>> ((28 : Int32) &&& 31).toUInt32).toInt32) &&& (3 : Int32)) - (1 : Int32)))))).2 k) ?_
  show own_Go _ _ _ _ T68 (mkF m 175 #[.val (.int p0), .val (.int p1), .val (.ref b1), .val (.int ((p1 &&& (2147483647 : Int32)) % (20 : Int32))), .val (.int ((((p1.toUInt32 >>> ((28 : Int32) &&& 31).toUInt32).toInt32) &&& (3 : Int32)) - (1 : Int32))), .val (.int (w63 + ((((p1.toUInt32 >>> ((28 : Int32) &&& 31).toUInt32).toInt32) &&& (3 : Int32)) - (1 : Int32)))), .val (.int (1 : Int32)), .unset] [])
  refine own_st (fun t k => XS.iconst X68.here hx rfl (hb hby at_175) k) ?_
  show own_Go _ _ _ _ T68 (mkF m 176 #[.val (.int p0), .val (.int p1), .val (.ref b1), .val (.int ((p1 &&& (2147483647 : Int32)) % (20 : Int32))), .val (.int ((((p1.toUInt32 >>> ((28 : Int32) &&& 31).toUInt32).toInt32) &&& (3 : Int32)) - (1 : Int32))), .val (.int (w63 + ((((p1.toUInt32 >>> ((28 : Int32) &&& 31).toUInt32).toInt32) &&& (3 : Int32)) - (1 : Int32)))), .val (.int (1 : Int32)), .unset] [(.int (1 : Int32))])
  refine own_st (fun t k => XS.goto X68.here hx rfl (pc0 := 176) (pc' := 180) rfl (hb hby at_176) (by decide) (by decide) k) ?_
  show own_Go _ _ _ _ T68 (mkF m 180 #[.val (.int p0), .val (.int p1), .val (.ref b1), .val (.int ((p1 &&& (2147483647 : Int32)) % (20 : Int32))), .val (.int ((((p1.toUInt32 >>> ((28 : Int32) &&& 31).toUInt32).toInt32) &&& (3 : Int32)) - (1 : Int32))), .val (.int (w63 + ((((p1.toUInt32 >>> ((28 : Int32) &&& 31).toUInt32).toInt32) &&& (3 : Int32)) - (1 : Int32)))), .val (.int (1 : Int32)), .unset] [(.int (1 : Int32))])
  refine own_st (fun t k => XS.istore X68.here hx rfl (hb hby at_180) rfl (l' := #[.val (.int p0), .val (.int p1), .val (.ref b1), .val (.int ((p1 &&& (2147483647 : Int32)) % (20 : Int32))), .val (.int ((((p1.toUInt32 >>> ((28 : Int32) &&& 31).toUInt32).toInt32) &&& (3 : Int32)) - (1 : Int32))), .val (.int (w63 + ((((p1.toUInt32 >>> ((28 : Int32) &&& 31).toUInt32).toInt32) &&& (3 : Int32)) - (1 : Int32)))), .val (.int (1 : Int32)), .val (.int (1 : Int32))]) rfl k) ?_
  show own_Go _ _ _ _ T68 (mkF m 182 #[.val (.int p0), .val (.int p1), .val (.ref b1), .val (.int ((p1 &&& (2147483647 : Int32)) % (20 : Int32))), .val (.int ((((p1.toUInt32 >>> ((28 : Int32) &&& 31).toUInt32).toInt32) &&& (3 : Int32)) - (1 : Int32))), .val (.int (w63 + ((((p1.toUInt32 >>> ((28 : Int32) &&& 31).toUInt32).toInt32) &&& (3 : Int32)) - (1 : Int32)))), .val (.int (1 : Int32)), .val (.int (1 : Int32))] [])
  refine own_st (fun t k => XS.iload X68.here hx rfl (hb hby at_182) rfl k) ?_
  show own_Go _ _ _ _ T68 (mkF m 184 #[.val (.int p0), .val (.int p1), .val (.ref b1), .val (.int ((p1 &&& (2147483647 : Int32)) % (20 : Int32))), .val (.int ((((p1.toUInt32 >>> ((28 : Int32) &&& 31).toUInt32).toInt32) &&& (3 : Int32)) - (1 : Int32))), .val (.int (w63 + ((((p1.toUInt32 >>> ((28 : Int32) &&& 31).toUInt32).toInt32) &&& (3 : Int32)) - (1 : Int32)))), .val (.int (1 : Int32)), .val (.int (1 : Int32))] [(.int (1 : Int32))])
  refine own_st (fun t k => XS.ifNo X68.here hx rfl (hb hby at_184) rfl ((if0 _ _).trans (feq (by decide : ¬ ((1 : Int32) = (0 : Int32)))).1) k) ?_
  show own_Go _ _ _ _ T68 (mkF m 187 #[.val (.int p0), .val (.int p1), .val (.ref b1), .val (.int ((p1 &&& (2147483647 : Int32)) % (20 : Int32))), .val (.int ((((p1.toUInt32 >>> ((28 : Int32) &&& 31).toUInt32).toInt32) &&& (3 : Int32)) - (1 : Int32))), .val (.int (w63 + ((((p1.toUInt32 >>> ((28 : Int32) &&& 31).toUInt32).toInt32) &&& (3 : Int32)) - (1 : Int32)))), .val (.int (1 : Int32)), .val (.int (1 : Int32))] [])
  refine own_st (fun t k => XS.iload X68.here hx rfl (hb hby at_187) rfl k) ?_
  show own_Go _ _ _ _ T68 (mkF m 189 #[.val (.int p0), .val (.int p1), .val (.ref b1), .val (.int ((p1 &&& (2147483647 : Int32)) % (20 : Int32))), .val (.int ((((p1.toUInt32 >>> ((28 : Int32) &&& 31).toUInt32).toInt32) &&& (3 : Int32)) - (1 : Int32))), .val (.int (w63 + ((((p1.toUInt32 >>> ((28 : Int32) &&& 31).toUInt32).toInt32) &&& (3 : Int32)) - (1 : Int32)))), .val (.int (1 : Int32)), .val (.int (1 : Int32))] [(.int (1 : Int32))])
  refine own_st (fun t k => XS.ifNo X68.here hx rfl (hb hby at_189) rfl ((if0 _ _).trans (feq (by decide : ¬ ((1 : Int32) = (0 : Int32)))).1) k) ?_
  show own_Go _ _ _ _ T68 (mkF m 192 #[.val (.int p0), .val (.int p1), .val (.ref b1), .val (.int ((p1 &&& (2147483647 : Int32)) % (20 : Int32))), .val (.int ((((p1.toUInt32 >>> ((28 : Int32) &&& 31).toUInt32).toInt32) &&& (3 : Int32)) - (1 : Int32))), .val (.int (w63 + ((((p1.toUInt32 >>> ((28 : Int32) &&& 31).toUInt32).toInt32) &&& (3 : Int32)) - (1 : Int32)))), .val (.int (1 : Int32)), .val (.int (1 : Int32))] [])
  refine own_st (fun t k => XS.iconst X68.here hx rfl (hb hby at_192) k) ?_
  show own_Go _ _ _ _ T68 (mkF m 193 #[.val (.int p0), .val (.int p1), .val (.ref b1), .val (.int ((p1 &&& (2147483647 : Int32)) % (20 : Int32))), .val (.int ((((p1.toUInt32 >>> ((28 : Int32) &&& 31).toUInt32).toInt32) &&& (3 : Int32)) - (1 : Int32))), .val (.int (w63 + ((((p1.toUInt32 >>> ((28 : Int32) &&& 31).toUInt32).toInt32) &&& (3 : Int32)) - (1 : Int32)))), .val (.int (1 : Int32)), .val (.int (1 : Int32))] [(.int (1 : Int32))])
  refine own_st (fun t k => XS.goto X68.here hx rfl (pc0 := 193) (pc' := 197) rfl (hb hby at_193) (by decide) (by decide) k) ?_
  show own_Go _ _ _ _ T68 (mkF m 197 #[.val (.int p0), .val (.int p1), .val (.ref b1), .val (.int ((p1 &&& (2147483647 : Int32)) % (20 : Int32))), .val (.int ((((p1.toUInt32 >>> ((28 : Int32) &&& 31).toUInt32).toInt32) &&& (3 : Int32)) - (1 : Int32))), .val (.int (w63 + ((((p1.toUInt32 >>> ((28 : Int32) &&& 31).toUInt32).toInt32) &&& (3 : Int32)) - (1 : Int32)))), .val (.int (1 : Int32)), .val (.int (1 : Int32))] [(.int (1 : Int32))])
  exact own_retN X68 hx hlk (t := .boolean) hrt (by simp) (hb hby at_197) ⟨rfl, N68⟩ (by decide) (by decide)
set_option maxRecDepth 65536 in
set_option maxHeartbeats 40000000 in
theorem comes_1 {Post : Tables → Env → Array Value → State → Outcome → State → Prop} (hpost : ∀ tb e args s v u, (limb_1_1.after args s (.returned v) u = true ∧ limb_1_2.after args s (.returned v) u = true ∧ True) → FrameEnd s (.returned v) u (Jvm.fieldLocs frame_1_writes args s ++ Jvm.arrayLocs frame_1_arrays args s ++ Jvm.staticLocs frame_1_statics s) 16 128 → Post tb e args s (.returned v) u) :
    ArmFor flags0 classFile x code maxLocals ret World_1 tables_1 room_1 Calls_1 rest_1 Pre_1 Post := by
  intro l hfl _ _ p e ha hc hk s m args below hf hA hF happ hP
  obtain ⟨hcalls, hrest, hpre⟩ := hP
  obtain ⟨-, -, -, hnamed, -, -, -, hat⟩ := (Spec.applies_iff hf).mp happ
  obtain ⟨hg, hn⟩ := and_e (Cond.before_iff.mp (show (Jvm.Cond.and given_1 narrow_1).before args s = true from hpre))
  obtain ⟨gc, gr0⟩ := and_e hg
  obtain ⟨ga0, gr1⟩ := and_e gr0
  obtain ⟨w0, w1, rfl⟩ : ∃ w0 w1 : Value, args = #[w0, w1] := by
    have hs : args.size = 2 := by simpa [Cond.value, given_1] using gc
    obtain ⟨L⟩ := args
    match L, hs with
    | [w0, w1], _ => exact ⟨w0, w1, rfl⟩
  have hw := fun d (hd : d ∈ tables_1) => atoms_spec (ws := Jvm.Cond.code x code maxLocals ret :: tables_1) hat d (List.mem_cons_of_mem _ hd)
  have hfit : Fit s := fun {y c} hc i hi => by
    obtain ⟨ha, rfl⟩ := Array.getElem?_eq_some_iff.mp hc
    have q := List.all_eq_true.mp ((Array.all_eq_true_iff_forall_mem.mp hF) _ (Array.getElem_mem ha)) i (List.mem_range.mpr hi)
    simpa [Array.getElem?_eq_getElem hi] using q
  obtain ⟨i0, ei0⟩ := is_v ga0
  obtain rfl : w0 = (.int i0) := Option.some.inj ei0
  obtain ⟨i1, ei1⟩ := is_v gr1
  obtain rfl : w1 = (.int i1) := Option.some.inj ei1
  obtain ⟨n, o, h1, h2, h3, _, L, rfl, ⟨rfl, N⟩, hq⟩ := rm0 l s _ hw tables_1 i0 i1  s.heap s.heap.size (Nat.le_refl _)  p e ha hc hk s m _ below hf ((Spec.applies_iff_loose hf).mp happ).1 ⟨rfl, State.Warmed39.refl s, rfl⟩ trivial
  refine ⟨n, _, h1, h2, h3, hpost _ _ _ _ _ _ ⟨Cond.after_iff.mpr rfl, Cond.after_iff.mpr (eq_i res_at (Term.int_eval (1)) rfl), trivial⟩ ⟨hq.1, hq.2.1, (hq.2.2.sift fun y hy => Or.inr (N y hy)).mono (by decide) (by decide)⟩⟩
theorem main_1_1 : Claimed_1_1 := comes_1 fun _ _ _ _ _ _ h hF => ⟨h.1, hF⟩
theorem main_1_2 : Claimed_1_2 := comes_1 fun _ _ _ _ _ _ h hF => ⟨h.2.1, hF⟩
end Jvm.Pilot.@@N@@
namespace Jvm.Pilot.@@N@@
open Jvm Jvm.ClassFile Sem Op Lib Jvm.Free Jvm.Stand Jvm.Pilot.@@N@@.Jvm.D
/-! MADE BY PROGRAM (witnessworld.py) out of the Statement's table words and the real class files: 9 classes; the members and pool entries that the words name. The judged class is class 1, her method 2. -/
namespace start1
open Jvm.ClassFile
def u (s : String) : CpInfo := .utf8 (stringToUtf16 s)
/-- a pool by its gaps: so many unusable entries, then the entry; so many at the end -/
def gap : Nat → List CpInfo → List CpInfo
  | 0, r => r
  | n + 1, r => .unusable :: gap n r
def poolList (es : List (Nat × CpInfo)) (last : Nat) : List CpInfo := es.foldr (fun e r => gap e.1 (e.2 :: r)) (gap last [])
def pool (es : List (Nat × CpInfo)) (last : Nat) : Array CpInfo := ⟨poolList es last⟩
def fileOf (pool : Array CpInfo) (this : Nat) (attrs : Array Attribute := #[]) (ms : Array MethodInfo := #[]) (fl : Nat := 33) (sup : Nat := 0) (ifs : Array Nat := #[]) (fds : Array FieldInfo := #[]) : ClassFile where
  minorVersion := 0
  majorVersion := 65
  constantPool := pool
  accessFlags := fl
  thisClass := this
  superClass := sup
  interfaces := ifs
  fields := fds
  methods := ms
  attributes := attrs
def plain (name : String) (sup : Option ClassId) : Class where
  name := name
  kind := .ordinary
  loader := none
  accessFlags := 33
  super := sup
  interfaces := #[]
  cf := none
  fields := #[]
  methods := #[]
  instanceTypes := #[]
  staticTypes := #[]
  resolved := #[]
  callSites := []
  init := .initialized
  statics := none
  mirror := none

def pool0 : Array CpInfo := pool [(5, u "<init>"), (0, u "()V"), (1, .class_ 10), (1, u "java/lang/Object")] 113

def k0m0 : Method := { name := "<init>", desc := "()V", sig := { parameters := [], returnType := none }, accessFlags := 1, code := none }
/-- java/lang/Object -/
def k0 : Class := { plain "java/lang/Object" none with
  accessFlags := 33
  interfaces := #[]
  cf := some (fileOf pool0 8 #[] #[{ accessFlags := 1, nameIndex := 5, descriptorIndex := 6, attributes := #[] }] 33 0 #[] #[])
  fields := #[]
  methods := #[k0m0]
  instanceTypes := #[]
  staticTypes := #[]
  resolved := Array.replicate 124 none
  statics := none }

def pool1 : Array CpInfo := pool [(2, .class_ 4), (1, u "java/lang/Object"), (0, u "<init>"), (0, u "()V"), (0, .integer 1114111), (0, .integer 55296), (0, .integer 57343), (0, .integer 65534), (0, .integer 65535), (0, .integer 55295), (0, .integer 57344), (0, .integer 65533), (0, .integer 65536), (0, .integer 1114112), (2, .integer 2147483648), (0, .integer 2147483647), (0, .integer 2147483646), (0, .methodref 23 24), (0, .class_ 25), (0, .nameAndType 26 27), (0, u "shelfmark/Markup"), (0, u "isXmlCharacter"), (0, u "(I)Z"), (0, .methodref 29 30), (0, .class_ 31), (0, .nameAndType 32 27), (0, u "shelfmark/MarkupIsXmlCharacterPinLaw"), (0, u "ref"), (3, u "law"), (0, u "(II)Z")] 4

def k1m0 : Method := { name := "<init>", desc := "()V", sig := { parameters := [], returnType := none }, accessFlags := 2, code := none }
def k1c1 : Code := { maxStack := 2, maxLocals := 1, code := method_2_code, exceptionTable := #[], attributes := #[] }
def k1m1 : Method := { name := "ref", desc := "(I)Z", sig := { parameters := [.int], returnType := some .boolean }, accessFlags := 10, code := some k1c1 }
def k1c2 : Code := { maxStack := 4, maxLocals := 8, code := code, exceptionTable := #[], attributes := #[] }
def k1m2 : Method := { name := "law", desc := "(II)Z", sig := { parameters := [.int, .int], returnType := some .boolean }, accessFlags := 9, code := some k1c2 }
/-- shelfmark/MarkupIsXmlCharacterPinLaw -/
def k1 : Class := { plain "shelfmark/MarkupIsXmlCharacterPinLaw" (some 0) with
  accessFlags := 49
  interfaces := #[]
  cf := some (fileOf pool1 29 #[] #[{ accessFlags := 2, nameIndex := 5, descriptorIndex := 6, attributes := #[] }, { accessFlags := 10, nameIndex := 32, descriptorIndex := 27, attributes := #[] }, { accessFlags := 9, nameIndex := 36, descriptorIndex := 37, attributes := #[] }] 49 2 #[] #[])
  fields := #[]
  methods := #[k1m0, k1m1, k1m2]
  instanceTypes := #[]
  staticTypes := #[]
  resolved := Array.replicate 42 none
  statics := none }

def pool2 : Array CpInfo := pool [(2, .class_ 4), (1, u "java/lang/Object"), (0, u "<init>"), (0, u "()V"), (1, .class_ 10), (1, u "shelfmark/Markup"), (2, .integer 55295), (0, .integer 57344), (0, .integer 65533), (0, .integer 65536), (2, .integer 1114111), (55, u "isXmlCharacter"), (0, u "(I)Z")] 3

def k2m0 : Method := { name := "<init>", desc := "()V", sig := { parameters := [], returnType := none }, accessFlags := 2, code := none }
def k2c1 : Code := { maxStack := 2, maxLocals := 1, code := prog_41_method_4_code, exceptionTable := #[], attributes := #[] }
def k2m1 : Method := { name := "isXmlCharacter", desc := "(I)Z", sig := { parameters := [.int], returnType := some .boolean }, accessFlags := 8, code := some k2c1 }
/-- shelfmark/Markup -/
def k2 : Class := { plain "shelfmark/Markup" (some 0) with
  accessFlags := 48
  interfaces := #[]
  cf := some (fileOf pool2 8 #[] #[{ accessFlags := 2, nameIndex := 5, descriptorIndex := 6, attributes := #[] }, { accessFlags := 8, nameIndex := 75, descriptorIndex := 76, attributes := #[] }] 48 2 #[] #[])
  fields := #[]
  methods := #[k2m0, k2m1]
  instanceTypes := #[]
  staticTypes := #[]
  resolved := Array.replicate 80 none
  statics := none }

def pool3 : Array CpInfo := pool [(1, u "java/lang/Cloneable"), (0, .class_ 1), (0, u "java/lang/Object"), (0, .class_ 3)] 3

/-- java/lang/Cloneable -/
def k3 : Class := { plain "java/lang/Cloneable" (some 0) with
  accessFlags := 1537
  interfaces := #[]
  cf := some (fileOf pool3 2 #[] #[] 1537 4 #[] #[])
  fields := #[]
  methods := #[]
  instanceTypes := #[]
  staticTypes := #[]
  resolved := Array.replicate 8 none
  statics := none }

def pool4 : Array CpInfo := pool [(1, u "java/io/Serializable"), (0, .class_ 1), (0, u "java/lang/Object"), (0, .class_ 3)] 3

/-- java/io/Serializable -/
def k4 : Class := { plain "java/io/Serializable" (some 0) with
  accessFlags := 1537
  interfaces := #[]
  cf := some (fileOf pool4 2 #[] #[] 1537 4 #[] #[])
  fields := #[]
  methods := #[]
  instanceTypes := #[]
  staticTypes := #[]
  resolved := Array.replicate 8 none
  statics := none }

/-- the primitive byte -/
def k5 : Class := { plain "byte" none with kind := .primitive 'B', accessFlags := 0x411 }
/-- [B -/
def k6 : Class := { plain "[B" (some 0) with kind := .array 5 .byte, interfaces := #[3, 4], accessFlags := 1041 }

/-- the primitive int -/
def k7 : Class := { plain "int" none with kind := .primitive 'I', accessFlags := 0x411 }
/-- [I -/
def k8 : Class := { plain "[I" (some 0) with kind := .array 7 .int, interfaces := #[3, 4], accessFlags := 1041 }

def heap : Heap := #[]
def classes : Array Class := #[k0, k1, k2, k3, k4, k5, k6, k7, k8]
def interned : List (Array UInt16 × Addr) := []
def slotsUsed : Nat := 0
def theMethod : MethodId := ⟨1, 2⟩
def args0 : Array Value := #[.int 5, .int 300]
def aboutOver (below : List Frame) : State where
  vm := { classes := classes, interned := interned.toArray }
  heap := heap
  slotsUsed := slotsUsed
  threads := #[{ frames := .invoking theMethod args0 :: below }]
def below0 : List Frame := [.native { method := ⟨0, 0⟩, args := #[] }]
def about1 : State := aboutOver below0
def p0 : Program := .bare "" "" ""
def e0 : Env := launch0.env 0 0 0
theorem w_frames : about1.frames = Frame.invoking theMethod args0 :: below0 := rfl
set_option maxRecDepth 65536 in
theorem w_args : argsFit about1.vm theMethod args0 = true := by decide +kernel
set_option maxRecDepth 65536 in
theorem w_heap : heapFits about1 = true := by decide +kernel
set_option maxRecDepth 65536 in
theorem w_runnable : about1.curStatus? = some .runnable := by decide +kernel
set_option maxRecDepth 65536 in
theorem w_alone : about1.alone = true := by decide +kernel
set_option maxRecDepth 65536 in
theorem w_named : about1.methodNamed? x = some theMethod := by decide +kernel
set_option maxRecDepth 65536 in
theorem w_hears : about1.hears theMethod below0 = true := by decide +kernel
set_option maxRecDepth 65536 in
theorem w_ripe : about1.ripe theMethod args0 below0 = true := by decide +kernel
theorem w_running : about1.status = .running := rfl
set_option maxRecDepth 65536 in
theorem w_room : about1.hasRoom e0.platform room_1 = true :=
  launch0.hasRoom_least _ room_1 (by decide +kernel) (by decide +kernel) (by decide +kernel) (by decide +kernel) (by decide +kernel) (by decide +kernel)
theorem allAtoms_all (ts : List Jvm.Cond) (a : Array Jvm.Value) (st : Jvm.State) : (allAtoms ts).before a st = ts.all (fun c => c.before a st) := by
  induction ts with
  | nil => rfl
  | cons c t ih =>
    show (Jvm.Cond.and c (allAtoms t)).before a st = _
    rw [Jvm.Cond.before_and, ih, List.all_cons]
def words1 : List Jvm.Cond := Jvm.Cond.code x code maxLocals ret :: tables_1
/-- a 'code' word, met by the world's own term for the bytes: nothing is compared byte by byte -/
theorem code_word {y : MethodName} {bytes : ByteArray} {mx : Nat} {rt : Option FieldType} {a : Array Value} {s : State} {m : MethodId} {meth : Method} {c : Code} (h1 : s.methodNamed? y = some m) (h2 : s.vm.method? m = some meth) (h3 : meth.code = some c) (h4 : c.code = bytes)
    (h5 : (c.maxLocals == mx && c.exceptionTable.isEmpty && decide (c.maxStack ≤ mostOperands) && decide (meth.sig.returnType = rt) && !meth.locks && decide (parseMethodDescriptor y.desc = some meth.sig)) = true) : (Jvm.Cond.code y bytes mx rt).before a s = true := by
  simp only [Bool.and_eq_true, beq_iff_eq, Bool.not_eq_true', decide_eq_true_eq] at h5
  obtain ⟨⟨⟨⟨⟨g1, g2⟩, g3⟩, g4⟩, g5⟩, g6⟩ := h5
  simp [Cond.before, Cond.holds, Cond.value, h1, h2, h3, h4, g1, g2, g3, g4, g5, g6]
def isCode : Jvm.Cond → Bool
  | .code _ _ _ _ => true
  | _ => false
theorem all_split {L : List Jvm.Cond} {P : Jvm.Cond → Bool} (h1 : L.all (fun c => isCode c || P c) = true) (h2 : ∀ c ∈ L.filter isCode, P c = true) : L.all P = true := by
  refine List.all_eq_true.mpr fun c hc => ?_
  have h := List.all_eq_true.mp h1 c hc
  rcases Bool.eq_false_or_eq_true (isCode c) with hi | hi
  · exact h2 c (List.mem_filter.mpr ⟨hc, hi⟩)
  · simpa [hi] using h
set_option maxRecDepth 65536 in
theorem w_c0 : (Jvm.Cond.code x code maxLocals ret).before args0 about1 = true := code_word (m := ⟨1, 2⟩) (meth := k1m2) (c := k1c2) (by decide +kernel) rfl rfl rfl (by decide +kernel)
set_option maxRecDepth 65536 in
theorem w_c1 : (Jvm.Cond.code ({ cls := "shelfmark/Markup", name := "isXmlCharacter", desc := "(I)Z" } : Jvm.MethodName) prog_41_method_4_code (1 : Nat) (Option.some Jvm.ClassFile.FieldType.boolean)).before args0 about1 = true := code_word (m := ⟨2, 1⟩) (meth := k2m1) (c := k2c1) (by decide +kernel) rfl rfl rfl (by decide +kernel)
set_option maxRecDepth 65536 in
theorem w_c2 : (Jvm.Cond.code ({ cls := "shelfmark/MarkupIsXmlCharacterPinLaw", name := "ref", desc := "(I)Z" } : Jvm.MethodName) method_2_code (1 : Nat) (Option.some Jvm.ClassFile.FieldType.boolean)).before args0 about1 = true := code_word (m := ⟨1, 1⟩) (meth := k1m1) (c := k1c1) (by decide +kernel) rfl rfl rfl (by decide +kernel)
def codes1 : List Jvm.Cond := [Jvm.Cond.code x code maxLocals ret, Jvm.Cond.code ({ cls := "shelfmark/Markup", name := "isXmlCharacter", desc := "(I)Z" } : Jvm.MethodName) prog_41_method_4_code (1 : Nat) (Option.some Jvm.ClassFile.FieldType.boolean), Jvm.Cond.code ({ cls := "shelfmark/MarkupIsXmlCharacterPinLaw", name := "ref", desc := "(I)Z" } : Jvm.MethodName) method_2_code (1 : Nat) (Option.some Jvm.ClassFile.FieldType.boolean)]
set_option maxRecDepth 65536 in
theorem codes_eq : words1.filter isCode = codes1 := rfl
theorem w_codes : ∀ c ∈ words1.filter isCode, c.before args0 about1 = true := by
  rw [codes_eq]
  intro c hc
  simp only [codes1, List.mem_cons, List.not_mem_nil, or_false] at hc
  rcases hc with rfl | rfl | rfl
  · exact w_c0
  · exact w_c1
  · exact w_c2
set_option maxRecDepth 65536 in
theorem w_t1 : (words1.take 24).all (fun c => isCode c || c.before args0 about1) = true := by decide +kernel
set_option maxRecDepth 65536 in
theorem w_t2 : (words1.drop 24).all (fun c => isCode c || c.before args0 about1) = true := by decide +kernel
theorem w_tables : (allAtoms (Jvm.Cond.code x code maxLocals ret :: tables_1)).before args0 about1 = true := by
  rw [allAtoms_all]
  show words1.all (fun c => c.before args0 about1) = true
  refine all_split ?_ w_codes
  rw [← List.take_append_drop 24 words1, List.all_append, w_t1, w_t2]
  rfl
set_option maxRecDepth 65536 in
theorem w_case : (Jvm.Cond.and given_1 narrow_1).before args0 about1 = true := by decide +kernel
theorem w_applies : (headSpec (Jvm.Cond.code x code maxLocals ret :: tables_1) room_1).applies x e0.platform about1 = true :=
  (Spec.applies_iff w_frames).mpr ⟨w_running, w_runnable, w_alone, w_named, w_hears, w_ripe, w_room, w_tables⟩
theorem atStart : AtStart classFile x code maxLocals ret World_1 tables_1 room_1 Calls_1 rest_1 Pre_1 launch0 p0 e0 about1 theMethod args0 below0 :=
  ⟨lists_1, trivial, launch0.admits_env _ _ _, launch0.least_env, fairChoices_fair.cas, fairChoices_fair.clock, w_frames, w_args, w_heap, w_applies, trivial, trivial, w_case⟩
end start1
theorem witness_1 : WitnessClaimed_1 := ⟨start1.p0, start1.e0, start1.about1, start1.theMethod, start1.args0, start1.below0, start1.atStart⟩
end Jvm.Pilot.@@N@@
