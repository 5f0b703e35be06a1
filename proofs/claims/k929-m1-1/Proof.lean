import JvmDerived
import JvmDerived.Pilot.@@N@@Statement
import JvmDerived.Pilot.@@N@@Code
set_option linter.unusedVariables false
set_option linter.unusedSimpArgs false
namespace Jvm.RoadKit
open Sem ClassFile Op Lib Jvm.Stand Jvm.Free Jvm.LawKit
section OwnGo
/-- from the state T with the frame g on top the run comes to a state of which K holds -/
def own_Go (tb : Tables) (e : Env) (below : List Frame) (K : State → Prop) (T : State) (g : JFrame) : Prop := ∃ t, Steps tb e below (T.setTop g) t ∧ K t
/-- the invocation has ended by a return, with what Q says of the value, the heap and the written places -/
def own_Fin (below : List Frame) (s : State) (Q : Option Value → Heap → List Loc → Prop) (k n : Nat) (t : State) : Prop := ∃ o, t.status = .running ∧ Ended t below o ∧ ∃ v L, o = .returned v ∧ Q v t.heap L ∧ FrameEnd s o t L k n
variable {p : Program} {l : Launch} {e : Env} {R : Room} {s : State} {m : MethodId} {args : Array Value} {below : List Frame} {meth : Method} {c : Code} {T : State} {locs : List Loc} {cells slots : Nat}
variable {K : State → Prop} {T' : State} {g g' : JFrame} {tb : Tables} {Q : Option Value → Heap → List Loc → Prop} {k n : Nat}
theorem own_st (h : ∀ t, Steps tb e below (T'.setTop g') t → Steps tb e below (T.setTop g) t) (q : own_Go tb e below K T' g') : own_Go tb e below K T g := by
  obtain ⟨t, h1, h2⟩ := q
  exact ⟨t, h _ h1, h2⟩
theorem own_tr (h : Steps tb e below (T.setTop g) (T'.setTop g')) (q : own_Go tb e below K T' g') : own_Go tb e below K T g := by
  obtain ⟨t, h1, h2⟩ := q
  exact ⟨t, h.trans h1, h2⟩
theorem own_in (h : g = g') (q : own_Go tb e below K T g') : own_Go tb e below K T g := h ▸ q
theorem own_out (q : own_Go tb e below (own_Fin below s Q k n) T g) : ∃ s₂ o, Steps tb e below (T.setTop g) s₂ ∧ s₂.status = .running ∧ Ended s₂ below o ∧ ∃ v L, o = .returned v ∧ Q v s₂.heap L ∧ FrameEnd s o s₂ L k n := by
  obtain ⟨t, h1, o, h2, h3, h4⟩ := q
  exact ⟨t, o, h1, h2, h3, h4⟩
theorem own_leave (X : Stand p l e R s m args below meth c T locs cells slots) (hlk : meth.locks = false) {v : Option Value} (hv : meth.sig.returnType = none → v = none) (hq : Q v T.heap locs) (hk : cells ≤ k) (hn : slots ≤ n)
    (st : ∀ fs, (∀ (f : JFrame) (acts : List Action), f.method = m → f.locked = none → f.entered = [] → (doReturn e (T.setTop f) acts v).1 = T.setFrames fs) → Steps p.tables e below (T.setTop g) (T.setFrames fs)) :
    own_Go p.tables e below (own_Fin below s Q k n) T g := by
  obtain ⟨fs, hr, hrun, hended, hW, hsame⟩ := X.leave (v := v) hv hlk
  exact ⟨_, st fs hr, _, hrun, hended, _, _, rfl, hq, ⟨_, rfl⟩, hW, hsame.mono hk hn⟩
variable {pc : Nat} {Ls : Array Slot} {rest : List Value}
theorem own_retV (X : Stand p l e R s m args below meth c T locs cells slots) (hx : p.tables.exec = Jvm.exec) (hlk : meth.locks = false) (hret : meth.sig.returnType = none) (hd : decode c.code pc = .ok (.return_, 1)) (hq : Q none T.heap locs) (hk : cells ≤ k) (hn : slots ≤ n) :
    own_Go p.tables e below (own_Fin below s Q k n) T (mkF m pc Ls []) :=
  own_leave X hlk (fun _ => rfl) hq hk hn fun _ hr => X.returnOut hx hret hd hr
theorem own_retW (X : Stand p l e R s m args below meth c T locs cells slots) (hx : p.tables.exec = Jvm.exec) (hlk : meth.locks = false) {w : Value} {t : FieldType} {i : Instr} (hret : meth.sig.returnType = some t) (hn' : narrow t w = w)
    (hi : (i = .ireturn ∧ (t = .int ∨ t = .boolean ∨ t = .byte ∨ t = .char ∨ t = .short) ∧ ∃ z, w = .int z) ∨ (i = .lreturn ∧ t = .long ∧ ∃ z, w = .long z) ∨ (i = .dreturn ∧ t = .double ∧ ∃ z, w = .double z) ∨ (i = .freturn ∧ t = .float ∧ ∃ z, w = .float z) ∨ (i = .areturn ∧ t.isReference = true ∧ w.isRef = true))
    (hd : decode c.code pc = .ok (i, 1)) (hq : Q (some w) T.heap locs) (hk : cells ≤ k) (hn : slots ≤ n) :
    own_Go p.tables e below (own_Fin below s Q k n) T (mkF m pc Ls (w :: rest)) :=
  own_leave X hlk (fun h => by rw [hret] at h; cases h) hq hk hn fun _ hr => retOut X hx hret hn' hi hd hr
theorem own_retI (X : Stand p l e R s m args below meth c T locs cells slots) (hx : p.tables.exec = Jvm.exec) (hlk : meth.locks = false) {z : Int32} (hret : meth.sig.returnType = some .int) (hd : decode c.code pc = .ok (.ireturn, 1)) (hq : Q (some (.int z)) T.heap locs) (hk : cells ≤ k) (hn : slots ≤ n) :
    own_Go p.tables e below (own_Fin below s Q k n) T (mkF m pc Ls (.int z :: rest)) :=
  own_retW X hx hlk hret rfl (Or.inl ⟨rfl, Or.inl rfl, _, rfl⟩) hd hq hk hn
theorem own_retJ (X : Stand p l e R s m args below meth c T locs cells slots) (hx : p.tables.exec = Jvm.exec) (hlk : meth.locks = false) {z : Int64} (hret : meth.sig.returnType = some .long) (hd : decode c.code pc = .ok (.lreturn, 1)) (hq : Q (some (.long z)) T.heap locs) (hk : cells ≤ k) (hn : slots ≤ n) :
    own_Go p.tables e below (own_Fin below s Q k n) T (mkF m pc Ls (.long z :: rest)) :=
  own_retW X hx hlk hret rfl (Or.inr (Or.inl ⟨rfl, rfl, _, rfl⟩)) hd hq hk hn
theorem own_retR (X : Stand p l e R s m args below meth c T locs cells slots) (hx : p.tables.exec = Jvm.exec) (hlk : meth.locks = false) {w : Value} {t : FieldType} (hret : meth.sig.returnType = some t) (ht : t.isReference = true) (hw : w.isRef = true) (hn' : narrow t w = w) (hd : decode c.code pc = .ok (.areturn, 1)) (hq : Q (some w) T.heap locs) (hk : cells ≤ k) (hn : slots ≤ n) :
    own_Go p.tables e below (own_Fin below s Q k n) T (mkF m pc Ls (w :: rest)) :=
  own_retW X hx hlk hret hn' (Or.inr (Or.inr (Or.inr (Or.inr ⟨rfl, ht, hw⟩)))) hd hq hk hn
theorem own_retN (X : Stand p l e R s m args below meth c T locs cells slots) (hx : p.tables.exec = Jvm.exec) (hlk : meth.locks = false) {z : Int32} {t : FieldType} (hret : meth.sig.returnType = some t) (ht : t = .boolean ∨ t = .byte ∨ t = .char ∨ t = .short) (hd : decode c.code pc = .ok (.ireturn, 1)) (hq : Q (some (.int (nar t z))) T.heap locs) (hk : cells ≤ k) (hn : slots ≤ n) :
    own_Go p.tables e below (own_Fin below s Q k n) T (mkF m pc Ls (.int z :: rest)) :=
  own_leave X hlk (fun h => by rw [hret] at h; cases h) hq hk hn fun _ hr => retN X hx hret ht hd hr
/-- the same, where String constants may have been resolved -/
def own_FinW (below : List Frame) (s : State) (Q : Option Value → Heap → List Loc → Prop) (k n : Nat) (t : State) : Prop := ∃ o, t.status = .running ∧ Ended t below o ∧ ∃ v L, o = .returned v ∧ Q v t.heap L ∧ ReturnedEndW s o t L k n
theorem own_outW (q : own_Go tb e below (own_FinW below s Q k n) T g) : ∃ s₂ o, Steps tb e below (T.setTop g) s₂ ∧ s₂.status = .running ∧ Ended s₂ below o ∧ ∃ v L, o = .returned v ∧ Q v s₂.heap L ∧ ReturnedEndW s o s₂ L k n := by
  obtain ⟨t, h1, o, h2, h3, h4⟩ := q
  exact ⟨t, o, h1, h2, h3, h4⟩
theorem own_leaveW {vm0 : Vm} {k0 : Nat} (X : Stand p l e R (s.setVm vm0) m args below meth c T locs cells slots) (hS : s.Since vm0 k0) (hk0 : k0 ≤ T.heap.size) (hlk : meth.locks = false) {v : Option Value} (hv : meth.sig.returnType = none → v = none) (hq : Q v T.heap locs) (hk : cells ≤ k) (hn : slots ≤ n)
    (st : ∀ fs, (∀ (f : JFrame) (acts : List Action), f.method = m → f.locked = none → f.entered = [] → (doReturn e (T.setTop f) acts v).1 = T.setFrames fs) → Steps p.tables e below (T.setTop g) (T.setFrames fs)) :
    own_Go p.tables e below (own_FinW below s Q k n) T g := by
  obtain ⟨fs, hr, hrun, hended, h1, h2, h3, h4⟩ := X.leaveW hS hk0 (v := v) hv hlk
  exact ⟨_, st fs hr, _, hrun, hended, _, _, rfl, hq, h1, h2, h3, h4.mono hk hn⟩
theorem own_retVW {vm0 : Vm} {k0 : Nat} (X : Stand p l e R (s.setVm vm0) m args below meth c T locs cells slots) (hS : s.Since vm0 k0) (hk0 : k0 ≤ T.heap.size) (hx : p.tables.exec = Jvm.exec) (hlk : meth.locks = false) (hret : meth.sig.returnType = none) (hd : decode c.code pc = .ok (.return_, 1)) (hq : Q none T.heap locs) (hk : cells ≤ k) (hn : slots ≤ n) :
    own_Go p.tables e below (own_FinW below s Q k n) T (mkF m pc Ls []) :=
  own_leaveW X hS hk0 hlk (fun _ => rfl) hq hk hn fun _ hr => X.returnOut hx hret hd hr
theorem own_retWW {vm0 : Vm} {k0 : Nat} (X : Stand p l e R (s.setVm vm0) m args below meth c T locs cells slots) (hS : s.Since vm0 k0) (hk0 : k0 ≤ T.heap.size) (hx : p.tables.exec = Jvm.exec) (hlk : meth.locks = false) {w : Value} {t : FieldType} {i : Instr} (hret : meth.sig.returnType = some t) (hn' : narrow t w = w)
    (hi : (i = .ireturn ∧ (t = .int ∨ t = .boolean ∨ t = .byte ∨ t = .char ∨ t = .short) ∧ ∃ z, w = .int z) ∨ (i = .lreturn ∧ t = .long ∧ ∃ z, w = .long z) ∨ (i = .dreturn ∧ t = .double ∧ ∃ z, w = .double z) ∨ (i = .freturn ∧ t = .float ∧ ∃ z, w = .float z) ∨ (i = .areturn ∧ t.isReference = true ∧ w.isRef = true))
    (hd : decode c.code pc = .ok (i, 1)) (hq : Q (some w) T.heap locs) (hk : cells ≤ k) (hn : slots ≤ n) :
    own_Go p.tables e below (own_FinW below s Q k n) T (mkF m pc Ls (w :: rest)) :=
  own_leaveW X hS hk0 hlk (fun h => by rw [hret] at h; cases h) hq hk hn fun _ hr => retOut X hx hret hn' hi hd hr
theorem own_retNW {vm0 : Vm} {k0 : Nat} (X : Stand p l e R (s.setVm vm0) m args below meth c T locs cells slots) (hS : s.Since vm0 k0) (hk0 : k0 ≤ T.heap.size) (hx : p.tables.exec = Jvm.exec) (hlk : meth.locks = false) {z : Int32} {t : FieldType} (hret : meth.sig.returnType = some t) (ht : t = .boolean ∨ t = .byte ∨ t = .char ∨ t = .short) (hd : decode c.code pc = .ok (.ireturn, 1)) (hq : Q (some (.int (nar t z))) T.heap locs) (hk : cells ≤ k) (hn : slots ≤ n) :
    own_Go p.tables e below (own_FinW below s Q k n) T (mkF m pc Ls (.int z :: rest)) :=
  own_leaveW X hS hk0 hlk (fun h => by rw [hret] at h; cases h) hq hk hn fun _ hr => retN X hx hret ht hd hr
theorem own_wz {Z : State} {vm0 vm1 : Vm} {k1 : Nat} (hZ : Z.Warmed39 vm0) (hs : (s.setVm vm0).Since vm1 k1) : Z.Warmed39 (s.setVm vm1).vm := State.Warmed39.trans (t := s.setVm vm0) hZ hs.1
theorem own_wo {vm0 vm1 : Vm} {k1 : Nat} {own : String} {q : ClassId} (h : (s.setVm vm0).vm.findClass own = some q) (hs : (s.setVm vm0).Since vm1 k1) : (s.setVm vm1).vm.findClass own = some q := by
  rw [show (s.setVm vm1).vm = vm1 from rfl, hs.1.alike.findClass]; exact h
theorem own_sta_keep {Z : State} {h h' : Heap} {C f d : String} {v : Value} {ws : List Addr} (F : Sta Z h C f d v) (K : Keep h h' ws) (hs : ∀ x ∈ ws, ∀ cl : Cell, h[x]? = some cl → cl.vm.isStatics = false) : Sta Z h' C f d v := by
  obtain ⟨cf, i, k, f', st, cell, h1, h2, h3, h4, h5, h6, h7⟩ := F
  refine ⟨cf, i, k, f', st, cell, h1, h2, h3, h4, K.2.1 _ _ h5 fun q => ?_, h6, h7⟩
  rw [hs st q cell h5] at h6
  cases h6
theorem own_fold {vm0 vm1 : Vm} (X : Stand p l e R ((s.setVm vm0).setVm vm1) m args below meth c T locs cells slots) : Stand p l e R (s.setVm vm1) m args below meth c T locs cells slots := X
theorem own_hide {k0 : Nat} (X : Stand p l e R s m args below meth c T locs cells slots) (N : Fr k0 locs) : ∃ L : List Loc, Stand p l e R s m args below meth c T L cells slots ∧ Fr k0 L := ⟨_, X, N⟩
theorem own_getD_int (es : List Int32) (i : Nat) : (es.map Value.int).getD i (.int 0) = .int (es.getD i 0) := by
  induction es generalizing i with
  | nil => rfl
  | cons a t ih => cases i with
    | zero => rfl
    | succ j => simpa using ih j
theorem own_getD_long (es : List Int64) (i : Nat) : (es.map Value.long).getD i (.long 0) = .long (es.getD i 0) := by
  induction es generalizing i with
  | nil => rfl
  | cons a t ih => cases i with
    | zero => rfl
    | succ j => simpa using ih j
theorem own_eq_int {args : Array Value} {s : State} {t : Term} {k : Int32} (h : (Cond.eq t (.int k)).value args s none s [] = some true) : t.eval args s none [] s = some (.int k) := by
  obtain ⟨x, y, e1, e2, hk, hk'⟩ := cmp_v (Or.inl h)
  have e3 : y = .int k := by simpa [Term.eval] using e2.symm
  subst e3
  cases x with
  | int z => simp [Cond.value, e1, e2] at h; rw [e1, h]
  | _ => simp [Kin] at hk'
end OwnGo
end Jvm.RoadKit
namespace Jvm.Pilot.@@N@@
open Jvm Jvm.ClassFile Sem Op Lib Jvm.Free Jvm.Stand Jvm.LawKit Jvm.RoadKit Bundle Jvm.Pilot.@@N@@.Jvm.D
def own_z11 : List Int64 := [0, 0, 0, 0, 0, 0, 0, 0, 0, 0, 0]
def own_names : List String := ["CONNECTION_CREATED", "CONNECTION_CLOSED", "BORROW", "WAIT_TIMEOUT", "VALIDATION", "FAILED_VALIDATION", "RETIRED", "RECLAIMED", "STATEMENT_CACHE_HIT", "STATEMENT_CACHE_MISS", "STATEMENT_CACHE_EVICTION"]
/-- what the case says of the enum's constants and of its array of values, at the start -/
def own_G (Z : State) (es : List Addr) : Prop := ∀ i : Fin 11, Sta Z Z.heap "com/example/hot_pool/hotpool/stats/PoolEvent" (own_names.getD i.val "") "Lcom/example/hot_pool/hotpool/stats/PoolEvent;" (.ref (es.getD i.val 0)) ∧ Exa Z Z.heap (es.getD i.val 0) "com/example/hot_pool/hotpool/stats/PoolEvent" ∧ Fld Z Z.heap (es.getD i.val 0) "java/lang/Enum" "ordinal" "I" (.int (Int32.ofNat i.val))
def own_V (Z : State) (va : Addr) (cv : Cell) : Prop := Sta Z Z.heap "com/example/hot_pool/hotpool/stats/PoolEvent" "$VALUES" "[Lcom/example/hot_pool/hotpool/stats/PoolEvent;" (.ref va) ∧ Arr Z Z.heap va cv (.object "com/example/hot_pool/hotpool/stats/PoolEvent") ∧ Exa Z Z.heap va "[Lcom/example/hot_pool/hotpool/stats/PoolEvent;" ∧ FitC Z cv ∧ cv.slots.size = (11 : Int32).toNatClampNeg

theorem own_S0 {Z : State} {es : List Addr} (G : own_G Z es) : Sta Z Z.heap "com/example/hot_pool/hotpool/stats/PoolEvent" "CONNECTION_CREATED" "Lcom/example/hot_pool/hotpool/stats/PoolEvent;" (.ref (es.getD 0 0)) := (G ⟨0, by decide⟩).1
theorem own_E0 {Z : State} {es : List Addr} (G : own_G Z es) : Exa Z Z.heap (es.getD 0 0) "com/example/hot_pool/hotpool/stats/PoolEvent" := (G ⟨0, by decide⟩).2.1
theorem own_O0 {Z : State} {es : List Addr} (G : own_G Z es) : Fld Z Z.heap (es.getD 0 0) "java/lang/Enum" "ordinal" "I" (.int (0 : Int32)) := (G ⟨0, by decide⟩).2.2
theorem own_S1 {Z : State} {es : List Addr} (G : own_G Z es) : Sta Z Z.heap "com/example/hot_pool/hotpool/stats/PoolEvent" "CONNECTION_CLOSED" "Lcom/example/hot_pool/hotpool/stats/PoolEvent;" (.ref (es.getD 1 0)) := (G ⟨1, by decide⟩).1
theorem own_E1 {Z : State} {es : List Addr} (G : own_G Z es) : Exa Z Z.heap (es.getD 1 0) "com/example/hot_pool/hotpool/stats/PoolEvent" := (G ⟨1, by decide⟩).2.1
theorem own_O1 {Z : State} {es : List Addr} (G : own_G Z es) : Fld Z Z.heap (es.getD 1 0) "java/lang/Enum" "ordinal" "I" (.int (1 : Int32)) := (G ⟨1, by decide⟩).2.2
theorem own_S2 {Z : State} {es : List Addr} (G : own_G Z es) : Sta Z Z.heap "com/example/hot_pool/hotpool/stats/PoolEvent" "BORROW" "Lcom/example/hot_pool/hotpool/stats/PoolEvent;" (.ref (es.getD 2 0)) := (G ⟨2, by decide⟩).1
theorem own_E2 {Z : State} {es : List Addr} (G : own_G Z es) : Exa Z Z.heap (es.getD 2 0) "com/example/hot_pool/hotpool/stats/PoolEvent" := (G ⟨2, by decide⟩).2.1
theorem own_O2 {Z : State} {es : List Addr} (G : own_G Z es) : Fld Z Z.heap (es.getD 2 0) "java/lang/Enum" "ordinal" "I" (.int (2 : Int32)) := (G ⟨2, by decide⟩).2.2
theorem own_S3 {Z : State} {es : List Addr} (G : own_G Z es) : Sta Z Z.heap "com/example/hot_pool/hotpool/stats/PoolEvent" "WAIT_TIMEOUT" "Lcom/example/hot_pool/hotpool/stats/PoolEvent;" (.ref (es.getD 3 0)) := (G ⟨3, by decide⟩).1
theorem own_E3 {Z : State} {es : List Addr} (G : own_G Z es) : Exa Z Z.heap (es.getD 3 0) "com/example/hot_pool/hotpool/stats/PoolEvent" := (G ⟨3, by decide⟩).2.1
theorem own_O3 {Z : State} {es : List Addr} (G : own_G Z es) : Fld Z Z.heap (es.getD 3 0) "java/lang/Enum" "ordinal" "I" (.int (3 : Int32)) := (G ⟨3, by decide⟩).2.2
theorem own_S4 {Z : State} {es : List Addr} (G : own_G Z es) : Sta Z Z.heap "com/example/hot_pool/hotpool/stats/PoolEvent" "VALIDATION" "Lcom/example/hot_pool/hotpool/stats/PoolEvent;" (.ref (es.getD 4 0)) := (G ⟨4, by decide⟩).1
theorem own_E4 {Z : State} {es : List Addr} (G : own_G Z es) : Exa Z Z.heap (es.getD 4 0) "com/example/hot_pool/hotpool/stats/PoolEvent" := (G ⟨4, by decide⟩).2.1
theorem own_O4 {Z : State} {es : List Addr} (G : own_G Z es) : Fld Z Z.heap (es.getD 4 0) "java/lang/Enum" "ordinal" "I" (.int (4 : Int32)) := (G ⟨4, by decide⟩).2.2
theorem own_S5 {Z : State} {es : List Addr} (G : own_G Z es) : Sta Z Z.heap "com/example/hot_pool/hotpool/stats/PoolEvent" "FAILED_VALIDATION" "Lcom/example/hot_pool/hotpool/stats/PoolEvent;" (.ref (es.getD 5 0)) := (G ⟨5, by decide⟩).1
theorem own_E5 {Z : State} {es : List Addr} (G : own_G Z es) : Exa Z Z.heap (es.getD 5 0) "com/example/hot_pool/hotpool/stats/PoolEvent" := (G ⟨5, by decide⟩).2.1
theorem own_O5 {Z : State} {es : List Addr} (G : own_G Z es) : Fld Z Z.heap (es.getD 5 0) "java/lang/Enum" "ordinal" "I" (.int (5 : Int32)) := (G ⟨5, by decide⟩).2.2
theorem own_S6 {Z : State} {es : List Addr} (G : own_G Z es) : Sta Z Z.heap "com/example/hot_pool/hotpool/stats/PoolEvent" "RETIRED" "Lcom/example/hot_pool/hotpool/stats/PoolEvent;" (.ref (es.getD 6 0)) := (G ⟨6, by decide⟩).1
theorem own_E6 {Z : State} {es : List Addr} (G : own_G Z es) : Exa Z Z.heap (es.getD 6 0) "com/example/hot_pool/hotpool/stats/PoolEvent" := (G ⟨6, by decide⟩).2.1
theorem own_O6 {Z : State} {es : List Addr} (G : own_G Z es) : Fld Z Z.heap (es.getD 6 0) "java/lang/Enum" "ordinal" "I" (.int (6 : Int32)) := (G ⟨6, by decide⟩).2.2
theorem own_S7 {Z : State} {es : List Addr} (G : own_G Z es) : Sta Z Z.heap "com/example/hot_pool/hotpool/stats/PoolEvent" "RECLAIMED" "Lcom/example/hot_pool/hotpool/stats/PoolEvent;" (.ref (es.getD 7 0)) := (G ⟨7, by decide⟩).1
theorem own_E7 {Z : State} {es : List Addr} (G : own_G Z es) : Exa Z Z.heap (es.getD 7 0) "com/example/hot_pool/hotpool/stats/PoolEvent" := (G ⟨7, by decide⟩).2.1
theorem own_O7 {Z : State} {es : List Addr} (G : own_G Z es) : Fld Z Z.heap (es.getD 7 0) "java/lang/Enum" "ordinal" "I" (.int (7 : Int32)) := (G ⟨7, by decide⟩).2.2
theorem own_S8 {Z : State} {es : List Addr} (G : own_G Z es) : Sta Z Z.heap "com/example/hot_pool/hotpool/stats/PoolEvent" "STATEMENT_CACHE_HIT" "Lcom/example/hot_pool/hotpool/stats/PoolEvent;" (.ref (es.getD 8 0)) := (G ⟨8, by decide⟩).1
theorem own_E8 {Z : State} {es : List Addr} (G : own_G Z es) : Exa Z Z.heap (es.getD 8 0) "com/example/hot_pool/hotpool/stats/PoolEvent" := (G ⟨8, by decide⟩).2.1
theorem own_O8 {Z : State} {es : List Addr} (G : own_G Z es) : Fld Z Z.heap (es.getD 8 0) "java/lang/Enum" "ordinal" "I" (.int (8 : Int32)) := (G ⟨8, by decide⟩).2.2
theorem own_S9 {Z : State} {es : List Addr} (G : own_G Z es) : Sta Z Z.heap "com/example/hot_pool/hotpool/stats/PoolEvent" "STATEMENT_CACHE_MISS" "Lcom/example/hot_pool/hotpool/stats/PoolEvent;" (.ref (es.getD 9 0)) := (G ⟨9, by decide⟩).1
theorem own_E9 {Z : State} {es : List Addr} (G : own_G Z es) : Exa Z Z.heap (es.getD 9 0) "com/example/hot_pool/hotpool/stats/PoolEvent" := (G ⟨9, by decide⟩).2.1
theorem own_O9 {Z : State} {es : List Addr} (G : own_G Z es) : Fld Z Z.heap (es.getD 9 0) "java/lang/Enum" "ordinal" "I" (.int (9 : Int32)) := (G ⟨9, by decide⟩).2.2
theorem own_S10 {Z : State} {es : List Addr} (G : own_G Z es) : Sta Z Z.heap "com/example/hot_pool/hotpool/stats/PoolEvent" "STATEMENT_CACHE_EVICTION" "Lcom/example/hot_pool/hotpool/stats/PoolEvent;" (.ref (es.getD 10 0)) := (G ⟨10, by decide⟩).1
theorem own_E10 {Z : State} {es : List Addr} (G : own_G Z es) : Exa Z Z.heap (es.getD 10 0) "com/example/hot_pool/hotpool/stats/PoolEvent" := (G ⟨10, by decide⟩).2.1
theorem own_O10 {Z : State} {es : List Addr} (G : own_G Z es) : Fld Z Z.heap (es.getD 10 0) "java/lang/Enum" "ordinal" "I" (.int (10 : Int32)) := (G ⟨10, by decide⟩).2.2
theorem own_zg (i : Nat) : own_z11.getD i 0 = 0 := by
  match i with
  | 0 | 1 | 2 | 3 | 4 | 5 | 6 | 7 | 8 | 9 | 10 => rfl
  | (n + 11) => rfl
theorem own_setJ {Z : State} {h h' : Heap} {a : Addr} {k : ClassId} {z j : Int32} {xs : List Int64} {x : Int64} {cl : Cell} (A : Arr Z h a cl .long) (q1 : cl.cls = k) (S : cl.slots.size = z.toNatClampNeg) (q3 : ¬ z < 0) (H : Has cl (xs.map Value.long) (.long 0))
    (G : ∀ i, i < cl.slots.size → fits .long ((xs.map Value.long).getD i (.long 0)) = true) (W : Wr h h' a j.toNatClampNeg (.long x)) (hl : j.toNatClampNeg < xs.length) : Arv Z h' a k .long z ((xs.set j.toNatClampNeg x).map Value.long) (.long 0) := by
  have q := Arv.set A q1 S q3 H G rfl W j.toNatClampNeg rfl (by simpa using hl)
  rw [List.map_set]
  exact q
theorem own_set_id (xs : List Int64) (i : Nat) (hi : i < xs.length) : xs.set i (xs.getD i 0 + own_z11.getD i 0) = xs := by
  rw [own_zg, Int64.add_zero]
  apply List.ext_getElem (by simp)
  intro n h1 h2
  by_cases q : i = n
  · subst q; simp [List.getD_eq_getElem?_getD, List.getElem?_eq_getElem hi]
  · simp [List.getElem_set_ne q]
theorem own_evl (es : List Addr) : ∀ j, j < 11 → ([.ref (es.getD 0 0), .ref (es.getD 1 0), .ref (es.getD 2 0), .ref (es.getD 3 0), .ref (es.getD 4 0), .ref (es.getD 5 0), .ref (es.getD 6 0), .ref (es.getD 7 0), .ref (es.getD 8 0), .ref (es.getD 9 0), .ref (es.getD 10 0)] : List Value).getD j .null = .ref (es.getD j 0) := by
  intro j hj
  match j, hj with
  | 0, _ | 1, _ | 2, _ | 3, _ | 4, _ | 5, _ | 6, _ | 7, _ | 8, _ | 9, _ | 10, _ => rfl
  | (n + 11), h => exact absurd h (by omega)
theorem own_nat {i : Int32} (h : ¬ i < 0 ∧ i < 11) : i.toNatClampNeg < 11 ∧ Int32.ofNat i.toNatClampNeg = i := by
  have q := nat_of h.1
  have h1 := h.1; have h2 := h.2
  rw [Int32.lt_iff_toInt_lt] at h1 h2
  simp only [Int32.reduceToInt] at h1 h2
  refine ⟨by omega, ?_⟩
  apply Int32.toInt_inj.mp
  rw [Int32.toInt_ofNat_of_lt (by omega)]
  omega
theorem own_inj {i j : Int32} (h : ¬ i < 0 ∧ i < 11) (q : ¬ j < 0 ∧ j < 11) (e : i.toNatClampNeg = j.toNatClampNeg) : i = j := by
  rw [← (own_nat h).2, ← (own_nat q).2, e]
theorem own_Gat {Z : State} {es : List Addr} (G : own_G Z es) {i : Int32} (h : ¬ i < 0 ∧ i < 11) : Exa Z Z.heap (es.getD i.toNatClampNeg 0) "com/example/hot_pool/hotpool/stats/PoolEvent" ∧ Fld Z Z.heap (es.getD i.toNatClampNeg 0) "java/lang/Enum" "ordinal" "I" (.int i) := by
  obtain ⟨h1, h2⟩ := own_nat h
  have q := G ⟨_, h1⟩
  refine ⟨q.2.1, ?_⟩
  have q2 := q.2.2
  dsimp only at q2
  rw [h2] at q2
  exact q2
theorem own_rem (x : Int32) : ¬ ((x &&& (2147483647 : Int32)) % (11 : Int32)) < 0 ∧ ((x &&& (2147483647 : Int32)) % (11 : Int32)) < (11 : Int32) := by
  have h1 := c_and x (2147483647 : Int32) (by decide)
  have h2 := (c_irem (x &&& (2147483647 : Int32)) (11 : Int32) 11 (by decide)).1 h1.1
  constructor
  · rw [Int32.lt_iff_toInt_lt]; simp only [Int32.reduceToInt]; omega
  · rw [Int32.lt_iff_toInt_lt]; simp only [Int32.reduceToInt]; omega

/-! body 5: Enum.ordinal -/
theorem d5_0 : decode jdk_37_method_2_code 0 = .ok (.aload_n 0, 1) := by decide +kernel
theorem d5_1 : decode jdk_37_method_2_code 1 = .ok (.getfield 7, 3) := by decide +kernel
theorem d5_4 : decode jdk_37_method_2_code 4 = .ok (.ireturn, 1) := by decide +kernel
theorem pn_java_lang_Enum : plainName "java/lang/Enum" = true := by first | (simp [plainName, overriddenIn]; done) | decide +kernel
theorem ef_5 (m : MethodId) (x0 : Addr) : entryFrame m #[(.ref x0)] 1 = mkF m 0 #[.val (.ref x0)] [] := by first | (simp [entryFrame, mkF, argsToLocals, Value.category]; done) | rfl
def Q5 (Z : State) (r0 : Addr) (oo : Int32) (h0 : Heap) (n0 : Nat) (v : Option Value) (h : Heap) (L : List Loc) : Prop := v = some (.int oo) ∧ Fr n0 L ∧ h = h0
set_option maxRecDepth 65536 in
set_option maxHeartbeats 40000000 in
theorem rm5 (l : Launch) (Z : State) (a0 : Array Value) (hw : ∀ d ∈ tables_1, d.before a0 Z = true) (ws : List Jvm.Cond) (r0 : Addr) (oo : Int32) (h0 : Heap) (n0 : Nat) (Z0 : n0 ≤ h0.size) (F_ordinal_r0 : Fld Z h0 r0 "java/lang/Enum" "ordinal" "I" (.int oo)) :
    MetFree l (⟨"java/lang/Enum", "ordinal", "()I"⟩ : MethodName) (head1 (Jvm.Cond.code (⟨"java/lang/Enum", "ordinal", "()I"⟩ : MethodName) jdk_37_method_2_code 1 (some .int) :: ws) ({ frames := 0, cells := 0, slots := 0, locals := 0 } : Room)) (fun a U => a = #[(.ref r0)] ∧ Z.Warmed39 U.vm ∧ U.heap = h0) (fun _ _ _ _ _ => True) (fun _ U o U' => ∃ v L, o = .returned v ∧ Q5 Z r0 oo h0 n0 v U'.heap L ∧ FrameEnd U o U' L ({ frames := 0, cells := 0, slots := 0, locals := 0 } : Room).cells ({ frames := 0, cells := 0, slots := 0, locals := 0 } : Room).slots) := by
  refine MetFree.of_bodySF (plainFor_of_name pn_java_lang_Enum) hisR ?_
  intro p e s m args below meth c s₁ Bd hml0 hP hK
  obtain ⟨rfl, hZ, hh⟩ := hP
  have hx := Bd.exec
  have hby := Bd.bytes
  have hlk := Bd.notSynchronized
  have hrt := Bd.returns
  have hml : c.maxLocals = 1 := hml0
  have hown : s.vm.findClass "java/lang/Enum" = some m.cls := findClass_of_methodNamed Bd.named
  have hnm := (name_of_methodNamed Bd.named Bd.method).1
  have X0 : Stand p l e ({ frames := 0, cells := 0, slots := 0, locals := 0 } : Room) s m #[(.ref r0)] below meth c s₁ [] 0 0 := Stand.of_body Bd
  have e0 : s₁.heap = h0 := by rw [← hh, Bd.state]; rfl
  have N0 := Fr.nil n0
  have K0 := Keep.refl h0 []
  refine own_out (Q := Q5 Z r0 oo h0 n0) ?_
  refine own_in (ef_5 m r0) ?_
  show own_Go _ _ _ _ s₁ (mkF m 0 #[.val (.ref r0)] [])
  refine own_st (fun t k => XS.aloadN X0.here hx rfl (hb hby d5_0) rfl rfl k) ?_
  show own_Go _ _ _ _ s₁ (mkF m 1 #[.val (.ref r0)] [(.ref r0)])
  obtain ⟨T1, X1, e1, st1⟩ := getF X0 hx hZ hown (host := "") (Or.inl (hw _ (List.mem_of_getElem? (i := 66) rfl))) Via.refl e0 F_ordinal_r0 (g := (mkF m 1 #[.val (.ref r0)] [(.ref r0)])) rfl rfl (hb hby d5_1)
  refine own_st st1 ?_
  show own_Go _ _ _ _ T1 (mkF m 4 #[.val (.ref r0)] [(.int oo)])
  exact own_retI X1 hx hlk hrt (hb hby d5_4) ⟨rfl, N0, e1⟩ (by decide) (by decide)
/-! body 3: PoolEvent.values -/
theorem d3_0 : decode prog_67_method_1_code 0 = .ok (.getstatic 37, 3) := by decide +kernel
theorem d3_3 : decode prog_67_method_1_code 3 = .ok (.invokevirtual 41, 3) := by decide +kernel
theorem d3_6 : decode prog_67_method_1_code 6 = .ok (.checkcast 42, 3) := by decide +kernel
theorem d3_9 : decode prog_67_method_1_code 9 = .ok (.areturn, 1) := by decide +kernel
theorem pn_com_example_hot_pool_hotpool_stats_PoolEvent : plainName "com/example/hot_pool/hotpool/stats/PoolEvent" = true := by first | (simp [plainName, overriddenIn]; done) | decide +kernel
theorem ef_3 (m : MethodId)  : entryFrame m #[] 0 = mkF m 0 #[] [] := by first | (simp [entryFrame, mkF, argsToLocals, Value.category]; done) | rfl
def Q3 (Z : State) (va : Addr) (cv : Cell) (h0 : Heap) (n0 : Nat) (v : Option Value) (h : Heap) (L : List Loc) : Prop := ∃ b : Addr, v = some (.ref b) ∧ Fr n0 L ∧ Keep h0 h [] ∧ h0.size ≤ b ∧ Arr Z h b (cloneOf cv) (.object "com/example/hot_pool/hotpool/stats/PoolEvent")
set_option maxRecDepth 65536 in
set_option maxHeartbeats 40000000 in
theorem rm3 (l : Launch) (Z : State) (a0 : Array Value) (hw : ∀ d ∈ tables_1, d.before a0 Z = true) (ws : List Jvm.Cond) (va : Addr) (cv : Cell) (h0 : Heap) (n0 : Nat) (Z0 : n0 ≤ h0.size) (hV : own_V Z va cv) (O0 : Old Z n0 h0) :
    MetFree l (⟨"com/example/hot_pool/hotpool/stats/PoolEvent", "values", "()[Lcom/example/hot_pool/hotpool/stats/PoolEvent;"⟩ : MethodName) (head1 (Jvm.Cond.code (⟨"com/example/hot_pool/hotpool/stats/PoolEvent", "values", "()[Lcom/example/hot_pool/hotpool/stats/PoolEvent;"⟩ : MethodName) prog_67_method_1_code 0 (some (.array (.object "com/example/hot_pool/hotpool/stats/PoolEvent"))) :: ws) ({ frames := 1, cells := 1, slots := 11, locals := 14 } : Room)) (fun a U => a = #[] ∧ Z.Warmed39 U.vm ∧ U.heap = h0) (fun _ _ _ _ _ => True) (fun _ U o U' => ∃ v L, o = .returned v ∧ Q3 Z va cv h0 n0 v U'.heap L ∧ FrameEnd U o U' L ({ frames := 1, cells := 1, slots := 11, locals := 14 } : Room).cells ({ frames := 1, cells := 1, slots := 11, locals := 14 } : Room).slots) := by
  refine MetFree.of_bodySF (plainFor_of_name pn_com_example_hot_pool_hotpool_stats_PoolEvent) hisR ?_
  intro p e s m args below meth c s₁ Bd hml0 hP hK
  obtain ⟨rfl, hZ, hh⟩ := hP
  have hx := Bd.exec
  have hby := Bd.bytes
  have hlk := Bd.notSynchronized
  have hrt := Bd.returns
  have hml : c.maxLocals = 0 := hml0
  have hown : s.vm.findClass "com/example/hot_pool/hotpool/stats/PoolEvent" = some m.cls := findClass_of_methodNamed Bd.named
  have hnm := (name_of_methodNamed Bd.named Bd.method).1
  have X0 : Stand p l e ({ frames := 1, cells := 1, slots := 11, locals := 14 } : Room) s m #[] below meth c s₁ [] 0 0 := Stand.of_body Bd
  have e0 : s₁.heap = h0 := by rw [← hh, Bd.state]; rfl
  have N0 := Fr.nil n0
  have K0 := Keep.refl h0 []
  refine own_out (Q := Q3 Z va cv h0 n0) ?_
  refine own_in (ef_3 m ) ?_
  show own_Go _ _ _ _ s₁ (mkF m 0 #[] [])
  obtain ⟨T1, X1, e1, st1⟩ := getS2 X0 hx hZ hown (host := "") (Or.inl (hw _ (List.mem_of_getElem? (i := 39) rfl))) Via.refl e0 (hV.1.ext O0.2) (g := (mkF m 0 #[] [])) rfl (hb hby d3_0)
  refine own_st st1 ?_
  show own_Go _ _ _ _ T1 (mkF m 3 #[] [(.ref va)])
  obtain ⟨T2, h2, X2, e2, E2, A2, Ex2, st2⟩ := cloneA X1 hx hZ hown (hw _ (List.mem_of_getElem? (i := 41) rfl)) (hw _ (List.mem_of_getElem? (i := 42) rfl)) (hw _ (List.mem_of_getElem? (i := 46) rfl)) (hw _ (List.mem_of_getElem? (i := 44) rfl)) (hw _ (List.mem_of_getElem? (i := 45) rfl)) (hw _ (List.mem_of_getElem? (i := 47) rfl)) e1 (hV.2.1.ext O0.2) (hV.2.2.1.ext O0.2) hV.2.2.2.1 (g := (mkF m 3 #[] [(.ref va)])) rfl (by rw [hml]; rfl) rfl (hb hby d3_3) (by decide) (W := 0) (by show 2 * 0 + _ ≤ _; exact Nat.le_of_eq rfl) (by decide) (cap := 11) (Nat.le_of_eq hV.2.2.2.2) (by decide) (by decide)
  obtain ⟨b2, g2⟩ : ∃ z, z = h0.size := ⟨_, rfl⟩
  rw [← g2] at A2 Ex2 st2
  have sz_b2 : h0.size ≤ b2 := Nat.le_trans K0.1 (Nat.le_of_eq g2.symm)
  have g_b2 : n0 ≤ b2 := Nat.le_trans Z0 sz_b2
  refine own_st st2 ?_
  show own_Go _ _ _ _ T2 (mkF m 6 #[] [(.ref b2)])
  obtain ⟨T3, X3, e3, st3⟩ := castY X2 hx hZ hown (hw _ (List.mem_of_getElem? (i := 49) rfl)) e2 (Ins.self Ex2) (g := (mkF m 6 #[] [(.ref b2)])) rfl rfl (hb hby d3_6)
  refine own_st st3 ?_
  show own_Go _ _ _ _ T3 (mkF m 9 #[] [(.ref b2)])
  have K0_4 := (K0.ext E2)
  exact own_retR X3 hx hlk hrt rfl rfl rfl (hb hby d3_9) (by rw [e3]; exact ⟨b2, rfl, N0, K0_4, sz_b2, A2⟩) (by decide) (by decide)
theorem pd_149710 : parseMethodDescriptor "()[Lcom/example/hot_pool/hotpool/stats/PoolEvent;" = some ⟨[], some (.array (.object "com/example/hot_pool/hotpool/stats/PoolEvent"))⟩ := by decide +kernel
/-! body 1: PoolCounts.<init> -/
theorem d1_0 : decode prog_65_method_1_code 0 = .ok (.aload_n 0, 1) := by decide +kernel
theorem d1_1 : decode prog_65_method_1_code 1 = .ok (.invokespecial 1, 3) := by decide +kernel
theorem d1_4 : decode prog_65_method_1_code 4 = .ok (.aload_n 0, 1) := by decide +kernel
theorem d1_5 : decode prog_65_method_1_code 5 = .ok (.invokestatic 7, 3) := by decide +kernel
theorem d1_8 : decode prog_65_method_1_code 8 = .ok (.arraylength, 1) := by decide +kernel
theorem d1_9 : decode prog_65_method_1_code 9 = .ok (.newarray .long, 2) := by decide +kernel
theorem d1_11 : decode prog_65_method_1_code 11 = .ok (.putfield 13, 3) := by decide +kernel
theorem d1_14 : decode prog_65_method_1_code 14 = .ok (.return_, 1) := by decide +kernel
theorem pn_com_example_hot_pool_hotpool_stats_PoolCounts : plainName "com/example/hot_pool/hotpool/stats/PoolCounts" = true := by first | (simp [plainName, overriddenIn]; done) | decide +kernel
theorem ef_1 (m : MethodId) (x0 : Addr) : entryFrame m #[(.ref x0)] 1 = mkF m 0 #[.val (.ref x0)] [] := by first | (simp [entryFrame, mkF, argsToLocals, Value.category]; done) | rfl
def Q1 (Z : State) (r0 : Addr) (va : Addr) (cv : Cell) (h0 : Heap) (n0 : Nat) (v : Option Value) (h : Heap) (L : List Loc) : Prop := v = none ∧ Fr n0 L ∧ Keep h0 h [r0] ∧ ∃ (a : Addr) (k : ClassId), h0.size ≤ a ∧ Fld Z h r0 "com/example/hot_pool/hotpool/stats/PoolCounts" "counts" "[J" (.ref a) ∧ Exa Z h a "[J" ∧ Arv Z h a k .long (11 : Int32) (own_z11.map Value.long) (.long 0)
set_option maxRecDepth 65536 in
set_option maxHeartbeats 40000000 in
theorem rm1 (l : Launch) (Z : State) (a0 : Array Value) (hw : ∀ d ∈ tables_1, d.before a0 Z = true) (ws : List Jvm.Cond) (r0 : Addr) (va : Addr) (cv : Cell) (h0 : Heap) (n0 : Nat) (Z0 : n0 ≤ h0.size) (E_r0 : Exa Z h0 r0 "com/example/hot_pool/hotpool/stats/PoolCounts") (F_counts_r0 : Fld Z h0 r0 "com/example/hot_pool/hotpool/stats/PoolCounts" "counts" "[J" .null) (g_r0 : n0 ≤ r0) (hV : own_V Z va cv) (O0 : Old Z n0 h0) :
    MetFree l (⟨"com/example/hot_pool/hotpool/stats/PoolCounts", "<init>", "()V"⟩ : MethodName) (head1 (Jvm.Cond.code (⟨"com/example/hot_pool/hotpool/stats/PoolCounts", "<init>", "()V"⟩ : MethodName) prog_65_method_1_code 1 none :: ws) ({ frames := 2, cells := 2, slots := 22, locals := 26 } : Room)) (fun a U => a = #[(.ref r0)] ∧ Z.Warmed39 U.vm ∧ U.heap = h0) (fun _ _ _ _ _ => True) (fun _ U o U' => ∃ v L, o = .returned v ∧ Q1 Z r0 va cv h0 n0 v U'.heap L ∧ FrameEnd U o U' L ({ frames := 2, cells := 2, slots := 22, locals := 26 } : Room).cells ({ frames := 2, cells := 2, slots := 22, locals := 26 } : Room).slots) := by
  refine MetFree.of_bodySF (plainFor_of_name pn_com_example_hot_pool_hotpool_stats_PoolCounts) hisR ?_
  intro p e s m args below meth c s₁ Bd hml0 hP hK
  obtain ⟨rfl, hZ, hh⟩ := hP
  have hx := Bd.exec
  have hby := Bd.bytes
  have hlk := Bd.notSynchronized
  have hrt := Bd.returns
  have hml : c.maxLocals = 1 := hml0
  have hown : s.vm.findClass "com/example/hot_pool/hotpool/stats/PoolCounts" = some m.cls := findClass_of_methodNamed Bd.named
  have hnm := (name_of_methodNamed Bd.named Bd.method).1
  have X0 : Stand p l e ({ frames := 2, cells := 2, slots := 22, locals := 26 } : Room) s m #[(.ref r0)] below meth c s₁ [] 0 0 := Stand.of_body Bd
  have e0 : s₁.heap = h0 := by rw [← hh, Bd.state]; rfl
  have N0 := Fr.nil n0
  have K0 := Keep.refl h0 [r0]
  refine own_out (Q := Q1 Z r0 va cv h0 n0) ?_
  refine own_in (ef_1 m r0) ?_
  show own_Go _ _ _ _ s₁ (mkF m 0 #[.val (.ref r0)] [])
  refine own_st (fun t k => XS.aloadN X0.here hx rfl (hb hby d1_0) rfl rfl k) ?_
  show own_Go _ _ _ _ s₁ (mkF m 1 #[.val (.ref r0)] [(.ref r0)])
  obtain ⟨T1, X1, e1, st1⟩ := initO X0 hx hZ hown (hw _ (List.mem_of_getElem? (i := 33) rfl)) (hw _ (List.mem_of_getElem? (i := 34) rfl)) (hw _ (List.mem_of_getElem? (i := 35) rfl)) e0 (g := (mkF m 1 #[.val (.ref r0)] [(.ref r0)])) rfl (by rw [hml]; rfl) rfl (hb hby d1_1) (by decide) (W := 0) (by show 2 * 0 + _ ≤ _; exact Nat.le_of_eq rfl) (by decide)
  refine own_st st1 ?_
  show own_Go _ _ _ _ T1 (mkF m 4 #[.val (.ref r0)] [])
  refine own_st (fun t k => XS.aloadN X1.here hx rfl (hb hby d1_4) rfl rfl k) ?_
  show own_Go _ _ _ _ T1 (mkF m 5 #[.val (.ref r0)] [(.ref r0)])
  obtain ⟨_, _, ⟨T2, L2, k2, n2⟩, -, X2, ⟨Lc2, hQ2, l2, y2, z2⟩, st2⟩ := Jvm.LawKit.callS X1 hx (y := (⟨"com/example/hot_pool/hotpool/stats/PoolEvent", "values", "()[Lcom/example/hot_pool/hotpool/stats/PoolEvent;"⟩ : MethodName)) hown (mvT hZ (hw _ (List.mem_of_getElem? (i := 36) rfl))) (mvT hZ (hw _ (List.mem_of_getElem? (i := 37) rfl))) (mvT hZ (hw _ (List.mem_of_getElem? (i := 3) rfl))) (mvT hZ (hw _ (List.mem_of_getElem? (i := 38) rfl))) (by decide) (backOf (W := 1) (rm3 l Z a0 hw [] va cv  h0 n0 Z0 hV O0) hZ (hw _ (List.mem_of_getElem? (i := 38) rfl)) (hw _ (List.mem_of_getElem? (i := 3) rfl)) (by decide) (by decide)) (g := (mkF m 5 #[.val (.ref r0)] [(.ref r0)])) rfl (by rw [hml]; rfl) (argsL := []) (rest := [(.ref r0)]) (lenOf pd_149710 rfl) rfl (by show 2 * 0 + _ ≤ _; exact Nat.le_of_eq rfl) (hb hby d1_5) (fun _ _ => ⟨rfl, e1, (by decide : 0 + 1 ≤ _), (by decide : 0 + 11 ≤ _)⟩)
  dsimp only [Pt.U, Pt.locs, Pt.cells, Pt.slots] at X2 l2 y2 z2 st2 hQ2
  subst l2 y2 z2
  obtain ⟨b2, rfl, N2q, K2, sy2, A2⟩ := hQ2
  have sz_b2 : h0.size ≤ b2 := Nat.le_trans K0.1 sy2
  have g_b2 : n0 ≤ b2 := Nat.le_trans Z0 sz_b2
  have ne_r0_b2 : r0 ≠ b2 := Nat.ne_of_lt (Nat.lt_of_lt_of_le E_r0.lt sy2)
  obtain ⟨_, X2, N2⟩ := own_hide X2 (Fr.app N0 N2q)
  refine own_st st2 ?_
  show own_Go _ _ _ _ T2 (mkF m 8 #[.val (.ref r0)] [(.ref b2), (.ref r0)])
  refine own_st (X2.arraylength hx A2.1 (State.isArrayOf_alike hZ.alike A2.2.1) (g := (mkF m 8 #[.val (.ref r0)] [(.ref b2), (.ref r0)])) rfl rfl (hb hby d1_8)) ?_
  rw [len_of (z := (11 : Int32)) (c := cloneOf cv) hV.2.2.2.2 (by decide)]
  show own_Go _ _ _ _ T2 (mkF m 9 #[.val (.ref r0)] [(.int (11 : Int32)), (.ref r0)])
  have K0_3 := (K0.trans K2 (all0))
  obtain ⟨T4, h4, k4, X4, e4, E4, A4, Ex4, st4⟩ := newPE X2 hx hZ (hw _ (List.mem_of_getElem? (i := 51) rfl)) rfl (g := (mkF m 9 #[.val (.ref r0)] [(.int (11 : Int32)), (.ref r0)])) rfl (hb hby d1_9) rfl (by decide) (cap := 11) (by decide) (by decide) (by decide) (by decide) (ad := "[J") (by decide)
  obtain ⟨b4, g4⟩ : ∃ z, z = T2.heap.size := ⟨_, rfl⟩
  rw [← g4] at A4 Ex4 st4
  have sz_b4 : h0.size ≤ b4 := Nat.le_trans K0_3.1 (Nat.le_of_eq g4.symm)
  have g_b4 : n0 ≤ b4 := Nat.le_trans Z0 sz_b4
  have E_r0_5 := (E_r0.keep K2)
  have ne_r0_b4 : r0 ≠ b4 := Nat.ne_of_lt (Nat.lt_of_lt_of_le E_r0_5.lt (Nat.le_of_eq g4.symm))
  have V4 : Arv Z h4 b4 k4 .long (11 : Int32) (own_z11.map Value.long) (.long 0) := (Arv.new A4 (by decide)).pad (pad_rep [] (.long (0 : Int64)) 11)
  refine own_st st4 ?_
  show own_Go _ _ _ _ T4 (mkF m 11 #[.val (.ref r0)] [(.ref b4), (.ref r0)])
  have F_counts_r0_6 := ((F_counts_r0.keep K2 nin0).ext E4)
  have E_r0_7 := (E_r0_5.ext E4)
  have K0_8 := (K0_3.ext E4)
  obtain ⟨T9, h9, X9, e9, W9, st9⟩ := putF X4 hx hZ hown (host := "") (Or.inl (hw _ (List.mem_of_getElem? (i := 52) rfl))) Via.refl e4 F_counts_r0_6 E_r0_7 (Or.inr ⟨(hw _ (List.mem_of_getElem? (i := 53) rfl)), rfl, hnm⟩) (hw _ (List.mem_of_getElem? (i := 28) rfl)) (ty := (.array .long)) (by decide) rfl rfl (g := (mkF m 11 #[.val (.ref r0)] [(.ref b4), (.ref r0)])) rfl rfl (hb hby d1_11)
  have F9 := F_counts_r0_6.same W9
  obtain ⟨_, X9, N9⟩ := own_hide X9 (Fr.snoc X9 N2 g_r0)
  refine own_st st9 ?_
  show own_Go _ _ _ _ T9 (mkF m 14 #[.val (.ref r0)] [])
  have K0_10 := (K0_8.wr W9 (Or.inl (List.mem_of_getElem? (i := 0) rfl)))
  have Ex4_11 := (Ex4.wr W9)
  have V4_12 := (V4.other W9 (Ne.symm ne_r0_b4))
  exact own_retV X9 hx hlk hrt (hb hby d1_14) (by rw [e9]; exact ⟨rfl, N9, K0_10, b4, k4, sz_b4, F9, Ex4_11, V4_12⟩) (by decide) (by decide)
theorem pd__28_29I : parseMethodDescriptor "()I" = some ⟨[], some .int⟩ := by decide +kernel
/-! body 4: PoolCounts.add -/
theorem d4_0 : decode prog_65_method_3_code 0 = .ok (.aload_n 0, 1) := by decide +kernel
theorem d4_1 : decode prog_65_method_3_code 1 = .ok (.getfield 13, 3) := by decide +kernel
theorem d4_4 : decode prog_65_method_3_code 4 = .ok (.aload_n 1, 1) := by decide +kernel
theorem d4_5 : decode prog_65_method_3_code 5 = .ok (.invokevirtual 23, 3) := by decide +kernel
theorem d4_8 : decode prog_65_method_3_code 8 = .ok (.dup2, 1) := by decide +kernel
theorem d4_9 : decode prog_65_method_3_code 9 = .ok (.laload, 1) := by decide +kernel
theorem d4_10 : decode prog_65_method_3_code 10 = .ok (.lload_n 2, 1) := by decide +kernel
theorem d4_11 : decode prog_65_method_3_code 11 = .ok (.ladd, 1) := by decide +kernel
theorem d4_12 : decode prog_65_method_3_code 12 = .ok (.lastore, 1) := by decide +kernel
theorem d4_13 : decode prog_65_method_3_code 13 = .ok (.return_, 1) := by decide +kernel
theorem ef_4 (m : MethodId) (x0 : Addr) (x1 : Addr) (x2 : Int64) : entryFrame m #[(.ref x0), (.ref x1), (.long x2)] 4 = mkF m 0 #[.val (.ref x0), .val (.ref x1), .val (.long x2), .second] [] := by first | (simp [entryFrame, mkF, argsToLocals, Value.category]; done) | rfl
def Q4 (Z : State) (r0 : Addr) (r1 : Addr) (q2 : Int64) (aa : Addr) (ka : ClassId) (xs : List Int64) (oo : Int32) (h0 : Heap) (n0 : Nat) (v : Option Value) (h : Heap) (L : List Loc) : Prop := v = none ∧ Fr n0 L ∧ Keep h0 h [aa] ∧ Arv Z h aa ka .long (11 : Int32) ((xs.set (oo).toNatClampNeg (xs.getD (oo).toNatClampNeg 0 + q2)).map Value.long) (.long 0)
set_option maxRecDepth 65536 in
set_option maxHeartbeats 40000000 in
theorem rm4 (l : Launch) (Z : State) (a0 : Array Value) (hw : ∀ d ∈ tables_1, d.before a0 Z = true) (ws : List Jvm.Cond) (r0 : Addr) (r1 : Addr) (q2 : Int64) (aa : Addr) (ka : ClassId) (xs : List Int64) (oo : Int32) (h0 : Heap) (n0 : Nat) (Z0 : n0 ≤ h0.size) (F_counts_r0 : Fld Z h0 r0 "com/example/hot_pool/hotpool/stats/PoolCounts" "counts" "[J" (.ref aa)) (V_aa : Arv Z h0 aa ka .long (11 : Int32) (xs.map Value.long) (.long 0)) (hxs : xs.length = 11) (E_r1 : Exa Z h0 r1 "com/example/hot_pool/hotpool/stats/PoolEvent") (Fo : Fld Z h0 r1 "java/lang/Enum" "ordinal" "I" (.int oo)) (ho : ¬ oo < 0 ∧ oo < 11) (g_aa : n0 ≤ aa) (O0 : Old Z n0 h0) :
    MetFree l (⟨"com/example/hot_pool/hotpool/stats/PoolCounts", "add", "(Lcom/example/hot_pool/hotpool/stats/PoolEvent;J)V"⟩ : MethodName) (head1 (Jvm.Cond.code (⟨"com/example/hot_pool/hotpool/stats/PoolCounts", "add", "(Lcom/example/hot_pool/hotpool/stats/PoolEvent;J)V"⟩ : MethodName) prog_65_method_3_code 4 none :: ws) ({ frames := 1, cells := 0, slots := 0, locals := 13 } : Room)) (fun a U => a = #[(.ref r0), (.ref r1), (.long q2)] ∧ Z.Warmed39 U.vm ∧ U.heap = h0) (fun _ _ _ _ _ => True) (fun _ U o U' => ∃ v L, o = .returned v ∧ Q4 Z r0 r1 q2 aa ka xs oo h0 n0 v U'.heap L ∧ FrameEnd U o U' L ({ frames := 1, cells := 0, slots := 0, locals := 13 } : Room).cells ({ frames := 1, cells := 0, slots := 0, locals := 13 } : Room).slots) := by
  refine MetFree.of_bodySF (plainFor_of_name pn_com_example_hot_pool_hotpool_stats_PoolCounts) hisR ?_
  intro p e s m args below meth c s₁ Bd hml0 hP hK
  obtain ⟨rfl, hZ, hh⟩ := hP
  have hx := Bd.exec
  have hby := Bd.bytes
  have hlk := Bd.notSynchronized
  have hrt := Bd.returns
  have hml : c.maxLocals = 4 := hml0
  have hown : s.vm.findClass "com/example/hot_pool/hotpool/stats/PoolCounts" = some m.cls := findClass_of_methodNamed Bd.named
  have hnm := (name_of_methodNamed Bd.named Bd.method).1
  have X0 : Stand p l e ({ frames := 1, cells := 0, slots := 0, locals := 13 } : Room) s m #[(.ref r0), (.ref r1), (.long q2)] below meth c s₁ [] 0 0 := Stand.of_body Bd
  have e0 : s₁.heap = h0 := by rw [← hh, Bd.state]; rfl
  have N0 := Fr.nil n0
  have K0 := Keep.refl h0 [aa]
  refine own_out (Q := Q4 Z r0 r1 q2 aa ka xs oo h0 n0) ?_
  refine own_in (ef_4 m r0 r1 q2) ?_
  show own_Go _ _ _ _ s₁ (mkF m 0 #[.val (.ref r0), .val (.ref r1), .val (.long q2), .second] [])
  refine own_st (fun t k => XS.aloadN X0.here hx rfl (hb hby d4_0) rfl rfl k) ?_
  show own_Go _ _ _ _ s₁ (mkF m 1 #[.val (.ref r0), .val (.ref r1), .val (.long q2), .second] [(.ref r0)])
  obtain ⟨T1, X1, e1, st1⟩ := getF X0 hx hZ hown (host := "") (Or.inl (hw _ (List.mem_of_getElem? (i := 52) rfl))) Via.refl e0 F_counts_r0 (g := (mkF m 1 #[.val (.ref r0), .val (.ref r1), .val (.long q2), .second] [(.ref r0)])) rfl rfl (hb hby d4_1)
  refine own_st st1 ?_
  show own_Go _ _ _ _ T1 (mkF m 4 #[.val (.ref r0), .val (.ref r1), .val (.long q2), .second] [(.ref aa)])
  refine own_st (fun t k => XS.aloadN X1.here hx rfl (hb hby d4_4) rfl rfl k) ?_
  show own_Go _ _ _ _ T1 (mkF m 5 #[.val (.ref r0), .val (.ref r1), .val (.long q2), .second] [(.ref r1), (.ref aa)])
  obtain ⟨cq2, kq2, q2a, q2b, q2c⟩ := isOf hZ e1 E_r1
  obtain ⟨_, _, ⟨T2, L2, k2, n2⟩, -, X2, ⟨Lc2, hQ2, l2, y2, z2⟩, st2⟩ := X1.virtualBackUp hx (owner := "java/lang/Enum") (x := (⟨"com/example/hot_pool/hotpool/stats/PoolEvent", "ordinal", "()I"⟩ : MethodName)) (y := (⟨"java/lang/Enum", "ordinal", "()I"⟩ : MethodName)) hown (mvT hZ (hw _ (List.mem_of_getElem? (i := 59) rfl))) (mvT hZ (hw _ (List.mem_of_getElem? (i := 60) rfl))) (mvT hZ (hw _ (List.mem_of_getElem? (i := 61) rfl))) (by decide) (mvT hZ (hw _ (List.mem_of_getElem? (i := 63) rfl))) (mvT hZ (hw _ (List.mem_of_getElem? (i := 62) rfl))) (backOf (W := 1) (rm5 l Z a0 hw [] r1 oo  h0 n0 Z0 Fo) hZ (hw _ (List.mem_of_getElem? (i := 65) rfl)) (hw _ (List.mem_of_getElem? (i := 64) rfl)) (by decide) (by decide)) q2a q2c (g := (mkF m 5 #[.val (.ref r0), .val (.ref r1), .val (.long q2), .second] [(.ref r1), (.ref aa)])) rfl (by rw [hml]; rfl) (Steps.refl _) (argsL := []) (rest := [(.ref aa)]) (lenOf pd__28_29I rfl) rfl (by show 2 * 0 + _ ≤ _; exact Nat.le_of_eq rfl) (hb hby d4_5) (fun _ _ => ⟨rfl, e1, (by decide : 0 + 0 ≤ _), (by decide : 0 + 0 ≤ _)⟩)
  dsimp only [Pt.U, Pt.locs, Pt.cells, Pt.slots] at X2 l2 y2 z2 st2 hQ2
  subst l2 y2 z2
  obtain ⟨rfl, N2q, e2⟩ := hQ2
  obtain ⟨_, X2, N2⟩ := own_hide X2 (Fr.app N0 N2q)
  refine own_tr st2 ?_
  show own_Go _ _ _ _ T2 (mkF m 8 #[.val (.ref r0), .val (.ref r1), .val (.long q2), .second] [(.int oo), (.ref aa)])
  refine own_st (fun t k => Jvm.Free.XT.dup2 X2.here hx rfl (hb hby d4_8) rfl rfl rfl k) ?_
  show own_Go _ _ _ _ T2 (mkF m 9 #[.val (.ref r0), .val (.ref r1), .val (.long q2), .second] [(.int oo), (.ref aa), (.int oo), (.ref aa)])
  obtain ⟨cl3, Ar3, qk3, Sz3, Nn3, Hs3, Gf3⟩ := id V_aa
  have hin3 : ¬ (oo < 0 ∨ cl3.slots.size ≤ (oo).toNatClampNeg) := inb_of Sz3 ho
  have hat3 : cl3.slots[(oo).toNatClampNeg]? = some (.long (xs.getD (oo).toNatClampNeg 0)) := Has.at Hs3 hin3 (own_getD_long xs _)
  refine own_st (X2.laload hx (j := oo) (v := (.long (xs.getD (oo).toNatClampNeg 0))) (by rw [e2]; exact Ar3.1) (State.isArrayOf_alike hZ.alike Ar3.2.1) Ar3.2.2 hin3 hat3 (g := (mkF m 9 #[.val (.ref r0), .val (.ref r1), .val (.long q2), .second] [(.int oo), (.ref aa), (.int oo), (.ref aa)])) rfl rfl (hb hby d4_9)) ?_
  show own_Go _ _ _ _ T2 (mkF m 10 #[.val (.ref r0), .val (.ref r1), .val (.long q2), .second] [(.long (xs.getD (oo).toNatClampNeg 0)), (.int oo), (.ref aa)])
  refine own_st (fun t k => XS.lloadN X2.here hx rfl (hb hby d4_10) rfl k) ?_
  show own_Go _ _ _ _ T2 (mkF m 11 #[.val (.ref r0), .val (.ref r1), .val (.long q2), .second] [(.long q2), (.long (xs.getD (oo).toNatClampNeg 0)), (.int oo), (.ref aa)])
  refine own_st (fun t k => XS.ladd X2.here hx rfl (hb hby d4_11) rfl k) ?_
  show own_Go _ _ _ _ T2 (mkF m 12 #[.val (.ref r0), .val (.ref r1), .val (.long q2), .second] [(.long ((xs.getD (oo).toNatClampNeg 0) + q2)), (.int oo), (.ref aa)])
  obtain ⟨cl4, Ar4, qk4, Sz4, Nn4, Hs4, Gf4⟩ := id V_aa
  have hin4 : ¬ (oo < 0 ∨ cl4.slots.size ≤ (oo).toNatClampNeg) := inb_of Sz4 ho
  obtain ⟨T5, h5, X5, e5, W5, st5⟩ := stJ X2 hx hZ e2 Ar4 (j := oo) hin4 (g := (mkF m 12 #[.val (.ref r0), .val (.ref r1), .val (.long q2), .second] [(.long ((xs.getD (oo).toNatClampNeg 0) + q2)), (.int oo), (.ref aa)])) rfl rfl (hb hby d4_12)
  have V5 := own_setJ Ar4 qk4 Sz4 Nn4 Hs4 Gf4 W5 (by rw [hxs]; exact (own_nat ho).1)
  obtain ⟨_, X5, N5⟩ := own_hide X5 (Fr.snoc X5 N2 g_aa)
  refine own_st st5 ?_
  show own_Go _ _ _ _ T5 (mkF m 13 #[.val (.ref r0), .val (.ref r1), .val (.long q2), .second] [])
  have K0_6 := (K0.wr W5 (Or.inl (List.mem_of_getElem? (i := 0) rfl)))
  exact own_retV X5 hx hlk hrt (hb hby d4_13) (by rw [e5]; exact ⟨rfl, N5, K0_6, V5⟩) (by decide) (by decide)
theorem pd_150508 : parseMethodDescriptor "(Lcom/example/hot_pool/hotpool/stats/PoolEvent;J)V" = some ⟨[(.object "com/example/hot_pool/hotpool/stats/PoolEvent"), .long], none⟩ := by decide +kernel
/-! body 6: PoolCounts.add -/
theorem d6_0 : decode prog_65_method_2_code 0 = .ok (.aload_n 0, 1) := by decide +kernel
theorem d6_1 : decode prog_65_method_2_code 1 = .ok (.aload_n 1, 1) := by decide +kernel
theorem d6_2 : decode prog_65_method_2_code 2 = .ok (.lconst 1, 1) := by decide +kernel
theorem d6_3 : decode prog_65_method_2_code 3 = .ok (.invokevirtual 19, 3) := by decide +kernel
theorem d6_6 : decode prog_65_method_2_code 6 = .ok (.return_, 1) := by decide +kernel
theorem ef_6 (m : MethodId) (x0 : Addr) (x1 : Addr) : entryFrame m #[(.ref x0), (.ref x1)] 2 = mkF m 0 #[.val (.ref x0), .val (.ref x1)] [] := by first | (simp [entryFrame, mkF, argsToLocals, Value.category]; done) | rfl
def Q6 (Z : State) (r0 : Addr) (r1 : Addr) (aa : Addr) (ka : ClassId) (xs : List Int64) (oo : Int32) (h0 : Heap) (n0 : Nat) (v : Option Value) (h : Heap) (L : List Loc) : Prop := v = none ∧ Fr n0 L ∧ Keep h0 h [aa] ∧ Arv Z h aa ka .long (11 : Int32) ((xs.set (oo).toNatClampNeg (xs.getD (oo).toNatClampNeg 0 + (1 : Int64))).map Value.long) (.long 0)
set_option maxRecDepth 65536 in
set_option maxHeartbeats 40000000 in
theorem rm6 (l : Launch) (Z : State) (a0 : Array Value) (hw : ∀ d ∈ tables_1, d.before a0 Z = true) (ws : List Jvm.Cond) (r0 : Addr) (r1 : Addr) (aa : Addr) (ka : ClassId) (xs : List Int64) (oo : Int32) (h0 : Heap) (n0 : Nat) (Z0 : n0 ≤ h0.size) (E_r0 : Exa Z h0 r0 "com/example/hot_pool/hotpool/stats/PoolCounts") (F_counts_r0 : Fld Z h0 r0 "com/example/hot_pool/hotpool/stats/PoolCounts" "counts" "[J" (.ref aa)) (V_aa : Arv Z h0 aa ka .long (11 : Int32) (xs.map Value.long) (.long 0)) (hxs : xs.length = 11) (E_r1 : Exa Z h0 r1 "com/example/hot_pool/hotpool/stats/PoolEvent") (Fo : Fld Z h0 r1 "java/lang/Enum" "ordinal" "I" (.int oo)) (ho : ¬ oo < 0 ∧ oo < 11) (g_aa : n0 ≤ aa) (O0 : Old Z n0 h0) :
    MetFree l (⟨"com/example/hot_pool/hotpool/stats/PoolCounts", "add", "(Lcom/example/hot_pool/hotpool/stats/PoolEvent;)V"⟩ : MethodName) (head1 (Jvm.Cond.code (⟨"com/example/hot_pool/hotpool/stats/PoolCounts", "add", "(Lcom/example/hot_pool/hotpool/stats/PoolEvent;)V"⟩ : MethodName) prog_65_method_2_code 2 none :: ws) ({ frames := 2, cells := 0, slots := 0, locals := 28 } : Room)) (fun a U => a = #[(.ref r0), (.ref r1)] ∧ Z.Warmed39 U.vm ∧ U.heap = h0) (fun _ _ _ _ _ => True) (fun _ U o U' => ∃ v L, o = .returned v ∧ Q6 Z r0 r1 aa ka xs oo h0 n0 v U'.heap L ∧ FrameEnd U o U' L ({ frames := 2, cells := 0, slots := 0, locals := 28 } : Room).cells ({ frames := 2, cells := 0, slots := 0, locals := 28 } : Room).slots) := by
  refine MetFree.of_bodySF (plainFor_of_name pn_com_example_hot_pool_hotpool_stats_PoolCounts) hisR ?_
  intro p e s m args below meth c s₁ Bd hml0 hP hK
  obtain ⟨rfl, hZ, hh⟩ := hP
  have hx := Bd.exec
  have hby := Bd.bytes
  have hlk := Bd.notSynchronized
  have hrt := Bd.returns
  have hml : c.maxLocals = 2 := hml0
  have hown : s.vm.findClass "com/example/hot_pool/hotpool/stats/PoolCounts" = some m.cls := findClass_of_methodNamed Bd.named
  have hnm := (name_of_methodNamed Bd.named Bd.method).1
  have X0 : Stand p l e ({ frames := 2, cells := 0, slots := 0, locals := 28 } : Room) s m #[(.ref r0), (.ref r1)] below meth c s₁ [] 0 0 := Stand.of_body Bd
  have e0 : s₁.heap = h0 := by rw [← hh, Bd.state]; rfl
  have N0 := Fr.nil n0
  have K0 := Keep.refl h0 [aa]
  refine own_out (Q := Q6 Z r0 r1 aa ka xs oo h0 n0) ?_
  refine own_in (ef_6 m r0 r1) ?_
  show own_Go _ _ _ _ s₁ (mkF m 0 #[.val (.ref r0), .val (.ref r1)] [])
  refine own_st (fun t k => XS.aloadN X0.here hx rfl (hb hby d6_0) rfl rfl k) ?_
  show own_Go _ _ _ _ s₁ (mkF m 1 #[.val (.ref r0), .val (.ref r1)] [(.ref r0)])
  refine own_st (fun t k => XS.aloadN X0.here hx rfl (hb hby d6_1) rfl rfl k) ?_
  show own_Go _ _ _ _ s₁ (mkF m 2 #[.val (.ref r0), .val (.ref r1)] [(.ref r1), (.ref r0)])
  refine own_st (fun t k => XS.lconst X0.here hx rfl (hb hby d6_2) k) ?_
  show own_Go _ _ _ _ s₁ (mkF m 3 #[.val (.ref r0), .val (.ref r1)] [(.long (1 : Int64)), (.ref r1), (.ref r0)])
  obtain ⟨cq1, kq1, q1a, q1b, q1c⟩ := isOf hZ e0 E_r0
  obtain ⟨_, _, ⟨T1, L1, k1, n1⟩, -, X1, ⟨Lc1, hQ1, l1, y1, z1⟩, st1⟩ := X0.virtualBack hx (y := (⟨"com/example/hot_pool/hotpool/stats/PoolCounts", "add", "(Lcom/example/hot_pool/hotpool/stats/PoolEvent;J)V"⟩ : MethodName)) (z := (⟨"com/example/hot_pool/hotpool/stats/PoolCounts", "add", "(Lcom/example/hot_pool/hotpool/stats/PoolEvent;J)V"⟩ : MethodName)) hown (mvT hZ (hw _ (List.mem_of_getElem? (i := 73) rfl))) (mvT hZ (hw _ (List.mem_of_getElem? (i := 55) rfl))) (notFace_of_selects (args := #[]) (mvT hZ (hw _ (List.mem_of_getElem? (i := 57) rfl)))) (mvT hZ (hw _ (List.mem_of_getElem? (i := 57) rfl))) (mvT hZ (hw _ (List.mem_of_getElem? (i := 56) rfl))) (by decide) (backOf (W := 0) (rm4 l Z a0 hw [] r0 r1 (1 : Int64) aa ka xs oo  h0 n0 Z0 F_counts_r0 V_aa hxs E_r1 Fo ho g_aa O0) hZ (hw _ (List.mem_of_getElem? (i := 58) rfl)) (hw _ (List.mem_of_getElem? (i := 29) rfl)) (by decide) (by decide)) q1a q1c (g := (mkF m 3 #[.val (.ref r0), .val (.ref r1)] [(.long (1 : Int64)), (.ref r1), (.ref r0)])) rfl (by rw [hml]; rfl) (Steps.refl _) (argsL := [(.ref r1), (.long (1 : Int64))]) (rest := []) (lenOf pd_150508 rfl) rfl (by show 2 * 0 + _ ≤ _; exact Nat.le_of_eq rfl) (hb hby d6_3) (fun _ _ => ⟨rfl, e0, (by decide : 0 + 0 ≤ _), (by decide : 0 + 0 ≤ _)⟩)
  dsimp only [Pt.U, Pt.locs, Pt.cells, Pt.slots] at X1 l1 y1 z1 st1 hQ1
  subst l1 y1 z1
  obtain ⟨rfl, N1q, K1, V1⟩ := hQ1
  obtain ⟨_, X1, N1⟩ := own_hide X1 (Fr.app N0 N1q)
  refine own_tr st1 ?_
  show own_Go _ _ _ _ T1 (mkF m 6 #[.val (.ref r0), .val (.ref r1)] [])
  have K0_2 := (K0.trans K1 (allS ((Or.inl (List.mem_of_getElem? (i := 0) rfl))) all0))
  exact own_retV X1 hx hlk hrt (hb hby d6_6) ⟨rfl, N1, K0_2, V1⟩ (by decide) (by decide)
/-! body 8: HotPoolStatistics.<init> -/
theorem d8_0 : decode prog_64_method_1_code 0 = .ok (.aload_n 0, 1) := by decide +kernel
theorem d8_1 : decode prog_64_method_1_code 1 = .ok (.invokespecial 1, 3) := by decide +kernel
theorem d8_4 : decode prog_64_method_1_code 4 = .ok (.aload_n 0, 1) := by decide +kernel
theorem d8_5 : decode prog_64_method_1_code 5 = .ok (.aload_n 1, 1) := by decide +kernel
theorem d8_6 : decode prog_64_method_1_code 6 = .ok (.putfield 7, 3) := by decide +kernel
theorem d8_9 : decode prog_64_method_1_code 9 = .ok (.aload_n 0, 1) := by decide +kernel
theorem d8_10 : decode prog_64_method_1_code 10 = .ok (.iload_n 2, 1) := by decide +kernel
theorem d8_11 : decode prog_64_method_1_code 11 = .ok (.putfield 13, 3) := by decide +kernel
theorem d8_14 : decode prog_64_method_1_code 14 = .ok (.aload_n 0, 1) := by decide +kernel
theorem d8_15 : decode prog_64_method_1_code 15 = .ok (.lload_n 3, 1) := by decide +kernel
theorem d8_16 : decode prog_64_method_1_code 16 = .ok (.putfield 17, 3) := by decide +kernel
theorem d8_19 : decode prog_64_method_1_code 19 = .ok (.aload_n 0, 1) := by decide +kernel
theorem d8_20 : decode prog_64_method_1_code 20 = .ok (.lload 5, 2) := by decide +kernel
theorem d8_22 : decode prog_64_method_1_code 22 = .ok (.putfield 21, 3) := by decide +kernel
theorem d8_25 : decode prog_64_method_1_code 25 = .ok (.aload_n 0, 1) := by decide +kernel
theorem d8_26 : decode prog_64_method_1_code 26 = .ok (.aload 7, 2) := by decide +kernel
theorem d8_28 : decode prog_64_method_1_code 28 = .ok (.putfield 24, 3) := by decide +kernel
theorem d8_31 : decode prog_64_method_1_code 31 = .ok (.return_, 1) := by decide +kernel
theorem pn_com_example_hot_pool_hotpool_stats_HotPoolStatistics : plainName "com/example/hot_pool/hotpool/stats/HotPoolStatistics" = true := by first | (simp [plainName, overriddenIn]; done) | decide +kernel
theorem ef_8 (m : MethodId) (x0 : Addr) (x1 : Addr) (x2 : Int32) (x3 : Int64) (x4 : Int64) (x5 : Addr) : entryFrame m #[(.ref x0), (.ref x1), (.int x2), (.long x3), (.long x4), (.ref x5)] 8 = mkF m 0 #[.val (.ref x0), .val (.ref x1), .val (.int x2), .val (.long x3), .second, .val (.long x4), .second, .val (.ref x5)] [] := by first | (simp [entryFrame, mkF, argsToLocals, Value.category]; done) | rfl
def Q8 (Z : State) (r0 : Addr) (r1 : Addr) (p2 : Int32) (q3 : Int64) (q4 : Int64) (r5 : Addr) (h0 : Heap) (n0 : Nat) (v : Option Value) (h : Heap) (L : List Loc) : Prop := v = none ∧ Fr n0 L ∧ Keep h0 h [r0] ∧ Fld Z h r0 "com/example/hot_pool/hotpool/stats/HotPoolStatistics" "poolName" "Ljava/lang/String;" (.ref r1) ∧ Fld Z h r0 "com/example/hot_pool/hotpool/stats/HotPoolStatistics" "suspended" "Z" (.int (nar .boolean p2)) ∧ Fld Z h r0 "com/example/hot_pool/hotpool/stats/HotPoolStatistics" "available" "J" (.long q3) ∧ Fld Z h r0 "com/example/hot_pool/hotpool/stats/HotPoolStatistics" "waiting" "J" (.long q4) ∧ Fld Z h r0 "com/example/hot_pool/hotpool/stats/HotPoolStatistics" "counts" "[J" (.ref r5)
set_option maxRecDepth 65536 in
set_option maxHeartbeats 40000000 in
theorem rm8 (l : Launch) (Z : State) (a0 : Array Value) (hw : ∀ d ∈ tables_1, d.before a0 Z = true) (ws : List Jvm.Cond) (r0 : Addr) (r1 : Addr) (p2 : Int32) (q3 : Int64) (q4 : Int64) (r5 : Addr) (h0 : Heap) (n0 : Nat) (Z0 : n0 ≤ h0.size) (E_r0 : Exa Z h0 r0 "com/example/hot_pool/hotpool/stats/HotPoolStatistics") (F_poolName_r0 : Fld Z h0 r0 "com/example/hot_pool/hotpool/stats/HotPoolStatistics" "poolName" "Ljava/lang/String;" .null) (F_suspended_r0 : Fld Z h0 r0 "com/example/hot_pool/hotpool/stats/HotPoolStatistics" "suspended" "Z" (.int (0 : Int32))) (F_available_r0 : Fld Z h0 r0 "com/example/hot_pool/hotpool/stats/HotPoolStatistics" "available" "J" (.long (0 : Int64))) (F_waiting_r0 : Fld Z h0 r0 "com/example/hot_pool/hotpool/stats/HotPoolStatistics" "waiting" "J" (.long (0 : Int64))) (F_counts_r0 : Fld Z h0 r0 "com/example/hot_pool/hotpool/stats/HotPoolStatistics" "counts" "[J" .null) (g_r0 : n0 ≤ r0) :
    MetFree l (⟨"com/example/hot_pool/hotpool/stats/HotPoolStatistics", "<init>", "(Ljava/lang/String;ZJJ[J)V"⟩ : MethodName) (head1 (Jvm.Cond.code (⟨"com/example/hot_pool/hotpool/stats/HotPoolStatistics", "<init>", "(Ljava/lang/String;ZJJ[J)V"⟩ : MethodName) prog_64_method_1_code 8 none :: ws) ({ frames := 1, cells := 0, slots := 0, locals := 12 } : Room)) (fun a U => a = #[(.ref r0), (.ref r1), (.int p2), (.long q3), (.long q4), (.ref r5)] ∧ Z.Warmed39 U.vm ∧ U.heap = h0) (fun _ _ _ _ _ => True) (fun _ U o U' => ∃ v L, o = .returned v ∧ Q8 Z r0 r1 p2 q3 q4 r5 h0 n0 v U'.heap L ∧ FrameEnd U o U' L ({ frames := 1, cells := 0, slots := 0, locals := 12 } : Room).cells ({ frames := 1, cells := 0, slots := 0, locals := 12 } : Room).slots) := by
  refine MetFree.of_bodySF (plainFor_of_name pn_com_example_hot_pool_hotpool_stats_HotPoolStatistics) hisR ?_
  intro p e s m args below meth c s₁ Bd hml0 hP hK
  obtain ⟨rfl, hZ, hh⟩ := hP
  have hx := Bd.exec
  have hby := Bd.bytes
  have hlk := Bd.notSynchronized
  have hrt := Bd.returns
  have hml : c.maxLocals = 8 := hml0
  have hown : s.vm.findClass "com/example/hot_pool/hotpool/stats/HotPoolStatistics" = some m.cls := findClass_of_methodNamed Bd.named
  have hnm := (name_of_methodNamed Bd.named Bd.method).1
  have X0 : Stand p l e ({ frames := 1, cells := 0, slots := 0, locals := 12 } : Room) s m #[(.ref r0), (.ref r1), (.int p2), (.long q3), (.long q4), (.ref r5)] below meth c s₁ [] 0 0 := Stand.of_body Bd
  have e0 : s₁.heap = h0 := by rw [← hh, Bd.state]; rfl
  have N0 := Fr.nil n0
  have K0 := Keep.refl h0 [r0]
  refine own_out (Q := Q8 Z r0 r1 p2 q3 q4 r5 h0 n0) ?_
  refine own_in (ef_8 m r0 r1 p2 q3 q4 r5) ?_
  show own_Go _ _ _ _ s₁ (mkF m 0 #[.val (.ref r0), .val (.ref r1), .val (.int p2), .val (.long q3), .second, .val (.long q4), .second, .val (.ref r5)] [])
  refine own_st (fun t k => XS.aloadN X0.here hx rfl (hb hby d8_0) rfl rfl k) ?_
  show own_Go _ _ _ _ s₁ (mkF m 1 #[.val (.ref r0), .val (.ref r1), .val (.int p2), .val (.long q3), .second, .val (.long q4), .second, .val (.ref r5)] [(.ref r0)])
  obtain ⟨T1, X1, e1, st1⟩ := initO X0 hx hZ hown (hw _ (List.mem_of_getElem? (i := 99) rfl)) (hw _ (List.mem_of_getElem? (i := 34) rfl)) (hw _ (List.mem_of_getElem? (i := 35) rfl)) e0 (g := (mkF m 1 #[.val (.ref r0), .val (.ref r1), .val (.int p2), .val (.long q3), .second, .val (.long q4), .second, .val (.ref r5)] [(.ref r0)])) rfl (by rw [hml]; rfl) rfl (hb hby d8_1) (by decide) (W := 0) (by show 2 * 0 + _ ≤ _; exact Nat.le_of_eq rfl) (by decide)
  refine own_st st1 ?_
  show own_Go _ _ _ _ T1 (mkF m 4 #[.val (.ref r0), .val (.ref r1), .val (.int p2), .val (.long q3), .second, .val (.long q4), .second, .val (.ref r5)] [])
  refine own_st (fun t k => XS.aloadN X1.here hx rfl (hb hby d8_4) rfl rfl k) ?_
  show own_Go _ _ _ _ T1 (mkF m 5 #[.val (.ref r0), .val (.ref r1), .val (.int p2), .val (.long q3), .second, .val (.long q4), .second, .val (.ref r5)] [(.ref r0)])
  refine own_st (fun t k => XS.aloadN X1.here hx rfl (hb hby d8_5) rfl rfl k) ?_
  show own_Go _ _ _ _ T1 (mkF m 6 #[.val (.ref r0), .val (.ref r1), .val (.int p2), .val (.long q3), .second, .val (.long q4), .second, .val (.ref r5)] [(.ref r1), (.ref r0)])
  obtain ⟨T2, h2, X2, e2, W2, st2⟩ := putF X1 hx hZ hown (host := "") (Or.inl (hw _ (List.mem_of_getElem? (i := 100) rfl))) Via.refl e1 F_poolName_r0 E_r0 (Or.inr ⟨(hw _ (List.mem_of_getElem? (i := 101) rfl)), rfl, hnm⟩) (hw _ (List.mem_of_getElem? (i := 94) rfl)) (ty := (.object "java/lang/String")) (by decide) rfl rfl (g := (mkF m 6 #[.val (.ref r0), .val (.ref r1), .val (.int p2), .val (.long q3), .second, .val (.long q4), .second, .val (.ref r5)] [(.ref r1), (.ref r0)])) rfl rfl (hb hby d8_6)
  have F2 := F_poolName_r0.same W2
  obtain ⟨_, X2, N2⟩ := own_hide X2 (Fr.snoc X2 N0 g_r0)
  refine own_st st2 ?_
  show own_Go _ _ _ _ T2 (mkF m 9 #[.val (.ref r0), .val (.ref r1), .val (.int p2), .val (.long q3), .second, .val (.long q4), .second, .val (.ref r5)] [])
  refine own_st (fun t k => XS.aloadN X2.here hx rfl (hb hby d8_9) rfl rfl k) ?_
  show own_Go _ _ _ _ T2 (mkF m 10 #[.val (.ref r0), .val (.ref r1), .val (.int p2), .val (.long q3), .second, .val (.long q4), .second, .val (.ref r5)] [(.ref r0)])
  refine own_st (fun t k => XS.iloadN X2.here hx rfl (hb hby d8_10) rfl k) ?_
  show own_Go _ _ _ _ T2 (mkF m 11 #[.val (.ref r0), .val (.ref r1), .val (.int p2), .val (.long q3), .second, .val (.long q4), .second, .val (.ref r5)] [(.int p2), (.ref r0)])
  have F_suspended_r0_3 := (F_suspended_r0.other W2 (Or.inr (slot_ne (Or.inr (hw _ (List.mem_of_getElem? (i := 103) rfl))) (Or.inr (hw _ (List.mem_of_getElem? (i := 101) rfl))) (by decide) (t := .boolean) (t' := (.object "java/lang/String")) (by decide) (by decide))))
  have E_r0_4 := (E_r0.wr W2)
  have K0_5 := (K0.wr W2 (Or.inl (List.mem_of_getElem? (i := 0) rfl)))
  obtain ⟨T6, h6, X6, e6, W6, st6⟩ := putFN X2 hx hZ hown (hw _ (List.mem_of_getElem? (i := 102) rfl)) Via.refl e2 F_suspended_r0_3 E_r0_4 (Or.inr ⟨(hw _ (List.mem_of_getElem? (i := 103) rfl)), rfl, hnm⟩) (hw _ (List.mem_of_getElem? (i := 94) rfl)) (ty := .boolean) (v' := (.int (nar .boolean p2))) (by decide) rfl (fits_nar_bool _) (g := (mkF m 11 #[.val (.ref r0), .val (.ref r1), .val (.int p2), .val (.long q3), .second, .val (.long q4), .second, .val (.ref r5)] [(.int p2), (.ref r0)])) rfl rfl (hb hby d8_11)
  have F6 := F_suspended_r0_3.same W6
  obtain ⟨_, X6, N6⟩ := own_hide X6 (Fr.snoc X6 N2 g_r0)
  refine own_st st6 ?_
  show own_Go _ _ _ _ T6 (mkF m 14 #[.val (.ref r0), .val (.ref r1), .val (.int p2), .val (.long q3), .second, .val (.long q4), .second, .val (.ref r5)] [])
  refine own_st (fun t k => XS.aloadN X6.here hx rfl (hb hby d8_14) rfl rfl k) ?_
  show own_Go _ _ _ _ T6 (mkF m 15 #[.val (.ref r0), .val (.ref r1), .val (.int p2), .val (.long q3), .second, .val (.long q4), .second, .val (.ref r5)] [(.ref r0)])
  refine own_st (fun t k => XS.lloadN X6.here hx rfl (hb hby d8_15) rfl k) ?_
  show own_Go _ _ _ _ T6 (mkF m 16 #[.val (.ref r0), .val (.ref r1), .val (.int p2), .val (.long q3), .second, .val (.long q4), .second, .val (.ref r5)] [(.long q3), (.ref r0)])
  have F_available_r0_7 := ((F_available_r0.other W2 (Or.inr (slot_ne (Or.inr (hw _ (List.mem_of_getElem? (i := 105) rfl))) (Or.inr (hw _ (List.mem_of_getElem? (i := 101) rfl))) (by decide) (t := .long) (t' := (.object "java/lang/String")) (by decide) (by decide)))).other W6 (Or.inr (slot_ne (Or.inr (hw _ (List.mem_of_getElem? (i := 105) rfl))) (Or.inr (hw _ (List.mem_of_getElem? (i := 103) rfl))) (by decide) (t := .long) (t' := .boolean) (by decide) (by decide))))
  have E_r0_8 := (E_r0_4.wr W6)
  have K0_9 := (K0_5.wr W6 (Or.inl (List.mem_of_getElem? (i := 0) rfl)))
  obtain ⟨T10, h10, X10, e10, W10, st10⟩ := putF X6 hx hZ hown (host := "") (Or.inl (hw _ (List.mem_of_getElem? (i := 104) rfl))) Via.refl e6 F_available_r0_7 E_r0_8 (Or.inr ⟨(hw _ (List.mem_of_getElem? (i := 105) rfl)), rfl, hnm⟩) (hw _ (List.mem_of_getElem? (i := 94) rfl)) (ty := .long) (by decide) rfl rfl (g := (mkF m 16 #[.val (.ref r0), .val (.ref r1), .val (.int p2), .val (.long q3), .second, .val (.long q4), .second, .val (.ref r5)] [(.long q3), (.ref r0)])) rfl rfl (hb hby d8_16)
  have F10 := F_available_r0_7.same W10
  obtain ⟨_, X10, N10⟩ := own_hide X10 (Fr.snoc X10 N6 g_r0)
  refine own_st st10 ?_
  show own_Go _ _ _ _ T10 (mkF m 19 #[.val (.ref r0), .val (.ref r1), .val (.int p2), .val (.long q3), .second, .val (.long q4), .second, .val (.ref r5)] [])
  refine own_st (fun t k => XS.aloadN X10.here hx rfl (hb hby d8_19) rfl rfl k) ?_
  show own_Go _ _ _ _ T10 (mkF m 20 #[.val (.ref r0), .val (.ref r1), .val (.int p2), .val (.long q3), .second, .val (.long q4), .second, .val (.ref r5)] [(.ref r0)])
  refine own_st (fun t k => XS.lload X10.here hx rfl (hb hby d8_20) rfl k) ?_
  show own_Go _ _ _ _ T10 (mkF m 22 #[.val (.ref r0), .val (.ref r1), .val (.int p2), .val (.long q3), .second, .val (.long q4), .second, .val (.ref r5)] [(.long q4), (.ref r0)])
  have F_waiting_r0_11 := (((F_waiting_r0.other W2 (Or.inr (slot_ne (Or.inr (hw _ (List.mem_of_getElem? (i := 107) rfl))) (Or.inr (hw _ (List.mem_of_getElem? (i := 101) rfl))) (by decide) (t := .long) (t' := (.object "java/lang/String")) (by decide) (by decide)))).other W6 (Or.inr (slot_ne (Or.inr (hw _ (List.mem_of_getElem? (i := 107) rfl))) (Or.inr (hw _ (List.mem_of_getElem? (i := 103) rfl))) (by decide) (t := .long) (t' := .boolean) (by decide) (by decide)))).other W10 (Or.inr (slot_ne (Or.inr (hw _ (List.mem_of_getElem? (i := 107) rfl))) (Or.inr (hw _ (List.mem_of_getElem? (i := 105) rfl))) (by decide) (t := .long) (t' := .long) (by decide) (by decide))))
  have E_r0_12 := (E_r0_8.wr W10)
  have K0_13 := (K0_9.wr W10 (Or.inl (List.mem_of_getElem? (i := 0) rfl)))
  obtain ⟨T14, h14, X14, e14, W14, st14⟩ := putF X10 hx hZ hown (host := "") (Or.inl (hw _ (List.mem_of_getElem? (i := 106) rfl))) Via.refl e10 F_waiting_r0_11 E_r0_12 (Or.inr ⟨(hw _ (List.mem_of_getElem? (i := 107) rfl)), rfl, hnm⟩) (hw _ (List.mem_of_getElem? (i := 94) rfl)) (ty := .long) (by decide) rfl rfl (g := (mkF m 22 #[.val (.ref r0), .val (.ref r1), .val (.int p2), .val (.long q3), .second, .val (.long q4), .second, .val (.ref r5)] [(.long q4), (.ref r0)])) rfl rfl (hb hby d8_22)
  have F14 := F_waiting_r0_11.same W14
  obtain ⟨_, X14, N14⟩ := own_hide X14 (Fr.snoc X14 N10 g_r0)
  refine own_st st14 ?_
  show own_Go _ _ _ _ T14 (mkF m 25 #[.val (.ref r0), .val (.ref r1), .val (.int p2), .val (.long q3), .second, .val (.long q4), .second, .val (.ref r5)] [])
  refine own_st (fun t k => XS.aloadN X14.here hx rfl (hb hby d8_25) rfl rfl k) ?_
  show own_Go _ _ _ _ T14 (mkF m 26 #[.val (.ref r0), .val (.ref r1), .val (.int p2), .val (.long q3), .second, .val (.long q4), .second, .val (.ref r5)] [(.ref r0)])
  refine own_st (fun t k => XS.aload X14.here hx rfl (hb hby d8_26) rfl rfl k) ?_
  show own_Go _ _ _ _ T14 (mkF m 28 #[.val (.ref r0), .val (.ref r1), .val (.int p2), .val (.long q3), .second, .val (.long q4), .second, .val (.ref r5)] [(.ref r5), (.ref r0)])
  have F_counts_r0_15 := ((((F_counts_r0.other W2 (Or.inr (slot_ne (Or.inr (hw _ (List.mem_of_getElem? (i := 109) rfl))) (Or.inr (hw _ (List.mem_of_getElem? (i := 101) rfl))) (by decide) (t := (.array .long)) (t' := (.object "java/lang/String")) (by decide) (by decide)))).other W6 (Or.inr (slot_ne (Or.inr (hw _ (List.mem_of_getElem? (i := 109) rfl))) (Or.inr (hw _ (List.mem_of_getElem? (i := 103) rfl))) (by decide) (t := (.array .long)) (t' := .boolean) (by decide) (by decide)))).other W10 (Or.inr (slot_ne (Or.inr (hw _ (List.mem_of_getElem? (i := 109) rfl))) (Or.inr (hw _ (List.mem_of_getElem? (i := 105) rfl))) (by decide) (t := (.array .long)) (t' := .long) (by decide) (by decide)))).other W14 (Or.inr (slot_ne (Or.inr (hw _ (List.mem_of_getElem? (i := 109) rfl))) (Or.inr (hw _ (List.mem_of_getElem? (i := 107) rfl))) (by decide) (t := (.array .long)) (t' := .long) (by decide) (by decide))))
  have E_r0_16 := (E_r0_12.wr W14)
  have K0_17 := (K0_13.wr W14 (Or.inl (List.mem_of_getElem? (i := 0) rfl)))
  obtain ⟨T18, h18, X18, e18, W18, st18⟩ := putF X14 hx hZ hown (host := "") (Or.inl (hw _ (List.mem_of_getElem? (i := 108) rfl))) Via.refl e14 F_counts_r0_15 E_r0_16 (Or.inr ⟨(hw _ (List.mem_of_getElem? (i := 109) rfl)), rfl, hnm⟩) (hw _ (List.mem_of_getElem? (i := 94) rfl)) (ty := (.array .long)) (by decide) rfl rfl (g := (mkF m 28 #[.val (.ref r0), .val (.ref r1), .val (.int p2), .val (.long q3), .second, .val (.long q4), .second, .val (.ref r5)] [(.ref r5), (.ref r0)])) rfl rfl (hb hby d8_28)
  have F18 := F_counts_r0_15.same W18
  obtain ⟨_, X18, N18⟩ := own_hide X18 (Fr.snoc X18 N14 g_r0)
  refine own_st st18 ?_
  show own_Go _ _ _ _ T18 (mkF m 31 #[.val (.ref r0), .val (.ref r1), .val (.int p2), .val (.long q3), .second, .val (.long q4), .second, .val (.ref r5)] [])
  have K0_19 := (K0_17.wr W18 (Or.inl (List.mem_of_getElem? (i := 0) rfl)))
  have F2_poolName_20 := ((((F2.other W6 (Or.inr (slot_ne (Or.inr (hw _ (List.mem_of_getElem? (i := 101) rfl))) (Or.inr (hw _ (List.mem_of_getElem? (i := 103) rfl))) (by decide) (t := (.object "java/lang/String")) (t' := .boolean) (by decide) (by decide)))).other W10 (Or.inr (slot_ne (Or.inr (hw _ (List.mem_of_getElem? (i := 101) rfl))) (Or.inr (hw _ (List.mem_of_getElem? (i := 105) rfl))) (by decide) (t := (.object "java/lang/String")) (t' := .long) (by decide) (by decide)))).other W14 (Or.inr (slot_ne (Or.inr (hw _ (List.mem_of_getElem? (i := 101) rfl))) (Or.inr (hw _ (List.mem_of_getElem? (i := 107) rfl))) (by decide) (t := (.object "java/lang/String")) (t' := .long) (by decide) (by decide)))).other W18 (Or.inr (slot_ne (Or.inr (hw _ (List.mem_of_getElem? (i := 101) rfl))) (Or.inr (hw _ (List.mem_of_getElem? (i := 109) rfl))) (by decide) (t := (.object "java/lang/String")) (t' := (.array .long)) (by decide) (by decide))))
  have F6_suspended_21 := (((F6.other W10 (Or.inr (slot_ne (Or.inr (hw _ (List.mem_of_getElem? (i := 103) rfl))) (Or.inr (hw _ (List.mem_of_getElem? (i := 105) rfl))) (by decide) (t := .boolean) (t' := .long) (by decide) (by decide)))).other W14 (Or.inr (slot_ne (Or.inr (hw _ (List.mem_of_getElem? (i := 103) rfl))) (Or.inr (hw _ (List.mem_of_getElem? (i := 107) rfl))) (by decide) (t := .boolean) (t' := .long) (by decide) (by decide)))).other W18 (Or.inr (slot_ne (Or.inr (hw _ (List.mem_of_getElem? (i := 103) rfl))) (Or.inr (hw _ (List.mem_of_getElem? (i := 109) rfl))) (by decide) (t := .boolean) (t' := (.array .long)) (by decide) (by decide))))
  have F10_available_22 := ((F10.other W14 (Or.inr (slot_ne (Or.inr (hw _ (List.mem_of_getElem? (i := 105) rfl))) (Or.inr (hw _ (List.mem_of_getElem? (i := 107) rfl))) (by decide) (t := .long) (t' := .long) (by decide) (by decide)))).other W18 (Or.inr (slot_ne (Or.inr (hw _ (List.mem_of_getElem? (i := 105) rfl))) (Or.inr (hw _ (List.mem_of_getElem? (i := 109) rfl))) (by decide) (t := .long) (t' := (.array .long)) (by decide) (by decide))))
  have F14_waiting_23 := (F14.other W18 (Or.inr (slot_ne (Or.inr (hw _ (List.mem_of_getElem? (i := 107) rfl))) (Or.inr (hw _ (List.mem_of_getElem? (i := 109) rfl))) (by decide) (t := .long) (t' := (.array .long)) (by decide) (by decide))))
  exact own_retV X18 hx hlk hrt (hb hby d8_31) (by rw [e18]; exact ⟨rfl, N18, K0_19, F2_poolName_20, F6_suspended_21, F10_available_22, F14_waiting_23, F18⟩) (by decide) (by decide)
theorem pd__28Ljava_2flang_2fString_3bZJJ_5bJ_29V : parseMethodDescriptor "(Ljava/lang/String;ZJJ[J)V" = some ⟨[(.object "java/lang/String"), .boolean, .long, .long, (.array .long)], none⟩ := by decide +kernel
/-! body 7: PoolCounts.snapshot -/
theorem d7_0 : decode prog_65_method_5_code 0 = .ok (.aload_n 0, 1) := by decide +kernel
theorem d7_1 : decode prog_65_method_5_code 1 = .ok (.getfield 13, 3) := by decide +kernel
theorem d7_4 : decode prog_65_method_5_code 4 = .ok (.invokevirtual 27, 3) := by decide +kernel
theorem d7_7 : decode prog_65_method_5_code 7 = .ok (.checkcast 28, 3) := by decide +kernel
theorem d7_10 : decode prog_65_method_5_code 10 = .ok (.astore 8, 2) := by decide +kernel
theorem d7_12 : decode prog_65_method_5_code 12 = .ok (.iconst 0, 1) := by decide +kernel
theorem d7_13 : decode prog_65_method_5_code 13 = .ok (.istore 9, 2) := by decide +kernel
theorem d7_15 : decode prog_65_method_5_code 15 = .ok (.iload 9, 2) := by decide +kernel
theorem d7_17 : decode prog_65_method_5_code 17 = .ok (.aload 8, 2) := by decide +kernel
theorem d7_19 : decode prog_65_method_5_code 19 = .ok (.arraylength, 1) := by decide +kernel
theorem d7_20 : decode prog_65_method_5_code 20 = .ok (.if_icmp .ge 25, 3) := by decide +kernel
theorem d7_23 : decode prog_65_method_5_code 23 = .ok (.aload 8, 2) := by decide +kernel
theorem d7_25 : decode prog_65_method_5_code 25 = .ok (.iload 9, 2) := by decide +kernel
theorem d7_27 : decode prog_65_method_5_code 27 = .ok (.dup2, 1) := by decide +kernel
theorem d7_28 : decode prog_65_method_5_code 28 = .ok (.laload, 1) := by decide +kernel
theorem d7_29 : decode prog_65_method_5_code 29 = .ok (.aload 7, 2) := by decide +kernel
theorem d7_31 : decode prog_65_method_5_code 31 = .ok (.getfield 13, 3) := by decide +kernel
theorem d7_34 : decode prog_65_method_5_code 34 = .ok (.iload 9, 2) := by decide +kernel
theorem d7_36 : decode prog_65_method_5_code 36 = .ok (.laload, 1) := by decide +kernel
theorem d7_37 : decode prog_65_method_5_code 37 = .ok (.ladd, 1) := by decide +kernel
theorem d7_38 : decode prog_65_method_5_code 38 = .ok (.lastore, 1) := by decide +kernel
theorem d7_39 : decode prog_65_method_5_code 39 = .ok (.iinc 9 1, 3) := by decide +kernel
theorem d7_42 : decode prog_65_method_5_code 42 = .ok (.goto (-27), 3) := by decide +kernel
theorem d7_45 : decode prog_65_method_5_code 45 = .ok (.new 32, 3) := by decide +kernel
theorem d7_48 : decode prog_65_method_5_code 48 = .ok (.dup, 1) := by decide +kernel
theorem d7_49 : decode prog_65_method_5_code 49 = .ok (.aload_n 1, 1) := by decide +kernel
theorem d7_50 : decode prog_65_method_5_code 50 = .ok (.iload_n 2, 1) := by decide +kernel
theorem d7_51 : decode prog_65_method_5_code 51 = .ok (.lload_n 3, 1) := by decide +kernel
theorem d7_52 : decode prog_65_method_5_code 52 = .ok (.lload 5, 2) := by decide +kernel
theorem d7_54 : decode prog_65_method_5_code 54 = .ok (.aload 8, 2) := by decide +kernel
theorem d7_56 : decode prog_65_method_5_code 56 = .ok (.invokespecial 34, 3) := by decide +kernel
theorem d7_59 : decode prog_65_method_5_code 59 = .ok (.areturn, 1) := by decide +kernel
theorem ef_7 (m : MethodId) (x0 : Addr) (x1 : Addr) (x2 : Int32) (x3 : Int64) (x4 : Int64) (x5 : Addr) : entryFrame m #[(.ref x0), (.ref x1), (.int x2), (.long x3), (.long x4), (.ref x5)] 10 = mkF m 0 #[.val (.ref x0), .val (.ref x1), .val (.int x2), .val (.long x3), .second, .val (.long x4), .second, .val (.ref x5), .unset, .unset] [] := by first | (simp [entryFrame, mkF, argsToLocals, Value.category]; done) | rfl
def Q7 (Z : State) (r0 : Addr) (r1 : Addr) (p2 : Int32) (q3 : Int64) (q4 : Int64) (r5 : Addr) (aa : Addr) (ab : Addr) (ka : ClassId) (kb : ClassId) (xs : List Int64) (h0 : Heap) (n0 : Nat) (v : Option Value) (h : Heap) (L : List Loc) : Prop := ∃ (b a : Addr) (k : ClassId), v = some (.ref b) ∧ Fr n0 L ∧ Keep h0 h [] ∧ h0.size ≤ b ∧ Exa Z h b "com/example/hot_pool/hotpool/stats/HotPoolStatistics" ∧ Fld Z h b "com/example/hot_pool/hotpool/stats/HotPoolStatistics" "counts" "[J" (.ref a) ∧ Arv Z h a k .long (11 : Int32) (xs.map Value.long) (.long 0)
set_option maxRecDepth 65536 in
set_option maxHeartbeats 40000000 in
theorem rm7 (l : Launch) (Z : State) (a0 : Array Value) (hw : ∀ d ∈ tables_1, d.before a0 Z = true) (ws : List Jvm.Cond) (r0 : Addr) (r1 : Addr) (p2 : Int32) (q3 : Int64) (q4 : Int64) (r5 : Addr) (aa : Addr) (ab : Addr) (ka : ClassId) (kb : ClassId) (xs : List Int64) (h0 : Heap) (n0 : Nat) (Z0 : n0 ≤ h0.size) (F_counts_r0 : Fld Z h0 r0 "com/example/hot_pool/hotpool/stats/PoolCounts" "counts" "[J" (.ref aa)) (F_counts_r5 : Fld Z h0 r5 "com/example/hot_pool/hotpool/stats/PoolCounts" "counts" "[J" (.ref ab)) (V_aa : Arv Z h0 aa ka .long (11 : Int32) (xs.map Value.long) (.long 0)) (hxs : xs.length = 11) (E_aa : Exa Z h0 aa "[J") (V_ab : Arv Z h0 ab kb .long (11 : Int32) (own_z11.map Value.long) (.long 0)) :
    MetFree l (⟨"com/example/hot_pool/hotpool/stats/PoolCounts", "snapshot", "(Ljava/lang/String;ZJJLcom/example/hot_pool/hotpool/stats/PoolCounts;)Lcom/example/hot_pool/hotpool/stats/HotPoolStatistics;"⟩ : MethodName) (head1 (Jvm.Cond.code (⟨"com/example/hot_pool/hotpool/stats/PoolCounts", "snapshot", "(Ljava/lang/String;ZJJLcom/example/hot_pool/hotpool/stats/PoolCounts;)Lcom/example/hot_pool/hotpool/stats/HotPoolStatistics;"⟩ : MethodName) prog_65_method_5_code 10 (some (.object "com/example/hot_pool/hotpool/stats/HotPoolStatistics")) :: ws) ({ frames := 2, cells := 2, slots := 16, locals := 32 } : Room)) (fun a U => a = #[(.ref r0), (.ref r1), (.int p2), (.long q3), (.long q4), (.ref r5)] ∧ Z.Warmed39 U.vm ∧ U.heap = h0) (fun _ _ _ _ _ => True) (fun _ U o U' => ∃ v L, o = .returned v ∧ Q7 Z r0 r1 p2 q3 q4 r5 aa ab ka kb xs h0 n0 v U'.heap L ∧ FrameEnd U o U' L ({ frames := 2, cells := 2, slots := 16, locals := 32 } : Room).cells ({ frames := 2, cells := 2, slots := 16, locals := 32 } : Room).slots) := by
  refine MetFree.of_bodySF (plainFor_of_name pn_com_example_hot_pool_hotpool_stats_PoolCounts) hisR ?_
  intro p e s m args below meth c s₁ Bd hml0 hP hK
  obtain ⟨rfl, hZ, hh⟩ := hP
  have hx := Bd.exec
  have hby := Bd.bytes
  have hlk := Bd.notSynchronized
  have hrt := Bd.returns
  have hml : c.maxLocals = 10 := hml0
  have hown : s.vm.findClass "com/example/hot_pool/hotpool/stats/PoolCounts" = some m.cls := findClass_of_methodNamed Bd.named
  have hnm := (name_of_methodNamed Bd.named Bd.method).1
  have X0 : Stand p l e ({ frames := 2, cells := 2, slots := 16, locals := 32 } : Room) s m #[(.ref r0), (.ref r1), (.int p2), (.long q3), (.long q4), (.ref r5)] below meth c s₁ [] 0 0 := Stand.of_body Bd
  have e0 : s₁.heap = h0 := by rw [← hh, Bd.state]; rfl
  have N0 := Fr.nil n0
  have K0 := Keep.refl h0 []
  refine own_out (Q := Q7 Z r0 r1 p2 q3 q4 r5 aa ab ka kb xs h0 n0) ?_
  refine own_in (ef_7 m r0 r1 p2 q3 q4 r5) ?_
  show own_Go _ _ _ _ s₁ (mkF m 0 #[.val (.ref r0), .val (.ref r1), .val (.int p2), .val (.long q3), .second, .val (.long q4), .second, .val (.ref r5), .unset, .unset] [])
  refine own_st (fun t k => XS.aloadN X0.here hx rfl (hb hby d7_0) rfl rfl k) ?_
  show own_Go _ _ _ _ s₁ (mkF m 1 #[.val (.ref r0), .val (.ref r1), .val (.int p2), .val (.long q3), .second, .val (.long q4), .second, .val (.ref r5), .unset, .unset] [(.ref r0)])
  obtain ⟨T1, X1, e1, st1⟩ := getF X0 hx hZ hown (host := "") (Or.inl (hw _ (List.mem_of_getElem? (i := 52) rfl))) Via.refl e0 F_counts_r0 (g := (mkF m 1 #[.val (.ref r0), .val (.ref r1), .val (.int p2), .val (.long q3), .second, .val (.long q4), .second, .val (.ref r5), .unset, .unset] [(.ref r0)])) rfl rfl (hb hby d7_1)
  refine own_st st1 ?_
  show own_Go _ _ _ _ T1 (mkF m 4 #[.val (.ref r0), .val (.ref r1), .val (.int p2), .val (.long q3), .second, .val (.long q4), .second, .val (.ref r5), .unset, .unset] [(.ref aa)])
  obtain ⟨cl2, Ar2, qk2, Sz2, Nn2, Hs2, Gf2⟩ := id V_aa
  obtain ⟨T3, h3, X3, e3, E3, A3, Ex3, st3⟩ := cloneA X1 hx hZ hown (hw _ (List.mem_of_getElem? (i := 87) rfl)) (hw _ (List.mem_of_getElem? (i := 88) rfl)) (hw _ (List.mem_of_getElem? (i := 46) rfl)) (hw _ (List.mem_of_getElem? (i := 44) rfl)) (hw _ (List.mem_of_getElem? (i := 89) rfl)) (hw _ (List.mem_of_getElem? (i := 90) rfl)) e1 Ar2 E_aa (fitC_of Ar2 fun i hi v hv => by rw [Hs2 i hi] at hv; cases hv; exact Gf2 i hi) (g := (mkF m 4 #[.val (.ref r0), .val (.ref r1), .val (.int p2), .val (.long q3), .second, .val (.long q4), .second, .val (.ref r5), .unset, .unset] [(.ref aa)])) rfl (by rw [hml]; rfl) rfl (hb hby d7_4) (by decide) (W := 0) (by show 2 * 0 + _ ≤ _; exact Nat.le_of_eq rfl) (by decide) (cap := 11) (Nat.le_of_eq Sz2) (by decide) (by decide)
  obtain ⟨b3, g3⟩ : ∃ z, z = h0.size := ⟨_, rfl⟩
  rw [← g3] at A3 Ex3 st3
  have sz_b3 : h0.size ≤ b3 := Nat.le_trans K0.1 (Nat.le_of_eq g3.symm)
  have g_b3 : n0 ≤ b3 := Nat.le_trans Z0 sz_b3
  have ne_r0_b3 : r0 ≠ b3 := Nat.ne_of_lt (Nat.lt_of_lt_of_le F_counts_r0.lt (Nat.le_of_eq g3.symm))
  have ne_r5_b3 : r5 ≠ b3 := Nat.ne_of_lt (Nat.lt_of_lt_of_le F_counts_r5.lt (Nat.le_of_eq g3.symm))
  have ne_aa_b3 : aa ≠ b3 := Nat.ne_of_lt (Nat.lt_of_lt_of_le V_aa.lt (Nat.le_of_eq g3.symm))
  have ne_ab_b3 : ab ≠ b3 := Nat.ne_of_lt (Nat.lt_of_lt_of_le V_ab.lt (Nat.le_of_eq g3.symm))
  refine own_st st3 ?_
  have V3 : Arv Z h3 b3 ka .long (11 : Int32) (xs.map Value.long) (.long 0) := ⟨cloneOf cl2, A3, qk2, Sz2, Nn2, Hs2, Gf2⟩
  show own_Go _ _ _ _ T3 (mkF m 7 #[.val (.ref r0), .val (.ref r1), .val (.int p2), .val (.long q3), .second, .val (.long q4), .second, .val (.ref r5), .unset, .unset] [(.ref b3)])
  obtain ⟨T4, X4, e4, st4⟩ := castY X3 hx hZ hown (hw _ (List.mem_of_getElem? (i := 91) rfl)) e3 (Ins.self Ex3) (g := (mkF m 7 #[.val (.ref r0), .val (.ref r1), .val (.int p2), .val (.long q3), .second, .val (.long q4), .second, .val (.ref r5), .unset, .unset] [(.ref b3)])) rfl rfl (hb hby d7_7)
  refine own_st st4 ?_
  show own_Go _ _ _ _ T4 (mkF m 10 #[.val (.ref r0), .val (.ref r1), .val (.int p2), .val (.long q3), .second, .val (.long q4), .second, .val (.ref r5), .unset, .unset] [(.ref b3)])
  refine own_st (fun t k => XS.astore X4.here hx rfl (hb hby d7_10) rfl rfl (l' := #[.val (.ref r0), .val (.ref r1), .val (.int p2), .val (.long q3), .second, .val (.long q4), .second, .val (.ref r5), .val (.ref b3), .unset]) rfl k) ?_
  show own_Go _ _ _ _ T4 (mkF m 12 #[.val (.ref r0), .val (.ref r1), .val (.int p2), .val (.long q3), .second, .val (.long q4), .second, .val (.ref r5), .val (.ref b3), .unset] [])
  refine own_st (fun t k => XS.iconst X4.here hx rfl (hb hby d7_12) k) ?_
  show own_Go _ _ _ _ T4 (mkF m 13 #[.val (.ref r0), .val (.ref r1), .val (.int p2), .val (.long q3), .second, .val (.long q4), .second, .val (.ref r5), .val (.ref b3), .unset] [(.int (0 : Int32))])
  refine own_st (fun t k => XS.istore X4.here hx rfl (hb hby d7_13) rfl (l' := #[.val (.ref r0), .val (.ref r1), .val (.int p2), .val (.long q3), .second, .val (.long q4), .second, .val (.ref r5), .val (.ref b3), .val (.int (0 : Int32))]) rfl k) ?_
  show own_Go _ _ _ _ T4 (mkF m 15 #[.val (.ref r0), .val (.ref r1), .val (.int p2), .val (.long q3), .second, .val (.long q4), .second, .val (.ref r5), .val (.ref b3), .val (.int (0 : Int32))] [])
  refine own_st (fun t k => XS.iload X4.here hx rfl (hb hby d7_15) rfl k) ?_
  show own_Go _ _ _ _ T4 (mkF m 17 #[.val (.ref r0), .val (.ref r1), .val (.int p2), .val (.long q3), .second, .val (.long q4), .second, .val (.ref r5), .val (.ref b3), .val (.int (0 : Int32))] [(.int (0 : Int32))])
  refine own_st (fun t k => XS.aload X4.here hx rfl (hb hby d7_17) rfl rfl k) ?_
  show own_Go _ _ _ _ T4 (mkF m 19 #[.val (.ref r0), .val (.ref r1), .val (.int p2), .val (.long q3), .second, .val (.long q4), .second, .val (.ref r5), .val (.ref b3), .val (.int (0 : Int32))] [(.ref b3), (.int (0 : Int32))])
  obtain ⟨cl5, Ar5, qk5, Sz5, Nn5, Hs5, Gf5⟩ := id V3
  refine own_st (X4.arraylength hx (by rw [e4]; exact Ar5.1) (State.isArrayOf_alike hZ.alike Ar5.2.1) (g := (mkF m 19 #[.val (.ref r0), .val (.ref r1), .val (.int p2), .val (.long q3), .second, .val (.long q4), .second, .val (.ref r5), .val (.ref b3), .val (.int (0 : Int32))] [(.ref b3), (.int (0 : Int32))])) rfl rfl (hb hby d7_19)) ?_
  rw [len_of Sz5 Nn5]
  show own_Go _ _ _ _ T4 (mkF m 20 #[.val (.ref r0), .val (.ref r1), .val (.int p2), .val (.long q3), .second, .val (.long q4), .second, .val (.ref r5), .val (.ref b3), .val (.int (0 : Int32))] [(.int (11 : Int32)), (.int (0 : Int32))])
  refine own_st (fun t k => XS.icmpNo X4.here hx rfl (hb hby d7_20) rfl (tlt (by decide : (0 : Int32) < (11 : Int32))).2.1 k) ?_
  show own_Go _ _ _ _ T4 (mkF m 23 #[.val (.ref r0), .val (.ref r1), .val (.int p2), .val (.long q3), .second, .val (.long q4), .second, .val (.ref r5), .val (.ref b3), .val (.int (0 : Int32))] [])
  refine own_st (fun t k => XS.aload X4.here hx rfl (hb hby d7_23) rfl rfl k) ?_
  show own_Go _ _ _ _ T4 (mkF m 25 #[.val (.ref r0), .val (.ref r1), .val (.int p2), .val (.long q3), .second, .val (.long q4), .second, .val (.ref r5), .val (.ref b3), .val (.int (0 : Int32))] [(.ref b3)])
  refine own_st (fun t k => XS.iload X4.here hx rfl (hb hby d7_25) rfl k) ?_
  show own_Go _ _ _ _ T4 (mkF m 27 #[.val (.ref r0), .val (.ref r1), .val (.int p2), .val (.long q3), .second, .val (.long q4), .second, .val (.ref r5), .val (.ref b3), .val (.int (0 : Int32))] [(.int (0 : Int32)), (.ref b3)])
  refine own_st (fun t k => Jvm.Free.XT.dup2 X4.here hx rfl (hb hby d7_27) rfl rfl rfl k) ?_
  show own_Go _ _ _ _ T4 (mkF m 28 #[.val (.ref r0), .val (.ref r1), .val (.int p2), .val (.long q3), .second, .val (.long q4), .second, .val (.ref r5), .val (.ref b3), .val (.int (0 : Int32))] [(.int (0 : Int32)), (.ref b3), (.int (0 : Int32)), (.ref b3)])
  obtain ⟨cl6, Ar6, qk6, Sz6, Nn6, Hs6, Gf6⟩ := id V3
  have hin6 : ¬ ((0 : Int32) < 0 ∨ cl6.slots.size ≤ ((0 : Int32)).toNatClampNeg) := inb_of Sz6 ⟨by decide, by decide⟩
  have hat6 : cl6.slots[((0 : Int32)).toNatClampNeg]? = some (.long (xs.getD ((0 : Int32)).toNatClampNeg 0)) := Has.at Hs6 hin6 (own_getD_long xs _)
  refine own_st (X4.laload hx (j := (0 : Int32)) (v := (.long (xs.getD ((0 : Int32)).toNatClampNeg 0))) (by rw [e4]; exact Ar6.1) (State.isArrayOf_alike hZ.alike Ar6.2.1) Ar6.2.2 hin6 hat6 (g := (mkF m 28 #[.val (.ref r0), .val (.ref r1), .val (.int p2), .val (.long q3), .second, .val (.long q4), .second, .val (.ref r5), .val (.ref b3), .val (.int (0 : Int32))] [(.int (0 : Int32)), (.ref b3), (.int (0 : Int32)), (.ref b3)])) rfl rfl (hb hby d7_28)) ?_
  show own_Go _ _ _ _ T4 (mkF m 29 #[.val (.ref r0), .val (.ref r1), .val (.int p2), .val (.long q3), .second, .val (.long q4), .second, .val (.ref r5), .val (.ref b3), .val (.int (0 : Int32))] [(.long (xs.getD ((0 : Int32)).toNatClampNeg 0)), (.int (0 : Int32)), (.ref b3)])
  refine own_st (fun t k => XS.aload X4.here hx rfl (hb hby d7_29) rfl rfl k) ?_
  show own_Go _ _ _ _ T4 (mkF m 31 #[.val (.ref r0), .val (.ref r1), .val (.int p2), .val (.long q3), .second, .val (.long q4), .second, .val (.ref r5), .val (.ref b3), .val (.int (0 : Int32))] [(.ref r5), (.long (xs.getD ((0 : Int32)).toNatClampNeg 0)), (.int (0 : Int32)), (.ref b3)])
  have F_counts_r5_7 := (F_counts_r5.ext E3)
  obtain ⟨T8, X8, e8, st8⟩ := getF X4 hx hZ hown (host := "") (Or.inl (hw _ (List.mem_of_getElem? (i := 52) rfl))) Via.refl e4 F_counts_r5_7 (g := (mkF m 31 #[.val (.ref r0), .val (.ref r1), .val (.int p2), .val (.long q3), .second, .val (.long q4), .second, .val (.ref r5), .val (.ref b3), .val (.int (0 : Int32))] [(.ref r5), (.long (xs.getD ((0 : Int32)).toNatClampNeg 0)), (.int (0 : Int32)), (.ref b3)])) rfl rfl (hb hby d7_31)
  refine own_st st8 ?_
  show own_Go _ _ _ _ T8 (mkF m 34 #[.val (.ref r0), .val (.ref r1), .val (.int p2), .val (.long q3), .second, .val (.long q4), .second, .val (.ref r5), .val (.ref b3), .val (.int (0 : Int32))] [(.ref ab), (.long (xs.getD ((0 : Int32)).toNatClampNeg 0)), (.int (0 : Int32)), (.ref b3)])
  refine own_st (fun t k => XS.iload X8.here hx rfl (hb hby d7_34) rfl k) ?_
  show own_Go _ _ _ _ T8 (mkF m 36 #[.val (.ref r0), .val (.ref r1), .val (.int p2), .val (.long q3), .second, .val (.long q4), .second, .val (.ref r5), .val (.ref b3), .val (.int (0 : Int32))] [(.int (0 : Int32)), (.ref ab), (.long (xs.getD ((0 : Int32)).toNatClampNeg 0)), (.int (0 : Int32)), (.ref b3)])
  have V_ab_10 := (V_ab.ext E3)
  obtain ⟨cl9, Ar9, qk9, Sz9, Nn9, Hs9, Gf9⟩ := id V_ab_10
  have hin9 : ¬ ((0 : Int32) < 0 ∨ cl9.slots.size ≤ ((0 : Int32)).toNatClampNeg) := inb_of Sz9 ⟨by decide, by decide⟩
  have hat9 : cl9.slots[((0 : Int32)).toNatClampNeg]? = some (.long (own_z11.getD ((0 : Int32)).toNatClampNeg 0)) := Has.at Hs9 hin9 (own_getD_long own_z11 _)
  refine own_st (X8.laload hx (j := (0 : Int32)) (v := (.long (own_z11.getD ((0 : Int32)).toNatClampNeg 0))) (by rw [e8]; exact Ar9.1) (State.isArrayOf_alike hZ.alike Ar9.2.1) Ar9.2.2 hin9 hat9 (g := (mkF m 36 #[.val (.ref r0), .val (.ref r1), .val (.int p2), .val (.long q3), .second, .val (.long q4), .second, .val (.ref r5), .val (.ref b3), .val (.int (0 : Int32))] [(.int (0 : Int32)), (.ref ab), (.long (xs.getD ((0 : Int32)).toNatClampNeg 0)), (.int (0 : Int32)), (.ref b3)])) rfl rfl (hb hby d7_36)) ?_
  show own_Go _ _ _ _ T8 (mkF m 37 #[.val (.ref r0), .val (.ref r1), .val (.int p2), .val (.long q3), .second, .val (.long q4), .second, .val (.ref r5), .val (.ref b3), .val (.int (0 : Int32))] [(.long (own_z11.getD ((0 : Int32)).toNatClampNeg 0)), (.long (xs.getD ((0 : Int32)).toNatClampNeg 0)), (.int (0 : Int32)), (.ref b3)])
  refine own_st (fun t k => XS.ladd X8.here hx rfl (hb hby d7_37) rfl k) ?_
  show own_Go _ _ _ _ T8 (mkF m 38 #[.val (.ref r0), .val (.ref r1), .val (.int p2), .val (.long q3), .second, .val (.long q4), .second, .val (.ref r5), .val (.ref b3), .val (.int (0 : Int32))] [(.long ((xs.getD ((0 : Int32)).toNatClampNeg 0) + (own_z11.getD ((0 : Int32)).toNatClampNeg 0))), (.int (0 : Int32)), (.ref b3)])
  have K0_11 := (K0.ext E3)
  obtain ⟨cl12, Ar12, qk12, Sz12, Nn12, Hs12, Gf12⟩ := id V3
  have hin12 : ¬ ((0 : Int32) < 0 ∨ cl12.slots.size ≤ ((0 : Int32)).toNatClampNeg) := inb_of Sz12 ⟨by decide, by decide⟩
  obtain ⟨T13, h13, X13, e13, W13, st13⟩ := stJ X8 hx hZ e8 Ar12 (j := (0 : Int32)) hin12 (g := (mkF m 38 #[.val (.ref r0), .val (.ref r1), .val (.int p2), .val (.long q3), .second, .val (.long q4), .second, .val (.ref r5), .val (.ref b3), .val (.int (0 : Int32))] [(.long ((xs.getD ((0 : Int32)).toNatClampNeg 0) + (own_z11.getD ((0 : Int32)).toNatClampNeg 0))), (.int (0 : Int32)), (.ref b3)])) rfl rfl (hb hby d7_38)
  have V13 := own_setJ Ar12 qk12 Sz12 Nn12 Hs12 Gf12 W13 (by rw [hxs]; decide)
  rw [own_set_id _ _ (by rw [hxs]; decide)] at V13
  obtain ⟨_, X13, N13⟩ := own_hide X13 (Fr.snoc X13 N0 g_b3)
  refine own_st st13 ?_
  show own_Go _ _ _ _ T13 (mkF m 39 #[.val (.ref r0), .val (.ref r1), .val (.int p2), .val (.long q3), .second, .val (.long q4), .second, .val (.ref r5), .val (.ref b3), .val (.int (0 : Int32))] [])
  refine own_st (fun t k => XS.iinc X13.here hx rfl (hb hby d7_39) rfl (l' := #[.val (.ref r0), .val (.ref r1), .val (.int p2), .val (.long q3), .second, .val (.long q4), .second, .val (.ref r5), .val (.ref b3), .val (.int (1 : Int32))]) rfl k) ?_
  show own_Go _ _ _ _ T13 (mkF m 42 #[.val (.ref r0), .val (.ref r1), .val (.int p2), .val (.long q3), .second, .val (.long q4), .second, .val (.ref r5), .val (.ref b3), .val (.int (1 : Int32))] [])
  refine own_st (fun t k => XS.goto X13.here hx rfl (pc0 := 42) (pc' := 15) rfl (hb hby d7_42) (by decide) (by decide) k) ?_
  show own_Go _ _ _ _ T13 (mkF m 15 #[.val (.ref r0), .val (.ref r1), .val (.int p2), .val (.long q3), .second, .val (.long q4), .second, .val (.ref r5), .val (.ref b3), .val (.int (1 : Int32))] [])
  refine own_st (fun t k => XS.iload X13.here hx rfl (hb hby d7_15) rfl k) ?_
  show own_Go _ _ _ _ T13 (mkF m 17 #[.val (.ref r0), .val (.ref r1), .val (.int p2), .val (.long q3), .second, .val (.long q4), .second, .val (.ref r5), .val (.ref b3), .val (.int (1 : Int32))] [(.int (1 : Int32))])
  refine own_st (fun t k => XS.aload X13.here hx rfl (hb hby d7_17) rfl rfl k) ?_
  show own_Go _ _ _ _ T13 (mkF m 19 #[.val (.ref r0), .val (.ref r1), .val (.int p2), .val (.long q3), .second, .val (.long q4), .second, .val (.ref r5), .val (.ref b3), .val (.int (1 : Int32))] [(.ref b3), (.int (1 : Int32))])
  obtain ⟨cl14, Ar14, qk14, Sz14, Nn14, Hs14, Gf14⟩ := id V13
  refine own_st (X13.arraylength hx (by rw [e13]; exact Ar14.1) (State.isArrayOf_alike hZ.alike Ar14.2.1) (g := (mkF m 19 #[.val (.ref r0), .val (.ref r1), .val (.int p2), .val (.long q3), .second, .val (.long q4), .second, .val (.ref r5), .val (.ref b3), .val (.int (1 : Int32))] [(.ref b3), (.int (1 : Int32))])) rfl rfl (hb hby d7_19)) ?_
  rw [len_of Sz14 Nn14]
  show own_Go _ _ _ _ T13 (mkF m 20 #[.val (.ref r0), .val (.ref r1), .val (.int p2), .val (.long q3), .second, .val (.long q4), .second, .val (.ref r5), .val (.ref b3), .val (.int (1 : Int32))] [(.int (11 : Int32)), (.int (1 : Int32))])
  refine own_st (fun t k => XS.icmpNo X13.here hx rfl (hb hby d7_20) rfl (tlt (by decide : (1 : Int32) < (11 : Int32))).2.1 k) ?_
  show own_Go _ _ _ _ T13 (mkF m 23 #[.val (.ref r0), .val (.ref r1), .val (.int p2), .val (.long q3), .second, .val (.long q4), .second, .val (.ref r5), .val (.ref b3), .val (.int (1 : Int32))] [])
  refine own_st (fun t k => XS.aload X13.here hx rfl (hb hby d7_23) rfl rfl k) ?_
  show own_Go _ _ _ _ T13 (mkF m 25 #[.val (.ref r0), .val (.ref r1), .val (.int p2), .val (.long q3), .second, .val (.long q4), .second, .val (.ref r5), .val (.ref b3), .val (.int (1 : Int32))] [(.ref b3)])
  refine own_st (fun t k => XS.iload X13.here hx rfl (hb hby d7_25) rfl k) ?_
  show own_Go _ _ _ _ T13 (mkF m 27 #[.val (.ref r0), .val (.ref r1), .val (.int p2), .val (.long q3), .second, .val (.long q4), .second, .val (.ref r5), .val (.ref b3), .val (.int (1 : Int32))] [(.int (1 : Int32)), (.ref b3)])
  refine own_st (fun t k => Jvm.Free.XT.dup2 X13.here hx rfl (hb hby d7_27) rfl rfl rfl k) ?_
  show own_Go _ _ _ _ T13 (mkF m 28 #[.val (.ref r0), .val (.ref r1), .val (.int p2), .val (.long q3), .second, .val (.long q4), .second, .val (.ref r5), .val (.ref b3), .val (.int (1 : Int32))] [(.int (1 : Int32)), (.ref b3), (.int (1 : Int32)), (.ref b3)])
  obtain ⟨cl15, Ar15, qk15, Sz15, Nn15, Hs15, Gf15⟩ := id V13
  have hin15 : ¬ ((1 : Int32) < 0 ∨ cl15.slots.size ≤ ((1 : Int32)).toNatClampNeg) := inb_of Sz15 ⟨by decide, by decide⟩
  have hat15 : cl15.slots[((1 : Int32)).toNatClampNeg]? = some (.long (xs.getD ((1 : Int32)).toNatClampNeg 0)) := Has.at Hs15 hin15 (own_getD_long xs _)
  refine own_st (X13.laload hx (j := (1 : Int32)) (v := (.long (xs.getD ((1 : Int32)).toNatClampNeg 0))) (by rw [e13]; exact Ar15.1) (State.isArrayOf_alike hZ.alike Ar15.2.1) Ar15.2.2 hin15 hat15 (g := (mkF m 28 #[.val (.ref r0), .val (.ref r1), .val (.int p2), .val (.long q3), .second, .val (.long q4), .second, .val (.ref r5), .val (.ref b3), .val (.int (1 : Int32))] [(.int (1 : Int32)), (.ref b3), (.int (1 : Int32)), (.ref b3)])) rfl rfl (hb hby d7_28)) ?_
  show own_Go _ _ _ _ T13 (mkF m 29 #[.val (.ref r0), .val (.ref r1), .val (.int p2), .val (.long q3), .second, .val (.long q4), .second, .val (.ref r5), .val (.ref b3), .val (.int (1 : Int32))] [(.long (xs.getD ((1 : Int32)).toNatClampNeg 0)), (.int (1 : Int32)), (.ref b3)])
  refine own_st (fun t k => XS.aload X13.here hx rfl (hb hby d7_29) rfl rfl k) ?_
  show own_Go _ _ _ _ T13 (mkF m 31 #[.val (.ref r0), .val (.ref r1), .val (.int p2), .val (.long q3), .second, .val (.long q4), .second, .val (.ref r5), .val (.ref b3), .val (.int (1 : Int32))] [(.ref r5), (.long (xs.getD ((1 : Int32)).toNatClampNeg 0)), (.int (1 : Int32)), (.ref b3)])
  have F_counts_r5_16 := (F_counts_r5_7.other W13 (Or.inl ne_r5_b3))
  obtain ⟨T17, X17, e17, st17⟩ := getF X13 hx hZ hown (host := "") (Or.inl (hw _ (List.mem_of_getElem? (i := 52) rfl))) Via.refl e13 F_counts_r5_16 (g := (mkF m 31 #[.val (.ref r0), .val (.ref r1), .val (.int p2), .val (.long q3), .second, .val (.long q4), .second, .val (.ref r5), .val (.ref b3), .val (.int (1 : Int32))] [(.ref r5), (.long (xs.getD ((1 : Int32)).toNatClampNeg 0)), (.int (1 : Int32)), (.ref b3)])) rfl rfl (hb hby d7_31)
  refine own_st st17 ?_
  show own_Go _ _ _ _ T17 (mkF m 34 #[.val (.ref r0), .val (.ref r1), .val (.int p2), .val (.long q3), .second, .val (.long q4), .second, .val (.ref r5), .val (.ref b3), .val (.int (1 : Int32))] [(.ref ab), (.long (xs.getD ((1 : Int32)).toNatClampNeg 0)), (.int (1 : Int32)), (.ref b3)])
  refine own_st (fun t k => XS.iload X17.here hx rfl (hb hby d7_34) rfl k) ?_
  show own_Go _ _ _ _ T17 (mkF m 36 #[.val (.ref r0), .val (.ref r1), .val (.int p2), .val (.long q3), .second, .val (.long q4), .second, .val (.ref r5), .val (.ref b3), .val (.int (1 : Int32))] [(.int (1 : Int32)), (.ref ab), (.long (xs.getD ((1 : Int32)).toNatClampNeg 0)), (.int (1 : Int32)), (.ref b3)])
  have V_ab_19 := (V_ab_10.other W13 ne_ab_b3)
  obtain ⟨cl18, Ar18, qk18, Sz18, Nn18, Hs18, Gf18⟩ := id V_ab_19
  have hin18 : ¬ ((1 : Int32) < 0 ∨ cl18.slots.size ≤ ((1 : Int32)).toNatClampNeg) := inb_of Sz18 ⟨by decide, by decide⟩
  have hat18 : cl18.slots[((1 : Int32)).toNatClampNeg]? = some (.long (own_z11.getD ((1 : Int32)).toNatClampNeg 0)) := Has.at Hs18 hin18 (own_getD_long own_z11 _)
  refine own_st (X17.laload hx (j := (1 : Int32)) (v := (.long (own_z11.getD ((1 : Int32)).toNatClampNeg 0))) (by rw [e17]; exact Ar18.1) (State.isArrayOf_alike hZ.alike Ar18.2.1) Ar18.2.2 hin18 hat18 (g := (mkF m 36 #[.val (.ref r0), .val (.ref r1), .val (.int p2), .val (.long q3), .second, .val (.long q4), .second, .val (.ref r5), .val (.ref b3), .val (.int (1 : Int32))] [(.int (1 : Int32)), (.ref ab), (.long (xs.getD ((1 : Int32)).toNatClampNeg 0)), (.int (1 : Int32)), (.ref b3)])) rfl rfl (hb hby d7_36)) ?_
  show own_Go _ _ _ _ T17 (mkF m 37 #[.val (.ref r0), .val (.ref r1), .val (.int p2), .val (.long q3), .second, .val (.long q4), .second, .val (.ref r5), .val (.ref b3), .val (.int (1 : Int32))] [(.long (own_z11.getD ((1 : Int32)).toNatClampNeg 0)), (.long (xs.getD ((1 : Int32)).toNatClampNeg 0)), (.int (1 : Int32)), (.ref b3)])
  refine own_st (fun t k => XS.ladd X17.here hx rfl (hb hby d7_37) rfl k) ?_
  show own_Go _ _ _ _ T17 (mkF m 38 #[.val (.ref r0), .val (.ref r1), .val (.int p2), .val (.long q3), .second, .val (.long q4), .second, .val (.ref r5), .val (.ref b3), .val (.int (1 : Int32))] [(.long ((xs.getD ((1 : Int32)).toNatClampNeg 0) + (own_z11.getD ((1 : Int32)).toNatClampNeg 0))), (.int (1 : Int32)), (.ref b3)])
  have K0_20 := (K0_11.wr W13 (Or.inr sz_b3))
  obtain ⟨cl21, Ar21, qk21, Sz21, Nn21, Hs21, Gf21⟩ := id V13
  have hin21 : ¬ ((1 : Int32) < 0 ∨ cl21.slots.size ≤ ((1 : Int32)).toNatClampNeg) := inb_of Sz21 ⟨by decide, by decide⟩
  obtain ⟨T22, h22, X22, e22, W22, st22⟩ := stJ X17 hx hZ e17 Ar21 (j := (1 : Int32)) hin21 (g := (mkF m 38 #[.val (.ref r0), .val (.ref r1), .val (.int p2), .val (.long q3), .second, .val (.long q4), .second, .val (.ref r5), .val (.ref b3), .val (.int (1 : Int32))] [(.long ((xs.getD ((1 : Int32)).toNatClampNeg 0) + (own_z11.getD ((1 : Int32)).toNatClampNeg 0))), (.int (1 : Int32)), (.ref b3)])) rfl rfl (hb hby d7_38)
  have V22 := own_setJ Ar21 qk21 Sz21 Nn21 Hs21 Gf21 W22 (by rw [hxs]; decide)
  rw [own_set_id _ _ (by rw [hxs]; decide)] at V22
  obtain ⟨_, X22, N22⟩ := own_hide X22 (Fr.snoc X22 N13 g_b3)
  refine own_st st22 ?_
  show own_Go _ _ _ _ T22 (mkF m 39 #[.val (.ref r0), .val (.ref r1), .val (.int p2), .val (.long q3), .second, .val (.long q4), .second, .val (.ref r5), .val (.ref b3), .val (.int (1 : Int32))] [])
  refine own_st (fun t k => XS.iinc X22.here hx rfl (hb hby d7_39) rfl (l' := #[.val (.ref r0), .val (.ref r1), .val (.int p2), .val (.long q3), .second, .val (.long q4), .second, .val (.ref r5), .val (.ref b3), .val (.int (2 : Int32))]) rfl k) ?_
  show own_Go _ _ _ _ T22 (mkF m 42 #[.val (.ref r0), .val (.ref r1), .val (.int p2), .val (.long q3), .second, .val (.long q4), .second, .val (.ref r5), .val (.ref b3), .val (.int (2 : Int32))] [])
  refine own_st (fun t k => XS.goto X22.here hx rfl (pc0 := 42) (pc' := 15) rfl (hb hby d7_42) (by decide) (by decide) k) ?_
  show own_Go _ _ _ _ T22 (mkF m 15 #[.val (.ref r0), .val (.ref r1), .val (.int p2), .val (.long q3), .second, .val (.long q4), .second, .val (.ref r5), .val (.ref b3), .val (.int (2 : Int32))] [])
  refine own_st (fun t k => XS.iload X22.here hx rfl (hb hby d7_15) rfl k) ?_
  show own_Go _ _ _ _ T22 (mkF m 17 #[.val (.ref r0), .val (.ref r1), .val (.int p2), .val (.long q3), .second, .val (.long q4), .second, .val (.ref r5), .val (.ref b3), .val (.int (2 : Int32))] [(.int (2 : Int32))])
  refine own_st (fun t k => XS.aload X22.here hx rfl (hb hby d7_17) rfl rfl k) ?_
  show own_Go _ _ _ _ T22 (mkF m 19 #[.val (.ref r0), .val (.ref r1), .val (.int p2), .val (.long q3), .second, .val (.long q4), .second, .val (.ref r5), .val (.ref b3), .val (.int (2 : Int32))] [(.ref b3), (.int (2 : Int32))])
  obtain ⟨cl23, Ar23, qk23, Sz23, Nn23, Hs23, Gf23⟩ := id V22
  refine own_st (X22.arraylength hx (by rw [e22]; exact Ar23.1) (State.isArrayOf_alike hZ.alike Ar23.2.1) (g := (mkF m 19 #[.val (.ref r0), .val (.ref r1), .val (.int p2), .val (.long q3), .second, .val (.long q4), .second, .val (.ref r5), .val (.ref b3), .val (.int (2 : Int32))] [(.ref b3), (.int (2 : Int32))])) rfl rfl (hb hby d7_19)) ?_
  rw [len_of Sz23 Nn23]
  show own_Go _ _ _ _ T22 (mkF m 20 #[.val (.ref r0), .val (.ref r1), .val (.int p2), .val (.long q3), .second, .val (.long q4), .second, .val (.ref r5), .val (.ref b3), .val (.int (2 : Int32))] [(.int (11 : Int32)), (.int (2 : Int32))])
  refine own_st (fun t k => XS.icmpNo X22.here hx rfl (hb hby d7_20) rfl (tlt (by decide : (2 : Int32) < (11 : Int32))).2.1 k) ?_
  show own_Go _ _ _ _ T22 (mkF m 23 #[.val (.ref r0), .val (.ref r1), .val (.int p2), .val (.long q3), .second, .val (.long q4), .second, .val (.ref r5), .val (.ref b3), .val (.int (2 : Int32))] [])
  refine own_st (fun t k => XS.aload X22.here hx rfl (hb hby d7_23) rfl rfl k) ?_
  show own_Go _ _ _ _ T22 (mkF m 25 #[.val (.ref r0), .val (.ref r1), .val (.int p2), .val (.long q3), .second, .val (.long q4), .second, .val (.ref r5), .val (.ref b3), .val (.int (2 : Int32))] [(.ref b3)])
  refine own_st (fun t k => XS.iload X22.here hx rfl (hb hby d7_25) rfl k) ?_
  show own_Go _ _ _ _ T22 (mkF m 27 #[.val (.ref r0), .val (.ref r1), .val (.int p2), .val (.long q3), .second, .val (.long q4), .second, .val (.ref r5), .val (.ref b3), .val (.int (2 : Int32))] [(.int (2 : Int32)), (.ref b3)])
  refine own_st (fun t k => Jvm.Free.XT.dup2 X22.here hx rfl (hb hby d7_27) rfl rfl rfl k) ?_
  show own_Go _ _ _ _ T22 (mkF m 28 #[.val (.ref r0), .val (.ref r1), .val (.int p2), .val (.long q3), .second, .val (.long q4), .second, .val (.ref r5), .val (.ref b3), .val (.int (2 : Int32))] [(.int (2 : Int32)), (.ref b3), (.int (2 : Int32)), (.ref b3)])
  obtain ⟨cl24, Ar24, qk24, Sz24, Nn24, Hs24, Gf24⟩ := id V22
  have hin24 : ¬ ((2 : Int32) < 0 ∨ cl24.slots.size ≤ ((2 : Int32)).toNatClampNeg) := inb_of Sz24 ⟨by decide, by decide⟩
  have hat24 : cl24.slots[((2 : Int32)).toNatClampNeg]? = some (.long (xs.getD ((2 : Int32)).toNatClampNeg 0)) := Has.at Hs24 hin24 (own_getD_long xs _)
  refine own_st (X22.laload hx (j := (2 : Int32)) (v := (.long (xs.getD ((2 : Int32)).toNatClampNeg 0))) (by rw [e22]; exact Ar24.1) (State.isArrayOf_alike hZ.alike Ar24.2.1) Ar24.2.2 hin24 hat24 (g := (mkF m 28 #[.val (.ref r0), .val (.ref r1), .val (.int p2), .val (.long q3), .second, .val (.long q4), .second, .val (.ref r5), .val (.ref b3), .val (.int (2 : Int32))] [(.int (2 : Int32)), (.ref b3), (.int (2 : Int32)), (.ref b3)])) rfl rfl (hb hby d7_28)) ?_
  show own_Go _ _ _ _ T22 (mkF m 29 #[.val (.ref r0), .val (.ref r1), .val (.int p2), .val (.long q3), .second, .val (.long q4), .second, .val (.ref r5), .val (.ref b3), .val (.int (2 : Int32))] [(.long (xs.getD ((2 : Int32)).toNatClampNeg 0)), (.int (2 : Int32)), (.ref b3)])
  refine own_st (fun t k => XS.aload X22.here hx rfl (hb hby d7_29) rfl rfl k) ?_
  show own_Go _ _ _ _ T22 (mkF m 31 #[.val (.ref r0), .val (.ref r1), .val (.int p2), .val (.long q3), .second, .val (.long q4), .second, .val (.ref r5), .val (.ref b3), .val (.int (2 : Int32))] [(.ref r5), (.long (xs.getD ((2 : Int32)).toNatClampNeg 0)), (.int (2 : Int32)), (.ref b3)])
  have F_counts_r5_25 := (F_counts_r5_16.other W22 (Or.inl ne_r5_b3))
  obtain ⟨T26, X26, e26, st26⟩ := getF X22 hx hZ hown (host := "") (Or.inl (hw _ (List.mem_of_getElem? (i := 52) rfl))) Via.refl e22 F_counts_r5_25 (g := (mkF m 31 #[.val (.ref r0), .val (.ref r1), .val (.int p2), .val (.long q3), .second, .val (.long q4), .second, .val (.ref r5), .val (.ref b3), .val (.int (2 : Int32))] [(.ref r5), (.long (xs.getD ((2 : Int32)).toNatClampNeg 0)), (.int (2 : Int32)), (.ref b3)])) rfl rfl (hb hby d7_31)
  refine own_st st26 ?_
  show own_Go _ _ _ _ T26 (mkF m 34 #[.val (.ref r0), .val (.ref r1), .val (.int p2), .val (.long q3), .second, .val (.long q4), .second, .val (.ref r5), .val (.ref b3), .val (.int (2 : Int32))] [(.ref ab), (.long (xs.getD ((2 : Int32)).toNatClampNeg 0)), (.int (2 : Int32)), (.ref b3)])
  refine own_st (fun t k => XS.iload X26.here hx rfl (hb hby d7_34) rfl k) ?_
  show own_Go _ _ _ _ T26 (mkF m 36 #[.val (.ref r0), .val (.ref r1), .val (.int p2), .val (.long q3), .second, .val (.long q4), .second, .val (.ref r5), .val (.ref b3), .val (.int (2 : Int32))] [(.int (2 : Int32)), (.ref ab), (.long (xs.getD ((2 : Int32)).toNatClampNeg 0)), (.int (2 : Int32)), (.ref b3)])
  have V_ab_28 := (V_ab_19.other W22 ne_ab_b3)
  obtain ⟨cl27, Ar27, qk27, Sz27, Nn27, Hs27, Gf27⟩ := id V_ab_28
  have hin27 : ¬ ((2 : Int32) < 0 ∨ cl27.slots.size ≤ ((2 : Int32)).toNatClampNeg) := inb_of Sz27 ⟨by decide, by decide⟩
  have hat27 : cl27.slots[((2 : Int32)).toNatClampNeg]? = some (.long (own_z11.getD ((2 : Int32)).toNatClampNeg 0)) := Has.at Hs27 hin27 (own_getD_long own_z11 _)
  refine own_st (X26.laload hx (j := (2 : Int32)) (v := (.long (own_z11.getD ((2 : Int32)).toNatClampNeg 0))) (by rw [e26]; exact Ar27.1) (State.isArrayOf_alike hZ.alike Ar27.2.1) Ar27.2.2 hin27 hat27 (g := (mkF m 36 #[.val (.ref r0), .val (.ref r1), .val (.int p2), .val (.long q3), .second, .val (.long q4), .second, .val (.ref r5), .val (.ref b3), .val (.int (2 : Int32))] [(.int (2 : Int32)), (.ref ab), (.long (xs.getD ((2 : Int32)).toNatClampNeg 0)), (.int (2 : Int32)), (.ref b3)])) rfl rfl (hb hby d7_36)) ?_
  show own_Go _ _ _ _ T26 (mkF m 37 #[.val (.ref r0), .val (.ref r1), .val (.int p2), .val (.long q3), .second, .val (.long q4), .second, .val (.ref r5), .val (.ref b3), .val (.int (2 : Int32))] [(.long (own_z11.getD ((2 : Int32)).toNatClampNeg 0)), (.long (xs.getD ((2 : Int32)).toNatClampNeg 0)), (.int (2 : Int32)), (.ref b3)])
  refine own_st (fun t k => XS.ladd X26.here hx rfl (hb hby d7_37) rfl k) ?_
  show own_Go _ _ _ _ T26 (mkF m 38 #[.val (.ref r0), .val (.ref r1), .val (.int p2), .val (.long q3), .second, .val (.long q4), .second, .val (.ref r5), .val (.ref b3), .val (.int (2 : Int32))] [(.long ((xs.getD ((2 : Int32)).toNatClampNeg 0) + (own_z11.getD ((2 : Int32)).toNatClampNeg 0))), (.int (2 : Int32)), (.ref b3)])
  have K0_29 := (K0_20.wr W22 (Or.inr sz_b3))
  obtain ⟨cl30, Ar30, qk30, Sz30, Nn30, Hs30, Gf30⟩ := id V22
  have hin30 : ¬ ((2 : Int32) < 0 ∨ cl30.slots.size ≤ ((2 : Int32)).toNatClampNeg) := inb_of Sz30 ⟨by decide, by decide⟩
  obtain ⟨T31, h31, X31, e31, W31, st31⟩ := stJ X26 hx hZ e26 Ar30 (j := (2 : Int32)) hin30 (g := (mkF m 38 #[.val (.ref r0), .val (.ref r1), .val (.int p2), .val (.long q3), .second, .val (.long q4), .second, .val (.ref r5), .val (.ref b3), .val (.int (2 : Int32))] [(.long ((xs.getD ((2 : Int32)).toNatClampNeg 0) + (own_z11.getD ((2 : Int32)).toNatClampNeg 0))), (.int (2 : Int32)), (.ref b3)])) rfl rfl (hb hby d7_38)
  have V31 := own_setJ Ar30 qk30 Sz30 Nn30 Hs30 Gf30 W31 (by rw [hxs]; decide)
  rw [own_set_id _ _ (by rw [hxs]; decide)] at V31
  obtain ⟨_, X31, N31⟩ := own_hide X31 (Fr.snoc X31 N22 g_b3)
  refine own_st st31 ?_
  show own_Go _ _ _ _ T31 (mkF m 39 #[.val (.ref r0), .val (.ref r1), .val (.int p2), .val (.long q3), .second, .val (.long q4), .second, .val (.ref r5), .val (.ref b3), .val (.int (2 : Int32))] [])
  refine own_st (fun t k => XS.iinc X31.here hx rfl (hb hby d7_39) rfl (l' := #[.val (.ref r0), .val (.ref r1), .val (.int p2), .val (.long q3), .second, .val (.long q4), .second, .val (.ref r5), .val (.ref b3), .val (.int (3 : Int32))]) rfl k) ?_
  show own_Go _ _ _ _ T31 (mkF m 42 #[.val (.ref r0), .val (.ref r1), .val (.int p2), .val (.long q3), .second, .val (.long q4), .second, .val (.ref r5), .val (.ref b3), .val (.int (3 : Int32))] [])
  refine own_st (fun t k => XS.goto X31.here hx rfl (pc0 := 42) (pc' := 15) rfl (hb hby d7_42) (by decide) (by decide) k) ?_
  show own_Go _ _ _ _ T31 (mkF m 15 #[.val (.ref r0), .val (.ref r1), .val (.int p2), .val (.long q3), .second, .val (.long q4), .second, .val (.ref r5), .val (.ref b3), .val (.int (3 : Int32))] [])
  refine own_st (fun t k => XS.iload X31.here hx rfl (hb hby d7_15) rfl k) ?_
  show own_Go _ _ _ _ T31 (mkF m 17 #[.val (.ref r0), .val (.ref r1), .val (.int p2), .val (.long q3), .second, .val (.long q4), .second, .val (.ref r5), .val (.ref b3), .val (.int (3 : Int32))] [(.int (3 : Int32))])
  refine own_st (fun t k => XS.aload X31.here hx rfl (hb hby d7_17) rfl rfl k) ?_
  show own_Go _ _ _ _ T31 (mkF m 19 #[.val (.ref r0), .val (.ref r1), .val (.int p2), .val (.long q3), .second, .val (.long q4), .second, .val (.ref r5), .val (.ref b3), .val (.int (3 : Int32))] [(.ref b3), (.int (3 : Int32))])
  obtain ⟨cl32, Ar32, qk32, Sz32, Nn32, Hs32, Gf32⟩ := id V31
  refine own_st (X31.arraylength hx (by rw [e31]; exact Ar32.1) (State.isArrayOf_alike hZ.alike Ar32.2.1) (g := (mkF m 19 #[.val (.ref r0), .val (.ref r1), .val (.int p2), .val (.long q3), .second, .val (.long q4), .second, .val (.ref r5), .val (.ref b3), .val (.int (3 : Int32))] [(.ref b3), (.int (3 : Int32))])) rfl rfl (hb hby d7_19)) ?_
  rw [len_of Sz32 Nn32]
  show own_Go _ _ _ _ T31 (mkF m 20 #[.val (.ref r0), .val (.ref r1), .val (.int p2), .val (.long q3), .second, .val (.long q4), .second, .val (.ref r5), .val (.ref b3), .val (.int (3 : Int32))] [(.int (11 : Int32)), (.int (3 : Int32))])
  refine own_st (fun t k => XS.icmpNo X31.here hx rfl (hb hby d7_20) rfl (tlt (by decide : (3 : Int32) < (11 : Int32))).2.1 k) ?_
  show own_Go _ _ _ _ T31 (mkF m 23 #[.val (.ref r0), .val (.ref r1), .val (.int p2), .val (.long q3), .second, .val (.long q4), .second, .val (.ref r5), .val (.ref b3), .val (.int (3 : Int32))] [])
  refine own_st (fun t k => XS.aload X31.here hx rfl (hb hby d7_23) rfl rfl k) ?_
  show own_Go _ _ _ _ T31 (mkF m 25 #[.val (.ref r0), .val (.ref r1), .val (.int p2), .val (.long q3), .second, .val (.long q4), .second, .val (.ref r5), .val (.ref b3), .val (.int (3 : Int32))] [(.ref b3)])
  refine own_st (fun t k => XS.iload X31.here hx rfl (hb hby d7_25) rfl k) ?_
  show own_Go _ _ _ _ T31 (mkF m 27 #[.val (.ref r0), .val (.ref r1), .val (.int p2), .val (.long q3), .second, .val (.long q4), .second, .val (.ref r5), .val (.ref b3), .val (.int (3 : Int32))] [(.int (3 : Int32)), (.ref b3)])
  refine own_st (fun t k => Jvm.Free.XT.dup2 X31.here hx rfl (hb hby d7_27) rfl rfl rfl k) ?_
  show own_Go _ _ _ _ T31 (mkF m 28 #[.val (.ref r0), .val (.ref r1), .val (.int p2), .val (.long q3), .second, .val (.long q4), .second, .val (.ref r5), .val (.ref b3), .val (.int (3 : Int32))] [(.int (3 : Int32)), (.ref b3), (.int (3 : Int32)), (.ref b3)])
  obtain ⟨cl33, Ar33, qk33, Sz33, Nn33, Hs33, Gf33⟩ := id V31
  have hin33 : ¬ ((3 : Int32) < 0 ∨ cl33.slots.size ≤ ((3 : Int32)).toNatClampNeg) := inb_of Sz33 ⟨by decide, by decide⟩
  have hat33 : cl33.slots[((3 : Int32)).toNatClampNeg]? = some (.long (xs.getD ((3 : Int32)).toNatClampNeg 0)) := Has.at Hs33 hin33 (own_getD_long xs _)
  refine own_st (X31.laload hx (j := (3 : Int32)) (v := (.long (xs.getD ((3 : Int32)).toNatClampNeg 0))) (by rw [e31]; exact Ar33.1) (State.isArrayOf_alike hZ.alike Ar33.2.1) Ar33.2.2 hin33 hat33 (g := (mkF m 28 #[.val (.ref r0), .val (.ref r1), .val (.int p2), .val (.long q3), .second, .val (.long q4), .second, .val (.ref r5), .val (.ref b3), .val (.int (3 : Int32))] [(.int (3 : Int32)), (.ref b3), (.int (3 : Int32)), (.ref b3)])) rfl rfl (hb hby d7_28)) ?_
  show own_Go _ _ _ _ T31 (mkF m 29 #[.val (.ref r0), .val (.ref r1), .val (.int p2), .val (.long q3), .second, .val (.long q4), .second, .val (.ref r5), .val (.ref b3), .val (.int (3 : Int32))] [(.long (xs.getD ((3 : Int32)).toNatClampNeg 0)), (.int (3 : Int32)), (.ref b3)])
  refine own_st (fun t k => XS.aload X31.here hx rfl (hb hby d7_29) rfl rfl k) ?_
  show own_Go _ _ _ _ T31 (mkF m 31 #[.val (.ref r0), .val (.ref r1), .val (.int p2), .val (.long q3), .second, .val (.long q4), .second, .val (.ref r5), .val (.ref b3), .val (.int (3 : Int32))] [(.ref r5), (.long (xs.getD ((3 : Int32)).toNatClampNeg 0)), (.int (3 : Int32)), (.ref b3)])
  have F_counts_r5_34 := (F_counts_r5_25.other W31 (Or.inl ne_r5_b3))
  obtain ⟨T35, X35, e35, st35⟩ := getF X31 hx hZ hown (host := "") (Or.inl (hw _ (List.mem_of_getElem? (i := 52) rfl))) Via.refl e31 F_counts_r5_34 (g := (mkF m 31 #[.val (.ref r0), .val (.ref r1), .val (.int p2), .val (.long q3), .second, .val (.long q4), .second, .val (.ref r5), .val (.ref b3), .val (.int (3 : Int32))] [(.ref r5), (.long (xs.getD ((3 : Int32)).toNatClampNeg 0)), (.int (3 : Int32)), (.ref b3)])) rfl rfl (hb hby d7_31)
  refine own_st st35 ?_
  show own_Go _ _ _ _ T35 (mkF m 34 #[.val (.ref r0), .val (.ref r1), .val (.int p2), .val (.long q3), .second, .val (.long q4), .second, .val (.ref r5), .val (.ref b3), .val (.int (3 : Int32))] [(.ref ab), (.long (xs.getD ((3 : Int32)).toNatClampNeg 0)), (.int (3 : Int32)), (.ref b3)])
  refine own_st (fun t k => XS.iload X35.here hx rfl (hb hby d7_34) rfl k) ?_
  show own_Go _ _ _ _ T35 (mkF m 36 #[.val (.ref r0), .val (.ref r1), .val (.int p2), .val (.long q3), .second, .val (.long q4), .second, .val (.ref r5), .val (.ref b3), .val (.int (3 : Int32))] [(.int (3 : Int32)), (.ref ab), (.long (xs.getD ((3 : Int32)).toNatClampNeg 0)), (.int (3 : Int32)), (.ref b3)])
  have V_ab_37 := (V_ab_28.other W31 ne_ab_b3)
  obtain ⟨cl36, Ar36, qk36, Sz36, Nn36, Hs36, Gf36⟩ := id V_ab_37
  have hin36 : ¬ ((3 : Int32) < 0 ∨ cl36.slots.size ≤ ((3 : Int32)).toNatClampNeg) := inb_of Sz36 ⟨by decide, by decide⟩
  have hat36 : cl36.slots[((3 : Int32)).toNatClampNeg]? = some (.long (own_z11.getD ((3 : Int32)).toNatClampNeg 0)) := Has.at Hs36 hin36 (own_getD_long own_z11 _)
  refine own_st (X35.laload hx (j := (3 : Int32)) (v := (.long (own_z11.getD ((3 : Int32)).toNatClampNeg 0))) (by rw [e35]; exact Ar36.1) (State.isArrayOf_alike hZ.alike Ar36.2.1) Ar36.2.2 hin36 hat36 (g := (mkF m 36 #[.val (.ref r0), .val (.ref r1), .val (.int p2), .val (.long q3), .second, .val (.long q4), .second, .val (.ref r5), .val (.ref b3), .val (.int (3 : Int32))] [(.int (3 : Int32)), (.ref ab), (.long (xs.getD ((3 : Int32)).toNatClampNeg 0)), (.int (3 : Int32)), (.ref b3)])) rfl rfl (hb hby d7_36)) ?_
  show own_Go _ _ _ _ T35 (mkF m 37 #[.val (.ref r0), .val (.ref r1), .val (.int p2), .val (.long q3), .second, .val (.long q4), .second, .val (.ref r5), .val (.ref b3), .val (.int (3 : Int32))] [(.long (own_z11.getD ((3 : Int32)).toNatClampNeg 0)), (.long (xs.getD ((3 : Int32)).toNatClampNeg 0)), (.int (3 : Int32)), (.ref b3)])
  refine own_st (fun t k => XS.ladd X35.here hx rfl (hb hby d7_37) rfl k) ?_
  show own_Go _ _ _ _ T35 (mkF m 38 #[.val (.ref r0), .val (.ref r1), .val (.int p2), .val (.long q3), .second, .val (.long q4), .second, .val (.ref r5), .val (.ref b3), .val (.int (3 : Int32))] [(.long ((xs.getD ((3 : Int32)).toNatClampNeg 0) + (own_z11.getD ((3 : Int32)).toNatClampNeg 0))), (.int (3 : Int32)), (.ref b3)])
  have K0_38 := (K0_29.wr W31 (Or.inr sz_b3))
  obtain ⟨cl39, Ar39, qk39, Sz39, Nn39, Hs39, Gf39⟩ := id V31
  have hin39 : ¬ ((3 : Int32) < 0 ∨ cl39.slots.size ≤ ((3 : Int32)).toNatClampNeg) := inb_of Sz39 ⟨by decide, by decide⟩
  obtain ⟨T40, h40, X40, e40, W40, st40⟩ := stJ X35 hx hZ e35 Ar39 (j := (3 : Int32)) hin39 (g := (mkF m 38 #[.val (.ref r0), .val (.ref r1), .val (.int p2), .val (.long q3), .second, .val (.long q4), .second, .val (.ref r5), .val (.ref b3), .val (.int (3 : Int32))] [(.long ((xs.getD ((3 : Int32)).toNatClampNeg 0) + (own_z11.getD ((3 : Int32)).toNatClampNeg 0))), (.int (3 : Int32)), (.ref b3)])) rfl rfl (hb hby d7_38)
  have V40 := own_setJ Ar39 qk39 Sz39 Nn39 Hs39 Gf39 W40 (by rw [hxs]; decide)
  rw [own_set_id _ _ (by rw [hxs]; decide)] at V40
  obtain ⟨_, X40, N40⟩ := own_hide X40 (Fr.snoc X40 N31 g_b3)
  refine own_st st40 ?_
  show own_Go _ _ _ _ T40 (mkF m 39 #[.val (.ref r0), .val (.ref r1), .val (.int p2), .val (.long q3), .second, .val (.long q4), .second, .val (.ref r5), .val (.ref b3), .val (.int (3 : Int32))] [])
  refine own_st (fun t k => XS.iinc X40.here hx rfl (hb hby d7_39) rfl (l' := #[.val (.ref r0), .val (.ref r1), .val (.int p2), .val (.long q3), .second, .val (.long q4), .second, .val (.ref r5), .val (.ref b3), .val (.int (4 : Int32))]) rfl k) ?_
  show own_Go _ _ _ _ T40 (mkF m 42 #[.val (.ref r0), .val (.ref r1), .val (.int p2), .val (.long q3), .second, .val (.long q4), .second, .val (.ref r5), .val (.ref b3), .val (.int (4 : Int32))] [])
  refine own_st (fun t k => XS.goto X40.here hx rfl (pc0 := 42) (pc' := 15) rfl (hb hby d7_42) (by decide) (by decide) k) ?_
  show own_Go _ _ _ _ T40 (mkF m 15 #[.val (.ref r0), .val (.ref r1), .val (.int p2), .val (.long q3), .second, .val (.long q4), .second, .val (.ref r5), .val (.ref b3), .val (.int (4 : Int32))] [])
  refine own_st (fun t k => XS.iload X40.here hx rfl (hb hby d7_15) rfl k) ?_
  show own_Go _ _ _ _ T40 (mkF m 17 #[.val (.ref r0), .val (.ref r1), .val (.int p2), .val (.long q3), .second, .val (.long q4), .second, .val (.ref r5), .val (.ref b3), .val (.int (4 : Int32))] [(.int (4 : Int32))])
  refine own_st (fun t k => XS.aload X40.here hx rfl (hb hby d7_17) rfl rfl k) ?_
  show own_Go _ _ _ _ T40 (mkF m 19 #[.val (.ref r0), .val (.ref r1), .val (.int p2), .val (.long q3), .second, .val (.long q4), .second, .val (.ref r5), .val (.ref b3), .val (.int (4 : Int32))] [(.ref b3), (.int (4 : Int32))])
  obtain ⟨cl41, Ar41, qk41, Sz41, Nn41, Hs41, Gf41⟩ := id V40
  refine own_st (X40.arraylength hx (by rw [e40]; exact Ar41.1) (State.isArrayOf_alike hZ.alike Ar41.2.1) (g := (mkF m 19 #[.val (.ref r0), .val (.ref r1), .val (.int p2), .val (.long q3), .second, .val (.long q4), .second, .val (.ref r5), .val (.ref b3), .val (.int (4 : Int32))] [(.ref b3), (.int (4 : Int32))])) rfl rfl (hb hby d7_19)) ?_
  rw [len_of Sz41 Nn41]
  show own_Go _ _ _ _ T40 (mkF m 20 #[.val (.ref r0), .val (.ref r1), .val (.int p2), .val (.long q3), .second, .val (.long q4), .second, .val (.ref r5), .val (.ref b3), .val (.int (4 : Int32))] [(.int (11 : Int32)), (.int (4 : Int32))])
  refine own_st (fun t k => XS.icmpNo X40.here hx rfl (hb hby d7_20) rfl (tlt (by decide : (4 : Int32) < (11 : Int32))).2.1 k) ?_
  show own_Go _ _ _ _ T40 (mkF m 23 #[.val (.ref r0), .val (.ref r1), .val (.int p2), .val (.long q3), .second, .val (.long q4), .second, .val (.ref r5), .val (.ref b3), .val (.int (4 : Int32))] [])
  refine own_st (fun t k => XS.aload X40.here hx rfl (hb hby d7_23) rfl rfl k) ?_
  show own_Go _ _ _ _ T40 (mkF m 25 #[.val (.ref r0), .val (.ref r1), .val (.int p2), .val (.long q3), .second, .val (.long q4), .second, .val (.ref r5), .val (.ref b3), .val (.int (4 : Int32))] [(.ref b3)])
  refine own_st (fun t k => XS.iload X40.here hx rfl (hb hby d7_25) rfl k) ?_
  show own_Go _ _ _ _ T40 (mkF m 27 #[.val (.ref r0), .val (.ref r1), .val (.int p2), .val (.long q3), .second, .val (.long q4), .second, .val (.ref r5), .val (.ref b3), .val (.int (4 : Int32))] [(.int (4 : Int32)), (.ref b3)])
  refine own_st (fun t k => Jvm.Free.XT.dup2 X40.here hx rfl (hb hby d7_27) rfl rfl rfl k) ?_
  show own_Go _ _ _ _ T40 (mkF m 28 #[.val (.ref r0), .val (.ref r1), .val (.int p2), .val (.long q3), .second, .val (.long q4), .second, .val (.ref r5), .val (.ref b3), .val (.int (4 : Int32))] [(.int (4 : Int32)), (.ref b3), (.int (4 : Int32)), (.ref b3)])
  obtain ⟨cl42, Ar42, qk42, Sz42, Nn42, Hs42, Gf42⟩ := id V40
  have hin42 : ¬ ((4 : Int32) < 0 ∨ cl42.slots.size ≤ ((4 : Int32)).toNatClampNeg) := inb_of Sz42 ⟨by decide, by decide⟩
  have hat42 : cl42.slots[((4 : Int32)).toNatClampNeg]? = some (.long (xs.getD ((4 : Int32)).toNatClampNeg 0)) := Has.at Hs42 hin42 (own_getD_long xs _)
  refine own_st (X40.laload hx (j := (4 : Int32)) (v := (.long (xs.getD ((4 : Int32)).toNatClampNeg 0))) (by rw [e40]; exact Ar42.1) (State.isArrayOf_alike hZ.alike Ar42.2.1) Ar42.2.2 hin42 hat42 (g := (mkF m 28 #[.val (.ref r0), .val (.ref r1), .val (.int p2), .val (.long q3), .second, .val (.long q4), .second, .val (.ref r5), .val (.ref b3), .val (.int (4 : Int32))] [(.int (4 : Int32)), (.ref b3), (.int (4 : Int32)), (.ref b3)])) rfl rfl (hb hby d7_28)) ?_
  show own_Go _ _ _ _ T40 (mkF m 29 #[.val (.ref r0), .val (.ref r1), .val (.int p2), .val (.long q3), .second, .val (.long q4), .second, .val (.ref r5), .val (.ref b3), .val (.int (4 : Int32))] [(.long (xs.getD ((4 : Int32)).toNatClampNeg 0)), (.int (4 : Int32)), (.ref b3)])
  refine own_st (fun t k => XS.aload X40.here hx rfl (hb hby d7_29) rfl rfl k) ?_
  show own_Go _ _ _ _ T40 (mkF m 31 #[.val (.ref r0), .val (.ref r1), .val (.int p2), .val (.long q3), .second, .val (.long q4), .second, .val (.ref r5), .val (.ref b3), .val (.int (4 : Int32))] [(.ref r5), (.long (xs.getD ((4 : Int32)).toNatClampNeg 0)), (.int (4 : Int32)), (.ref b3)])
  have F_counts_r5_43 := (F_counts_r5_34.other W40 (Or.inl ne_r5_b3))
  obtain ⟨T44, X44, e44, st44⟩ := getF X40 hx hZ hown (host := "") (Or.inl (hw _ (List.mem_of_getElem? (i := 52) rfl))) Via.refl e40 F_counts_r5_43 (g := (mkF m 31 #[.val (.ref r0), .val (.ref r1), .val (.int p2), .val (.long q3), .second, .val (.long q4), .second, .val (.ref r5), .val (.ref b3), .val (.int (4 : Int32))] [(.ref r5), (.long (xs.getD ((4 : Int32)).toNatClampNeg 0)), (.int (4 : Int32)), (.ref b3)])) rfl rfl (hb hby d7_31)
  refine own_st st44 ?_
  show own_Go _ _ _ _ T44 (mkF m 34 #[.val (.ref r0), .val (.ref r1), .val (.int p2), .val (.long q3), .second, .val (.long q4), .second, .val (.ref r5), .val (.ref b3), .val (.int (4 : Int32))] [(.ref ab), (.long (xs.getD ((4 : Int32)).toNatClampNeg 0)), (.int (4 : Int32)), (.ref b3)])
  refine own_st (fun t k => XS.iload X44.here hx rfl (hb hby d7_34) rfl k) ?_
  show own_Go _ _ _ _ T44 (mkF m 36 #[.val (.ref r0), .val (.ref r1), .val (.int p2), .val (.long q3), .second, .val (.long q4), .second, .val (.ref r5), .val (.ref b3), .val (.int (4 : Int32))] [(.int (4 : Int32)), (.ref ab), (.long (xs.getD ((4 : Int32)).toNatClampNeg 0)), (.int (4 : Int32)), (.ref b3)])
  have V_ab_46 := (V_ab_37.other W40 ne_ab_b3)
  obtain ⟨cl45, Ar45, qk45, Sz45, Nn45, Hs45, Gf45⟩ := id V_ab_46
  have hin45 : ¬ ((4 : Int32) < 0 ∨ cl45.slots.size ≤ ((4 : Int32)).toNatClampNeg) := inb_of Sz45 ⟨by decide, by decide⟩
  have hat45 : cl45.slots[((4 : Int32)).toNatClampNeg]? = some (.long (own_z11.getD ((4 : Int32)).toNatClampNeg 0)) := Has.at Hs45 hin45 (own_getD_long own_z11 _)
  refine own_st (X44.laload hx (j := (4 : Int32)) (v := (.long (own_z11.getD ((4 : Int32)).toNatClampNeg 0))) (by rw [e44]; exact Ar45.1) (State.isArrayOf_alike hZ.alike Ar45.2.1) Ar45.2.2 hin45 hat45 (g := (mkF m 36 #[.val (.ref r0), .val (.ref r1), .val (.int p2), .val (.long q3), .second, .val (.long q4), .second, .val (.ref r5), .val (.ref b3), .val (.int (4 : Int32))] [(.int (4 : Int32)), (.ref ab), (.long (xs.getD ((4 : Int32)).toNatClampNeg 0)), (.int (4 : Int32)), (.ref b3)])) rfl rfl (hb hby d7_36)) ?_
  show own_Go _ _ _ _ T44 (mkF m 37 #[.val (.ref r0), .val (.ref r1), .val (.int p2), .val (.long q3), .second, .val (.long q4), .second, .val (.ref r5), .val (.ref b3), .val (.int (4 : Int32))] [(.long (own_z11.getD ((4 : Int32)).toNatClampNeg 0)), (.long (xs.getD ((4 : Int32)).toNatClampNeg 0)), (.int (4 : Int32)), (.ref b3)])
  refine own_st (fun t k => XS.ladd X44.here hx rfl (hb hby d7_37) rfl k) ?_
  show own_Go _ _ _ _ T44 (mkF m 38 #[.val (.ref r0), .val (.ref r1), .val (.int p2), .val (.long q3), .second, .val (.long q4), .second, .val (.ref r5), .val (.ref b3), .val (.int (4 : Int32))] [(.long ((xs.getD ((4 : Int32)).toNatClampNeg 0) + (own_z11.getD ((4 : Int32)).toNatClampNeg 0))), (.int (4 : Int32)), (.ref b3)])
  have K0_47 := (K0_38.wr W40 (Or.inr sz_b3))
  obtain ⟨cl48, Ar48, qk48, Sz48, Nn48, Hs48, Gf48⟩ := id V40
  have hin48 : ¬ ((4 : Int32) < 0 ∨ cl48.slots.size ≤ ((4 : Int32)).toNatClampNeg) := inb_of Sz48 ⟨by decide, by decide⟩
  obtain ⟨T49, h49, X49, e49, W49, st49⟩ := stJ X44 hx hZ e44 Ar48 (j := (4 : Int32)) hin48 (g := (mkF m 38 #[.val (.ref r0), .val (.ref r1), .val (.int p2), .val (.long q3), .second, .val (.long q4), .second, .val (.ref r5), .val (.ref b3), .val (.int (4 : Int32))] [(.long ((xs.getD ((4 : Int32)).toNatClampNeg 0) + (own_z11.getD ((4 : Int32)).toNatClampNeg 0))), (.int (4 : Int32)), (.ref b3)])) rfl rfl (hb hby d7_38)
  have V49 := own_setJ Ar48 qk48 Sz48 Nn48 Hs48 Gf48 W49 (by rw [hxs]; decide)
  rw [own_set_id _ _ (by rw [hxs]; decide)] at V49
  obtain ⟨_, X49, N49⟩ := own_hide X49 (Fr.snoc X49 N40 g_b3)
  refine own_st st49 ?_
  show own_Go _ _ _ _ T49 (mkF m 39 #[.val (.ref r0), .val (.ref r1), .val (.int p2), .val (.long q3), .second, .val (.long q4), .second, .val (.ref r5), .val (.ref b3), .val (.int (4 : Int32))] [])
  refine own_st (fun t k => XS.iinc X49.here hx rfl (hb hby d7_39) rfl (l' := #[.val (.ref r0), .val (.ref r1), .val (.int p2), .val (.long q3), .second, .val (.long q4), .second, .val (.ref r5), .val (.ref b3), .val (.int (5 : Int32))]) rfl k) ?_
  show own_Go _ _ _ _ T49 (mkF m 42 #[.val (.ref r0), .val (.ref r1), .val (.int p2), .val (.long q3), .second, .val (.long q4), .second, .val (.ref r5), .val (.ref b3), .val (.int (5 : Int32))] [])
  refine own_st (fun t k => XS.goto X49.here hx rfl (pc0 := 42) (pc' := 15) rfl (hb hby d7_42) (by decide) (by decide) k) ?_
  show own_Go _ _ _ _ T49 (mkF m 15 #[.val (.ref r0), .val (.ref r1), .val (.int p2), .val (.long q3), .second, .val (.long q4), .second, .val (.ref r5), .val (.ref b3), .val (.int (5 : Int32))] [])
  refine own_st (fun t k => XS.iload X49.here hx rfl (hb hby d7_15) rfl k) ?_
  show own_Go _ _ _ _ T49 (mkF m 17 #[.val (.ref r0), .val (.ref r1), .val (.int p2), .val (.long q3), .second, .val (.long q4), .second, .val (.ref r5), .val (.ref b3), .val (.int (5 : Int32))] [(.int (5 : Int32))])
  refine own_st (fun t k => XS.aload X49.here hx rfl (hb hby d7_17) rfl rfl k) ?_
  show own_Go _ _ _ _ T49 (mkF m 19 #[.val (.ref r0), .val (.ref r1), .val (.int p2), .val (.long q3), .second, .val (.long q4), .second, .val (.ref r5), .val (.ref b3), .val (.int (5 : Int32))] [(.ref b3), (.int (5 : Int32))])
  obtain ⟨cl50, Ar50, qk50, Sz50, Nn50, Hs50, Gf50⟩ := id V49
  refine own_st (X49.arraylength hx (by rw [e49]; exact Ar50.1) (State.isArrayOf_alike hZ.alike Ar50.2.1) (g := (mkF m 19 #[.val (.ref r0), .val (.ref r1), .val (.int p2), .val (.long q3), .second, .val (.long q4), .second, .val (.ref r5), .val (.ref b3), .val (.int (5 : Int32))] [(.ref b3), (.int (5 : Int32))])) rfl rfl (hb hby d7_19)) ?_
  rw [len_of Sz50 Nn50]
  show own_Go _ _ _ _ T49 (mkF m 20 #[.val (.ref r0), .val (.ref r1), .val (.int p2), .val (.long q3), .second, .val (.long q4), .second, .val (.ref r5), .val (.ref b3), .val (.int (5 : Int32))] [(.int (11 : Int32)), (.int (5 : Int32))])
  refine own_st (fun t k => XS.icmpNo X49.here hx rfl (hb hby d7_20) rfl (tlt (by decide : (5 : Int32) < (11 : Int32))).2.1 k) ?_
  show own_Go _ _ _ _ T49 (mkF m 23 #[.val (.ref r0), .val (.ref r1), .val (.int p2), .val (.long q3), .second, .val (.long q4), .second, .val (.ref r5), .val (.ref b3), .val (.int (5 : Int32))] [])
  refine own_st (fun t k => XS.aload X49.here hx rfl (hb hby d7_23) rfl rfl k) ?_
  show own_Go _ _ _ _ T49 (mkF m 25 #[.val (.ref r0), .val (.ref r1), .val (.int p2), .val (.long q3), .second, .val (.long q4), .second, .val (.ref r5), .val (.ref b3), .val (.int (5 : Int32))] [(.ref b3)])
  refine own_st (fun t k => XS.iload X49.here hx rfl (hb hby d7_25) rfl k) ?_
  show own_Go _ _ _ _ T49 (mkF m 27 #[.val (.ref r0), .val (.ref r1), .val (.int p2), .val (.long q3), .second, .val (.long q4), .second, .val (.ref r5), .val (.ref b3), .val (.int (5 : Int32))] [(.int (5 : Int32)), (.ref b3)])
  refine own_st (fun t k => Jvm.Free.XT.dup2 X49.here hx rfl (hb hby d7_27) rfl rfl rfl k) ?_
  show own_Go _ _ _ _ T49 (mkF m 28 #[.val (.ref r0), .val (.ref r1), .val (.int p2), .val (.long q3), .second, .val (.long q4), .second, .val (.ref r5), .val (.ref b3), .val (.int (5 : Int32))] [(.int (5 : Int32)), (.ref b3), (.int (5 : Int32)), (.ref b3)])
  obtain ⟨cl51, Ar51, qk51, Sz51, Nn51, Hs51, Gf51⟩ := id V49
  have hin51 : ¬ ((5 : Int32) < 0 ∨ cl51.slots.size ≤ ((5 : Int32)).toNatClampNeg) := inb_of Sz51 ⟨by decide, by decide⟩
  have hat51 : cl51.slots[((5 : Int32)).toNatClampNeg]? = some (.long (xs.getD ((5 : Int32)).toNatClampNeg 0)) := Has.at Hs51 hin51 (own_getD_long xs _)
  refine own_st (X49.laload hx (j := (5 : Int32)) (v := (.long (xs.getD ((5 : Int32)).toNatClampNeg 0))) (by rw [e49]; exact Ar51.1) (State.isArrayOf_alike hZ.alike Ar51.2.1) Ar51.2.2 hin51 hat51 (g := (mkF m 28 #[.val (.ref r0), .val (.ref r1), .val (.int p2), .val (.long q3), .second, .val (.long q4), .second, .val (.ref r5), .val (.ref b3), .val (.int (5 : Int32))] [(.int (5 : Int32)), (.ref b3), (.int (5 : Int32)), (.ref b3)])) rfl rfl (hb hby d7_28)) ?_
  show own_Go _ _ _ _ T49 (mkF m 29 #[.val (.ref r0), .val (.ref r1), .val (.int p2), .val (.long q3), .second, .val (.long q4), .second, .val (.ref r5), .val (.ref b3), .val (.int (5 : Int32))] [(.long (xs.getD ((5 : Int32)).toNatClampNeg 0)), (.int (5 : Int32)), (.ref b3)])
  refine own_st (fun t k => XS.aload X49.here hx rfl (hb hby d7_29) rfl rfl k) ?_
  show own_Go _ _ _ _ T49 (mkF m 31 #[.val (.ref r0), .val (.ref r1), .val (.int p2), .val (.long q3), .second, .val (.long q4), .second, .val (.ref r5), .val (.ref b3), .val (.int (5 : Int32))] [(.ref r5), (.long (xs.getD ((5 : Int32)).toNatClampNeg 0)), (.int (5 : Int32)), (.ref b3)])
  have F_counts_r5_52 := (F_counts_r5_43.other W49 (Or.inl ne_r5_b3))
  obtain ⟨T53, X53, e53, st53⟩ := getF X49 hx hZ hown (host := "") (Or.inl (hw _ (List.mem_of_getElem? (i := 52) rfl))) Via.refl e49 F_counts_r5_52 (g := (mkF m 31 #[.val (.ref r0), .val (.ref r1), .val (.int p2), .val (.long q3), .second, .val (.long q4), .second, .val (.ref r5), .val (.ref b3), .val (.int (5 : Int32))] [(.ref r5), (.long (xs.getD ((5 : Int32)).toNatClampNeg 0)), (.int (5 : Int32)), (.ref b3)])) rfl rfl (hb hby d7_31)
  refine own_st st53 ?_
  show own_Go _ _ _ _ T53 (mkF m 34 #[.val (.ref r0), .val (.ref r1), .val (.int p2), .val (.long q3), .second, .val (.long q4), .second, .val (.ref r5), .val (.ref b3), .val (.int (5 : Int32))] [(.ref ab), (.long (xs.getD ((5 : Int32)).toNatClampNeg 0)), (.int (5 : Int32)), (.ref b3)])
  refine own_st (fun t k => XS.iload X53.here hx rfl (hb hby d7_34) rfl k) ?_
  show own_Go _ _ _ _ T53 (mkF m 36 #[.val (.ref r0), .val (.ref r1), .val (.int p2), .val (.long q3), .second, .val (.long q4), .second, .val (.ref r5), .val (.ref b3), .val (.int (5 : Int32))] [(.int (5 : Int32)), (.ref ab), (.long (xs.getD ((5 : Int32)).toNatClampNeg 0)), (.int (5 : Int32)), (.ref b3)])
  have V_ab_55 := (V_ab_46.other W49 ne_ab_b3)
  obtain ⟨cl54, Ar54, qk54, Sz54, Nn54, Hs54, Gf54⟩ := id V_ab_55
  have hin54 : ¬ ((5 : Int32) < 0 ∨ cl54.slots.size ≤ ((5 : Int32)).toNatClampNeg) := inb_of Sz54 ⟨by decide, by decide⟩
  have hat54 : cl54.slots[((5 : Int32)).toNatClampNeg]? = some (.long (own_z11.getD ((5 : Int32)).toNatClampNeg 0)) := Has.at Hs54 hin54 (own_getD_long own_z11 _)
  refine own_st (X53.laload hx (j := (5 : Int32)) (v := (.long (own_z11.getD ((5 : Int32)).toNatClampNeg 0))) (by rw [e53]; exact Ar54.1) (State.isArrayOf_alike hZ.alike Ar54.2.1) Ar54.2.2 hin54 hat54 (g := (mkF m 36 #[.val (.ref r0), .val (.ref r1), .val (.int p2), .val (.long q3), .second, .val (.long q4), .second, .val (.ref r5), .val (.ref b3), .val (.int (5 : Int32))] [(.int (5 : Int32)), (.ref ab), (.long (xs.getD ((5 : Int32)).toNatClampNeg 0)), (.int (5 : Int32)), (.ref b3)])) rfl rfl (hb hby d7_36)) ?_
  show own_Go _ _ _ _ T53 (mkF m 37 #[.val (.ref r0), .val (.ref r1), .val (.int p2), .val (.long q3), .second, .val (.long q4), .second, .val (.ref r5), .val (.ref b3), .val (.int (5 : Int32))] [(.long (own_z11.getD ((5 : Int32)).toNatClampNeg 0)), (.long (xs.getD ((5 : Int32)).toNatClampNeg 0)), (.int (5 : Int32)), (.ref b3)])
  refine own_st (fun t k => XS.ladd X53.here hx rfl (hb hby d7_37) rfl k) ?_
  show own_Go _ _ _ _ T53 (mkF m 38 #[.val (.ref r0), .val (.ref r1), .val (.int p2), .val (.long q3), .second, .val (.long q4), .second, .val (.ref r5), .val (.ref b3), .val (.int (5 : Int32))] [(.long ((xs.getD ((5 : Int32)).toNatClampNeg 0) + (own_z11.getD ((5 : Int32)).toNatClampNeg 0))), (.int (5 : Int32)), (.ref b3)])
  have K0_56 := (K0_47.wr W49 (Or.inr sz_b3))
  obtain ⟨cl57, Ar57, qk57, Sz57, Nn57, Hs57, Gf57⟩ := id V49
  have hin57 : ¬ ((5 : Int32) < 0 ∨ cl57.slots.size ≤ ((5 : Int32)).toNatClampNeg) := inb_of Sz57 ⟨by decide, by decide⟩
  obtain ⟨T58, h58, X58, e58, W58, st58⟩ := stJ X53 hx hZ e53 Ar57 (j := (5 : Int32)) hin57 (g := (mkF m 38 #[.val (.ref r0), .val (.ref r1), .val (.int p2), .val (.long q3), .second, .val (.long q4), .second, .val (.ref r5), .val (.ref b3), .val (.int (5 : Int32))] [(.long ((xs.getD ((5 : Int32)).toNatClampNeg 0) + (own_z11.getD ((5 : Int32)).toNatClampNeg 0))), (.int (5 : Int32)), (.ref b3)])) rfl rfl (hb hby d7_38)
  have V58 := own_setJ Ar57 qk57 Sz57 Nn57 Hs57 Gf57 W58 (by rw [hxs]; decide)
  rw [own_set_id _ _ (by rw [hxs]; decide)] at V58
  obtain ⟨_, X58, N58⟩ := own_hide X58 (Fr.snoc X58 N49 g_b3)
  refine own_st st58 ?_
  show own_Go _ _ _ _ T58 (mkF m 39 #[.val (.ref r0), .val (.ref r1), .val (.int p2), .val (.long q3), .second, .val (.long q4), .second, .val (.ref r5), .val (.ref b3), .val (.int (5 : Int32))] [])
  refine own_st (fun t k => XS.iinc X58.here hx rfl (hb hby d7_39) rfl (l' := #[.val (.ref r0), .val (.ref r1), .val (.int p2), .val (.long q3), .second, .val (.long q4), .second, .val (.ref r5), .val (.ref b3), .val (.int (6 : Int32))]) rfl k) ?_
  show own_Go _ _ _ _ T58 (mkF m 42 #[.val (.ref r0), .val (.ref r1), .val (.int p2), .val (.long q3), .second, .val (.long q4), .second, .val (.ref r5), .val (.ref b3), .val (.int (6 : Int32))] [])
  refine own_st (fun t k => XS.goto X58.here hx rfl (pc0 := 42) (pc' := 15) rfl (hb hby d7_42) (by decide) (by decide) k) ?_
  show own_Go _ _ _ _ T58 (mkF m 15 #[.val (.ref r0), .val (.ref r1), .val (.int p2), .val (.long q3), .second, .val (.long q4), .second, .val (.ref r5), .val (.ref b3), .val (.int (6 : Int32))] [])
  refine own_st (fun t k => XS.iload X58.here hx rfl (hb hby d7_15) rfl k) ?_
  show own_Go _ _ _ _ T58 (mkF m 17 #[.val (.ref r0), .val (.ref r1), .val (.int p2), .val (.long q3), .second, .val (.long q4), .second, .val (.ref r5), .val (.ref b3), .val (.int (6 : Int32))] [(.int (6 : Int32))])
  refine own_st (fun t k => XS.aload X58.here hx rfl (hb hby d7_17) rfl rfl k) ?_
  show own_Go _ _ _ _ T58 (mkF m 19 #[.val (.ref r0), .val (.ref r1), .val (.int p2), .val (.long q3), .second, .val (.long q4), .second, .val (.ref r5), .val (.ref b3), .val (.int (6 : Int32))] [(.ref b3), (.int (6 : Int32))])
  obtain ⟨cl59, Ar59, qk59, Sz59, Nn59, Hs59, Gf59⟩ := id V58
  refine own_st (X58.arraylength hx (by rw [e58]; exact Ar59.1) (State.isArrayOf_alike hZ.alike Ar59.2.1) (g := (mkF m 19 #[.val (.ref r0), .val (.ref r1), .val (.int p2), .val (.long q3), .second, .val (.long q4), .second, .val (.ref r5), .val (.ref b3), .val (.int (6 : Int32))] [(.ref b3), (.int (6 : Int32))])) rfl rfl (hb hby d7_19)) ?_
  rw [len_of Sz59 Nn59]
  show own_Go _ _ _ _ T58 (mkF m 20 #[.val (.ref r0), .val (.ref r1), .val (.int p2), .val (.long q3), .second, .val (.long q4), .second, .val (.ref r5), .val (.ref b3), .val (.int (6 : Int32))] [(.int (11 : Int32)), (.int (6 : Int32))])
  refine own_st (fun t k => XS.icmpNo X58.here hx rfl (hb hby d7_20) rfl (tlt (by decide : (6 : Int32) < (11 : Int32))).2.1 k) ?_
  show own_Go _ _ _ _ T58 (mkF m 23 #[.val (.ref r0), .val (.ref r1), .val (.int p2), .val (.long q3), .second, .val (.long q4), .second, .val (.ref r5), .val (.ref b3), .val (.int (6 : Int32))] [])
  refine own_st (fun t k => XS.aload X58.here hx rfl (hb hby d7_23) rfl rfl k) ?_
  show own_Go _ _ _ _ T58 (mkF m 25 #[.val (.ref r0), .val (.ref r1), .val (.int p2), .val (.long q3), .second, .val (.long q4), .second, .val (.ref r5), .val (.ref b3), .val (.int (6 : Int32))] [(.ref b3)])
  refine own_st (fun t k => XS.iload X58.here hx rfl (hb hby d7_25) rfl k) ?_
  show own_Go _ _ _ _ T58 (mkF m 27 #[.val (.ref r0), .val (.ref r1), .val (.int p2), .val (.long q3), .second, .val (.long q4), .second, .val (.ref r5), .val (.ref b3), .val (.int (6 : Int32))] [(.int (6 : Int32)), (.ref b3)])
  refine own_st (fun t k => Jvm.Free.XT.dup2 X58.here hx rfl (hb hby d7_27) rfl rfl rfl k) ?_
  show own_Go _ _ _ _ T58 (mkF m 28 #[.val (.ref r0), .val (.ref r1), .val (.int p2), .val (.long q3), .second, .val (.long q4), .second, .val (.ref r5), .val (.ref b3), .val (.int (6 : Int32))] [(.int (6 : Int32)), (.ref b3), (.int (6 : Int32)), (.ref b3)])
  obtain ⟨cl60, Ar60, qk60, Sz60, Nn60, Hs60, Gf60⟩ := id V58
  have hin60 : ¬ ((6 : Int32) < 0 ∨ cl60.slots.size ≤ ((6 : Int32)).toNatClampNeg) := inb_of Sz60 ⟨by decide, by decide⟩
  have hat60 : cl60.slots[((6 : Int32)).toNatClampNeg]? = some (.long (xs.getD ((6 : Int32)).toNatClampNeg 0)) := Has.at Hs60 hin60 (own_getD_long xs _)
  refine own_st (X58.laload hx (j := (6 : Int32)) (v := (.long (xs.getD ((6 : Int32)).toNatClampNeg 0))) (by rw [e58]; exact Ar60.1) (State.isArrayOf_alike hZ.alike Ar60.2.1) Ar60.2.2 hin60 hat60 (g := (mkF m 28 #[.val (.ref r0), .val (.ref r1), .val (.int p2), .val (.long q3), .second, .val (.long q4), .second, .val (.ref r5), .val (.ref b3), .val (.int (6 : Int32))] [(.int (6 : Int32)), (.ref b3), (.int (6 : Int32)), (.ref b3)])) rfl rfl (hb hby d7_28)) ?_
  show own_Go _ _ _ _ T58 (mkF m 29 #[.val (.ref r0), .val (.ref r1), .val (.int p2), .val (.long q3), .second, .val (.long q4), .second, .val (.ref r5), .val (.ref b3), .val (.int (6 : Int32))] [(.long (xs.getD ((6 : Int32)).toNatClampNeg 0)), (.int (6 : Int32)), (.ref b3)])
  refine own_st (fun t k => XS.aload X58.here hx rfl (hb hby d7_29) rfl rfl k) ?_
  show own_Go _ _ _ _ T58 (mkF m 31 #[.val (.ref r0), .val (.ref r1), .val (.int p2), .val (.long q3), .second, .val (.long q4), .second, .val (.ref r5), .val (.ref b3), .val (.int (6 : Int32))] [(.ref r5), (.long (xs.getD ((6 : Int32)).toNatClampNeg 0)), (.int (6 : Int32)), (.ref b3)])
  have F_counts_r5_61 := (F_counts_r5_52.other W58 (Or.inl ne_r5_b3))
  obtain ⟨T62, X62, e62, st62⟩ := getF X58 hx hZ hown (host := "") (Or.inl (hw _ (List.mem_of_getElem? (i := 52) rfl))) Via.refl e58 F_counts_r5_61 (g := (mkF m 31 #[.val (.ref r0), .val (.ref r1), .val (.int p2), .val (.long q3), .second, .val (.long q4), .second, .val (.ref r5), .val (.ref b3), .val (.int (6 : Int32))] [(.ref r5), (.long (xs.getD ((6 : Int32)).toNatClampNeg 0)), (.int (6 : Int32)), (.ref b3)])) rfl rfl (hb hby d7_31)
  refine own_st st62 ?_
  show own_Go _ _ _ _ T62 (mkF m 34 #[.val (.ref r0), .val (.ref r1), .val (.int p2), .val (.long q3), .second, .val (.long q4), .second, .val (.ref r5), .val (.ref b3), .val (.int (6 : Int32))] [(.ref ab), (.long (xs.getD ((6 : Int32)).toNatClampNeg 0)), (.int (6 : Int32)), (.ref b3)])
  refine own_st (fun t k => XS.iload X62.here hx rfl (hb hby d7_34) rfl k) ?_
  show own_Go _ _ _ _ T62 (mkF m 36 #[.val (.ref r0), .val (.ref r1), .val (.int p2), .val (.long q3), .second, .val (.long q4), .second, .val (.ref r5), .val (.ref b3), .val (.int (6 : Int32))] [(.int (6 : Int32)), (.ref ab), (.long (xs.getD ((6 : Int32)).toNatClampNeg 0)), (.int (6 : Int32)), (.ref b3)])
  have V_ab_64 := (V_ab_55.other W58 ne_ab_b3)
  obtain ⟨cl63, Ar63, qk63, Sz63, Nn63, Hs63, Gf63⟩ := id V_ab_64
  have hin63 : ¬ ((6 : Int32) < 0 ∨ cl63.slots.size ≤ ((6 : Int32)).toNatClampNeg) := inb_of Sz63 ⟨by decide, by decide⟩
  have hat63 : cl63.slots[((6 : Int32)).toNatClampNeg]? = some (.long (own_z11.getD ((6 : Int32)).toNatClampNeg 0)) := Has.at Hs63 hin63 (own_getD_long own_z11 _)
  refine own_st (X62.laload hx (j := (6 : Int32)) (v := (.long (own_z11.getD ((6 : Int32)).toNatClampNeg 0))) (by rw [e62]; exact Ar63.1) (State.isArrayOf_alike hZ.alike Ar63.2.1) Ar63.2.2 hin63 hat63 (g := (mkF m 36 #[.val (.ref r0), .val (.ref r1), .val (.int p2), .val (.long q3), .second, .val (.long q4), .second, .val (.ref r5), .val (.ref b3), .val (.int (6 : Int32))] [(.int (6 : Int32)), (.ref ab), (.long (xs.getD ((6 : Int32)).toNatClampNeg 0)), (.int (6 : Int32)), (.ref b3)])) rfl rfl (hb hby d7_36)) ?_
  show own_Go _ _ _ _ T62 (mkF m 37 #[.val (.ref r0), .val (.ref r1), .val (.int p2), .val (.long q3), .second, .val (.long q4), .second, .val (.ref r5), .val (.ref b3), .val (.int (6 : Int32))] [(.long (own_z11.getD ((6 : Int32)).toNatClampNeg 0)), (.long (xs.getD ((6 : Int32)).toNatClampNeg 0)), (.int (6 : Int32)), (.ref b3)])
  refine own_st (fun t k => XS.ladd X62.here hx rfl (hb hby d7_37) rfl k) ?_
  show own_Go _ _ _ _ T62 (mkF m 38 #[.val (.ref r0), .val (.ref r1), .val (.int p2), .val (.long q3), .second, .val (.long q4), .second, .val (.ref r5), .val (.ref b3), .val (.int (6 : Int32))] [(.long ((xs.getD ((6 : Int32)).toNatClampNeg 0) + (own_z11.getD ((6 : Int32)).toNatClampNeg 0))), (.int (6 : Int32)), (.ref b3)])
  have K0_65 := (K0_56.wr W58 (Or.inr sz_b3))
  obtain ⟨cl66, Ar66, qk66, Sz66, Nn66, Hs66, Gf66⟩ := id V58
  have hin66 : ¬ ((6 : Int32) < 0 ∨ cl66.slots.size ≤ ((6 : Int32)).toNatClampNeg) := inb_of Sz66 ⟨by decide, by decide⟩
  obtain ⟨T67, h67, X67, e67, W67, st67⟩ := stJ X62 hx hZ e62 Ar66 (j := (6 : Int32)) hin66 (g := (mkF m 38 #[.val (.ref r0), .val (.ref r1), .val (.int p2), .val (.long q3), .second, .val (.long q4), .second, .val (.ref r5), .val (.ref b3), .val (.int (6 : Int32))] [(.long ((xs.getD ((6 : Int32)).toNatClampNeg 0) + (own_z11.getD ((6 : Int32)).toNatClampNeg 0))), (.int (6 : Int32)), (.ref b3)])) rfl rfl (hb hby d7_38)
  have V67 := own_setJ Ar66 qk66 Sz66 Nn66 Hs66 Gf66 W67 (by rw [hxs]; decide)
  rw [own_set_id _ _ (by rw [hxs]; decide)] at V67
  obtain ⟨_, X67, N67⟩ := own_hide X67 (Fr.snoc X67 N58 g_b3)
  refine own_st st67 ?_
  show own_Go _ _ _ _ T67 (mkF m 39 #[.val (.ref r0), .val (.ref r1), .val (.int p2), .val (.long q3), .second, .val (.long q4), .second, .val (.ref r5), .val (.ref b3), .val (.int (6 : Int32))] [])
  refine own_st (fun t k => XS.iinc X67.here hx rfl (hb hby d7_39) rfl (l' := #[.val (.ref r0), .val (.ref r1), .val (.int p2), .val (.long q3), .second, .val (.long q4), .second, .val (.ref r5), .val (.ref b3), .val (.int (7 : Int32))]) rfl k) ?_
  show own_Go _ _ _ _ T67 (mkF m 42 #[.val (.ref r0), .val (.ref r1), .val (.int p2), .val (.long q3), .second, .val (.long q4), .second, .val (.ref r5), .val (.ref b3), .val (.int (7 : Int32))] [])
  refine own_st (fun t k => XS.goto X67.here hx rfl (pc0 := 42) (pc' := 15) rfl (hb hby d7_42) (by decide) (by decide) k) ?_
  show own_Go _ _ _ _ T67 (mkF m 15 #[.val (.ref r0), .val (.ref r1), .val (.int p2), .val (.long q3), .second, .val (.long q4), .second, .val (.ref r5), .val (.ref b3), .val (.int (7 : Int32))] [])
  refine own_st (fun t k => XS.iload X67.here hx rfl (hb hby d7_15) rfl k) ?_
  show own_Go _ _ _ _ T67 (mkF m 17 #[.val (.ref r0), .val (.ref r1), .val (.int p2), .val (.long q3), .second, .val (.long q4), .second, .val (.ref r5), .val (.ref b3), .val (.int (7 : Int32))] [(.int (7 : Int32))])
  refine own_st (fun t k => XS.aload X67.here hx rfl (hb hby d7_17) rfl rfl k) ?_
  show own_Go _ _ _ _ T67 (mkF m 19 #[.val (.ref r0), .val (.ref r1), .val (.int p2), .val (.long q3), .second, .val (.long q4), .second, .val (.ref r5), .val (.ref b3), .val (.int (7 : Int32))] [(.ref b3), (.int (7 : Int32))])
  obtain ⟨cl68, Ar68, qk68, Sz68, Nn68, Hs68, Gf68⟩ := id V67
  refine own_st (X67.arraylength hx (by rw [e67]; exact Ar68.1) (State.isArrayOf_alike hZ.alike Ar68.2.1) (g := (mkF m 19 #[.val (.ref r0), .val (.ref r1), .val (.int p2), .val (.long q3), .second, .val (.long q4), .second, .val (.ref r5), .val (.ref b3), .val (.int (7 : Int32))] [(.ref b3), (.int (7 : Int32))])) rfl rfl (hb hby d7_19)) ?_
  rw [len_of Sz68 Nn68]
  show own_Go _ _ _ _ T67 (mkF m 20 #[.val (.ref r0), .val (.ref r1), .val (.int p2), .val (.long q3), .second, .val (.long q4), .second, .val (.ref r5), .val (.ref b3), .val (.int (7 : Int32))] [(.int (11 : Int32)), (.int (7 : Int32))])
  refine own_st (fun t k => XS.icmpNo X67.here hx rfl (hb hby d7_20) rfl (tlt (by decide : (7 : Int32) < (11 : Int32))).2.1 k) ?_
  show own_Go _ _ _ _ T67 (mkF m 23 #[.val (.ref r0), .val (.ref r1), .val (.int p2), .val (.long q3), .second, .val (.long q4), .second, .val (.ref r5), .val (.ref b3), .val (.int (7 : Int32))] [])
  refine own_st (fun t k => XS.aload X67.here hx rfl (hb hby d7_23) rfl rfl k) ?_
  show own_Go _ _ _ _ T67 (mkF m 25 #[.val (.ref r0), .val (.ref r1), .val (.int p2), .val (.long q3), .second, .val (.long q4), .second, .val (.ref r5), .val (.ref b3), .val (.int (7 : Int32))] [(.ref b3)])
  refine own_st (fun t k => XS.iload X67.here hx rfl (hb hby d7_25) rfl k) ?_
  show own_Go _ _ _ _ T67 (mkF m 27 #[.val (.ref r0), .val (.ref r1), .val (.int p2), .val (.long q3), .second, .val (.long q4), .second, .val (.ref r5), .val (.ref b3), .val (.int (7 : Int32))] [(.int (7 : Int32)), (.ref b3)])
  refine own_st (fun t k => Jvm.Free.XT.dup2 X67.here hx rfl (hb hby d7_27) rfl rfl rfl k) ?_
  show own_Go _ _ _ _ T67 (mkF m 28 #[.val (.ref r0), .val (.ref r1), .val (.int p2), .val (.long q3), .second, .val (.long q4), .second, .val (.ref r5), .val (.ref b3), .val (.int (7 : Int32))] [(.int (7 : Int32)), (.ref b3), (.int (7 : Int32)), (.ref b3)])
  obtain ⟨cl69, Ar69, qk69, Sz69, Nn69, Hs69, Gf69⟩ := id V67
  have hin69 : ¬ ((7 : Int32) < 0 ∨ cl69.slots.size ≤ ((7 : Int32)).toNatClampNeg) := inb_of Sz69 ⟨by decide, by decide⟩
  have hat69 : cl69.slots[((7 : Int32)).toNatClampNeg]? = some (.long (xs.getD ((7 : Int32)).toNatClampNeg 0)) := Has.at Hs69 hin69 (own_getD_long xs _)
  refine own_st (X67.laload hx (j := (7 : Int32)) (v := (.long (xs.getD ((7 : Int32)).toNatClampNeg 0))) (by rw [e67]; exact Ar69.1) (State.isArrayOf_alike hZ.alike Ar69.2.1) Ar69.2.2 hin69 hat69 (g := (mkF m 28 #[.val (.ref r0), .val (.ref r1), .val (.int p2), .val (.long q3), .second, .val (.long q4), .second, .val (.ref r5), .val (.ref b3), .val (.int (7 : Int32))] [(.int (7 : Int32)), (.ref b3), (.int (7 : Int32)), (.ref b3)])) rfl rfl (hb hby d7_28)) ?_
  show own_Go _ _ _ _ T67 (mkF m 29 #[.val (.ref r0), .val (.ref r1), .val (.int p2), .val (.long q3), .second, .val (.long q4), .second, .val (.ref r5), .val (.ref b3), .val (.int (7 : Int32))] [(.long (xs.getD ((7 : Int32)).toNatClampNeg 0)), (.int (7 : Int32)), (.ref b3)])
  refine own_st (fun t k => XS.aload X67.here hx rfl (hb hby d7_29) rfl rfl k) ?_
  show own_Go _ _ _ _ T67 (mkF m 31 #[.val (.ref r0), .val (.ref r1), .val (.int p2), .val (.long q3), .second, .val (.long q4), .second, .val (.ref r5), .val (.ref b3), .val (.int (7 : Int32))] [(.ref r5), (.long (xs.getD ((7 : Int32)).toNatClampNeg 0)), (.int (7 : Int32)), (.ref b3)])
  have F_counts_r5_70 := (F_counts_r5_61.other W67 (Or.inl ne_r5_b3))
  obtain ⟨T71, X71, e71, st71⟩ := getF X67 hx hZ hown (host := "") (Or.inl (hw _ (List.mem_of_getElem? (i := 52) rfl))) Via.refl e67 F_counts_r5_70 (g := (mkF m 31 #[.val (.ref r0), .val (.ref r1), .val (.int p2), .val (.long q3), .second, .val (.long q4), .second, .val (.ref r5), .val (.ref b3), .val (.int (7 : Int32))] [(.ref r5), (.long (xs.getD ((7 : Int32)).toNatClampNeg 0)), (.int (7 : Int32)), (.ref b3)])) rfl rfl (hb hby d7_31)
  refine own_st st71 ?_
  show own_Go _ _ _ _ T71 (mkF m 34 #[.val (.ref r0), .val (.ref r1), .val (.int p2), .val (.long q3), .second, .val (.long q4), .second, .val (.ref r5), .val (.ref b3), .val (.int (7 : Int32))] [(.ref ab), (.long (xs.getD ((7 : Int32)).toNatClampNeg 0)), (.int (7 : Int32)), (.ref b3)])
  refine own_st (fun t k => XS.iload X71.here hx rfl (hb hby d7_34) rfl k) ?_
  show own_Go _ _ _ _ T71 (mkF m 36 #[.val (.ref r0), .val (.ref r1), .val (.int p2), .val (.long q3), .second, .val (.long q4), .second, .val (.ref r5), .val (.ref b3), .val (.int (7 : Int32))] [(.int (7 : Int32)), (.ref ab), (.long (xs.getD ((7 : Int32)).toNatClampNeg 0)), (.int (7 : Int32)), (.ref b3)])
  have V_ab_73 := (V_ab_64.other W67 ne_ab_b3)
  obtain ⟨cl72, Ar72, qk72, Sz72, Nn72, Hs72, Gf72⟩ := id V_ab_73
  have hin72 : ¬ ((7 : Int32) < 0 ∨ cl72.slots.size ≤ ((7 : Int32)).toNatClampNeg) := inb_of Sz72 ⟨by decide, by decide⟩
  have hat72 : cl72.slots[((7 : Int32)).toNatClampNeg]? = some (.long (own_z11.getD ((7 : Int32)).toNatClampNeg 0)) := Has.at Hs72 hin72 (own_getD_long own_z11 _)
  refine own_st (X71.laload hx (j := (7 : Int32)) (v := (.long (own_z11.getD ((7 : Int32)).toNatClampNeg 0))) (by rw [e71]; exact Ar72.1) (State.isArrayOf_alike hZ.alike Ar72.2.1) Ar72.2.2 hin72 hat72 (g := (mkF m 36 #[.val (.ref r0), .val (.ref r1), .val (.int p2), .val (.long q3), .second, .val (.long q4), .second, .val (.ref r5), .val (.ref b3), .val (.int (7 : Int32))] [(.int (7 : Int32)), (.ref ab), (.long (xs.getD ((7 : Int32)).toNatClampNeg 0)), (.int (7 : Int32)), (.ref b3)])) rfl rfl (hb hby d7_36)) ?_
  show own_Go _ _ _ _ T71 (mkF m 37 #[.val (.ref r0), .val (.ref r1), .val (.int p2), .val (.long q3), .second, .val (.long q4), .second, .val (.ref r5), .val (.ref b3), .val (.int (7 : Int32))] [(.long (own_z11.getD ((7 : Int32)).toNatClampNeg 0)), (.long (xs.getD ((7 : Int32)).toNatClampNeg 0)), (.int (7 : Int32)), (.ref b3)])
  refine own_st (fun t k => XS.ladd X71.here hx rfl (hb hby d7_37) rfl k) ?_
  show own_Go _ _ _ _ T71 (mkF m 38 #[.val (.ref r0), .val (.ref r1), .val (.int p2), .val (.long q3), .second, .val (.long q4), .second, .val (.ref r5), .val (.ref b3), .val (.int (7 : Int32))] [(.long ((xs.getD ((7 : Int32)).toNatClampNeg 0) + (own_z11.getD ((7 : Int32)).toNatClampNeg 0))), (.int (7 : Int32)), (.ref b3)])
  have K0_74 := (K0_65.wr W67 (Or.inr sz_b3))
  obtain ⟨cl75, Ar75, qk75, Sz75, Nn75, Hs75, Gf75⟩ := id V67
  have hin75 : ¬ ((7 : Int32) < 0 ∨ cl75.slots.size ≤ ((7 : Int32)).toNatClampNeg) := inb_of Sz75 ⟨by decide, by decide⟩
  obtain ⟨T76, h76, X76, e76, W76, st76⟩ := stJ X71 hx hZ e71 Ar75 (j := (7 : Int32)) hin75 (g := (mkF m 38 #[.val (.ref r0), .val (.ref r1), .val (.int p2), .val (.long q3), .second, .val (.long q4), .second, .val (.ref r5), .val (.ref b3), .val (.int (7 : Int32))] [(.long ((xs.getD ((7 : Int32)).toNatClampNeg 0) + (own_z11.getD ((7 : Int32)).toNatClampNeg 0))), (.int (7 : Int32)), (.ref b3)])) rfl rfl (hb hby d7_38)
  have V76 := own_setJ Ar75 qk75 Sz75 Nn75 Hs75 Gf75 W76 (by rw [hxs]; decide)
  rw [own_set_id _ _ (by rw [hxs]; decide)] at V76
  obtain ⟨_, X76, N76⟩ := own_hide X76 (Fr.snoc X76 N67 g_b3)
  refine own_st st76 ?_
  show own_Go _ _ _ _ T76 (mkF m 39 #[.val (.ref r0), .val (.ref r1), .val (.int p2), .val (.long q3), .second, .val (.long q4), .second, .val (.ref r5), .val (.ref b3), .val (.int (7 : Int32))] [])
  refine own_st (fun t k => XS.iinc X76.here hx rfl (hb hby d7_39) rfl (l' := #[.val (.ref r0), .val (.ref r1), .val (.int p2), .val (.long q3), .second, .val (.long q4), .second, .val (.ref r5), .val (.ref b3), .val (.int (8 : Int32))]) rfl k) ?_
  show own_Go _ _ _ _ T76 (mkF m 42 #[.val (.ref r0), .val (.ref r1), .val (.int p2), .val (.long q3), .second, .val (.long q4), .second, .val (.ref r5), .val (.ref b3), .val (.int (8 : Int32))] [])
  refine own_st (fun t k => XS.goto X76.here hx rfl (pc0 := 42) (pc' := 15) rfl (hb hby d7_42) (by decide) (by decide) k) ?_
  show own_Go _ _ _ _ T76 (mkF m 15 #[.val (.ref r0), .val (.ref r1), .val (.int p2), .val (.long q3), .second, .val (.long q4), .second, .val (.ref r5), .val (.ref b3), .val (.int (8 : Int32))] [])
  refine own_st (fun t k => XS.iload X76.here hx rfl (hb hby d7_15) rfl k) ?_
  show own_Go _ _ _ _ T76 (mkF m 17 #[.val (.ref r0), .val (.ref r1), .val (.int p2), .val (.long q3), .second, .val (.long q4), .second, .val (.ref r5), .val (.ref b3), .val (.int (8 : Int32))] [(.int (8 : Int32))])
  refine own_st (fun t k => XS.aload X76.here hx rfl (hb hby d7_17) rfl rfl k) ?_
  show own_Go _ _ _ _ T76 (mkF m 19 #[.val (.ref r0), .val (.ref r1), .val (.int p2), .val (.long q3), .second, .val (.long q4), .second, .val (.ref r5), .val (.ref b3), .val (.int (8 : Int32))] [(.ref b3), (.int (8 : Int32))])
  obtain ⟨cl77, Ar77, qk77, Sz77, Nn77, Hs77, Gf77⟩ := id V76
  refine own_st (X76.arraylength hx (by rw [e76]; exact Ar77.1) (State.isArrayOf_alike hZ.alike Ar77.2.1) (g := (mkF m 19 #[.val (.ref r0), .val (.ref r1), .val (.int p2), .val (.long q3), .second, .val (.long q4), .second, .val (.ref r5), .val (.ref b3), .val (.int (8 : Int32))] [(.ref b3), (.int (8 : Int32))])) rfl rfl (hb hby d7_19)) ?_
  rw [len_of Sz77 Nn77]
  show own_Go _ _ _ _ T76 (mkF m 20 #[.val (.ref r0), .val (.ref r1), .val (.int p2), .val (.long q3), .second, .val (.long q4), .second, .val (.ref r5), .val (.ref b3), .val (.int (8 : Int32))] [(.int (11 : Int32)), (.int (8 : Int32))])
  refine own_st (fun t k => XS.icmpNo X76.here hx rfl (hb hby d7_20) rfl (tlt (by decide : (8 : Int32) < (11 : Int32))).2.1 k) ?_
  show own_Go _ _ _ _ T76 (mkF m 23 #[.val (.ref r0), .val (.ref r1), .val (.int p2), .val (.long q3), .second, .val (.long q4), .second, .val (.ref r5), .val (.ref b3), .val (.int (8 : Int32))] [])
  refine own_st (fun t k => XS.aload X76.here hx rfl (hb hby d7_23) rfl rfl k) ?_
  show own_Go _ _ _ _ T76 (mkF m 25 #[.val (.ref r0), .val (.ref r1), .val (.int p2), .val (.long q3), .second, .val (.long q4), .second, .val (.ref r5), .val (.ref b3), .val (.int (8 : Int32))] [(.ref b3)])
  refine own_st (fun t k => XS.iload X76.here hx rfl (hb hby d7_25) rfl k) ?_
  show own_Go _ _ _ _ T76 (mkF m 27 #[.val (.ref r0), .val (.ref r1), .val (.int p2), .val (.long q3), .second, .val (.long q4), .second, .val (.ref r5), .val (.ref b3), .val (.int (8 : Int32))] [(.int (8 : Int32)), (.ref b3)])
  refine own_st (fun t k => Jvm.Free.XT.dup2 X76.here hx rfl (hb hby d7_27) rfl rfl rfl k) ?_
  show own_Go _ _ _ _ T76 (mkF m 28 #[.val (.ref r0), .val (.ref r1), .val (.int p2), .val (.long q3), .second, .val (.long q4), .second, .val (.ref r5), .val (.ref b3), .val (.int (8 : Int32))] [(.int (8 : Int32)), (.ref b3), (.int (8 : Int32)), (.ref b3)])
  obtain ⟨cl78, Ar78, qk78, Sz78, Nn78, Hs78, Gf78⟩ := id V76
  have hin78 : ¬ ((8 : Int32) < 0 ∨ cl78.slots.size ≤ ((8 : Int32)).toNatClampNeg) := inb_of Sz78 ⟨by decide, by decide⟩
  have hat78 : cl78.slots[((8 : Int32)).toNatClampNeg]? = some (.long (xs.getD ((8 : Int32)).toNatClampNeg 0)) := Has.at Hs78 hin78 (own_getD_long xs _)
  refine own_st (X76.laload hx (j := (8 : Int32)) (v := (.long (xs.getD ((8 : Int32)).toNatClampNeg 0))) (by rw [e76]; exact Ar78.1) (State.isArrayOf_alike hZ.alike Ar78.2.1) Ar78.2.2 hin78 hat78 (g := (mkF m 28 #[.val (.ref r0), .val (.ref r1), .val (.int p2), .val (.long q3), .second, .val (.long q4), .second, .val (.ref r5), .val (.ref b3), .val (.int (8 : Int32))] [(.int (8 : Int32)), (.ref b3), (.int (8 : Int32)), (.ref b3)])) rfl rfl (hb hby d7_28)) ?_
  show own_Go _ _ _ _ T76 (mkF m 29 #[.val (.ref r0), .val (.ref r1), .val (.int p2), .val (.long q3), .second, .val (.long q4), .second, .val (.ref r5), .val (.ref b3), .val (.int (8 : Int32))] [(.long (xs.getD ((8 : Int32)).toNatClampNeg 0)), (.int (8 : Int32)), (.ref b3)])
  refine own_st (fun t k => XS.aload X76.here hx rfl (hb hby d7_29) rfl rfl k) ?_
  show own_Go _ _ _ _ T76 (mkF m 31 #[.val (.ref r0), .val (.ref r1), .val (.int p2), .val (.long q3), .second, .val (.long q4), .second, .val (.ref r5), .val (.ref b3), .val (.int (8 : Int32))] [(.ref r5), (.long (xs.getD ((8 : Int32)).toNatClampNeg 0)), (.int (8 : Int32)), (.ref b3)])
  have F_counts_r5_79 := (F_counts_r5_70.other W76 (Or.inl ne_r5_b3))
  obtain ⟨T80, X80, e80, st80⟩ := getF X76 hx hZ hown (host := "") (Or.inl (hw _ (List.mem_of_getElem? (i := 52) rfl))) Via.refl e76 F_counts_r5_79 (g := (mkF m 31 #[.val (.ref r0), .val (.ref r1), .val (.int p2), .val (.long q3), .second, .val (.long q4), .second, .val (.ref r5), .val (.ref b3), .val (.int (8 : Int32))] [(.ref r5), (.long (xs.getD ((8 : Int32)).toNatClampNeg 0)), (.int (8 : Int32)), (.ref b3)])) rfl rfl (hb hby d7_31)
  refine own_st st80 ?_
  show own_Go _ _ _ _ T80 (mkF m 34 #[.val (.ref r0), .val (.ref r1), .val (.int p2), .val (.long q3), .second, .val (.long q4), .second, .val (.ref r5), .val (.ref b3), .val (.int (8 : Int32))] [(.ref ab), (.long (xs.getD ((8 : Int32)).toNatClampNeg 0)), (.int (8 : Int32)), (.ref b3)])
  refine own_st (fun t k => XS.iload X80.here hx rfl (hb hby d7_34) rfl k) ?_
  show own_Go _ _ _ _ T80 (mkF m 36 #[.val (.ref r0), .val (.ref r1), .val (.int p2), .val (.long q3), .second, .val (.long q4), .second, .val (.ref r5), .val (.ref b3), .val (.int (8 : Int32))] [(.int (8 : Int32)), (.ref ab), (.long (xs.getD ((8 : Int32)).toNatClampNeg 0)), (.int (8 : Int32)), (.ref b3)])
  have V_ab_82 := (V_ab_73.other W76 ne_ab_b3)
  obtain ⟨cl81, Ar81, qk81, Sz81, Nn81, Hs81, Gf81⟩ := id V_ab_82
  have hin81 : ¬ ((8 : Int32) < 0 ∨ cl81.slots.size ≤ ((8 : Int32)).toNatClampNeg) := inb_of Sz81 ⟨by decide, by decide⟩
  have hat81 : cl81.slots[((8 : Int32)).toNatClampNeg]? = some (.long (own_z11.getD ((8 : Int32)).toNatClampNeg 0)) := Has.at Hs81 hin81 (own_getD_long own_z11 _)
  refine own_st (X80.laload hx (j := (8 : Int32)) (v := (.long (own_z11.getD ((8 : Int32)).toNatClampNeg 0))) (by rw [e80]; exact Ar81.1) (State.isArrayOf_alike hZ.alike Ar81.2.1) Ar81.2.2 hin81 hat81 (g := (mkF m 36 #[.val (.ref r0), .val (.ref r1), .val (.int p2), .val (.long q3), .second, .val (.long q4), .second, .val (.ref r5), .val (.ref b3), .val (.int (8 : Int32))] [(.int (8 : Int32)), (.ref ab), (.long (xs.getD ((8 : Int32)).toNatClampNeg 0)), (.int (8 : Int32)), (.ref b3)])) rfl rfl (hb hby d7_36)) ?_
  show own_Go _ _ _ _ T80 (mkF m 37 #[.val (.ref r0), .val (.ref r1), .val (.int p2), .val (.long q3), .second, .val (.long q4), .second, .val (.ref r5), .val (.ref b3), .val (.int (8 : Int32))] [(.long (own_z11.getD ((8 : Int32)).toNatClampNeg 0)), (.long (xs.getD ((8 : Int32)).toNatClampNeg 0)), (.int (8 : Int32)), (.ref b3)])
  refine own_st (fun t k => XS.ladd X80.here hx rfl (hb hby d7_37) rfl k) ?_
  show own_Go _ _ _ _ T80 (mkF m 38 #[.val (.ref r0), .val (.ref r1), .val (.int p2), .val (.long q3), .second, .val (.long q4), .second, .val (.ref r5), .val (.ref b3), .val (.int (8 : Int32))] [(.long ((xs.getD ((8 : Int32)).toNatClampNeg 0) + (own_z11.getD ((8 : Int32)).toNatClampNeg 0))), (.int (8 : Int32)), (.ref b3)])
  have K0_83 := (K0_74.wr W76 (Or.inr sz_b3))
  obtain ⟨cl84, Ar84, qk84, Sz84, Nn84, Hs84, Gf84⟩ := id V76
  have hin84 : ¬ ((8 : Int32) < 0 ∨ cl84.slots.size ≤ ((8 : Int32)).toNatClampNeg) := inb_of Sz84 ⟨by decide, by decide⟩
  obtain ⟨T85, h85, X85, e85, W85, st85⟩ := stJ X80 hx hZ e80 Ar84 (j := (8 : Int32)) hin84 (g := (mkF m 38 #[.val (.ref r0), .val (.ref r1), .val (.int p2), .val (.long q3), .second, .val (.long q4), .second, .val (.ref r5), .val (.ref b3), .val (.int (8 : Int32))] [(.long ((xs.getD ((8 : Int32)).toNatClampNeg 0) + (own_z11.getD ((8 : Int32)).toNatClampNeg 0))), (.int (8 : Int32)), (.ref b3)])) rfl rfl (hb hby d7_38)
  have V85 := own_setJ Ar84 qk84 Sz84 Nn84 Hs84 Gf84 W85 (by rw [hxs]; decide)
  rw [own_set_id _ _ (by rw [hxs]; decide)] at V85
  obtain ⟨_, X85, N85⟩ := own_hide X85 (Fr.snoc X85 N76 g_b3)
  refine own_st st85 ?_
  show own_Go _ _ _ _ T85 (mkF m 39 #[.val (.ref r0), .val (.ref r1), .val (.int p2), .val (.long q3), .second, .val (.long q4), .second, .val (.ref r5), .val (.ref b3), .val (.int (8 : Int32))] [])
  refine own_st (fun t k => XS.iinc X85.here hx rfl (hb hby d7_39) rfl (l' := #[.val (.ref r0), .val (.ref r1), .val (.int p2), .val (.long q3), .second, .val (.long q4), .second, .val (.ref r5), .val (.ref b3), .val (.int (9 : Int32))]) rfl k) ?_
  show own_Go _ _ _ _ T85 (mkF m 42 #[.val (.ref r0), .val (.ref r1), .val (.int p2), .val (.long q3), .second, .val (.long q4), .second, .val (.ref r5), .val (.ref b3), .val (.int (9 : Int32))] [])
  refine own_st (fun t k => XS.goto X85.here hx rfl (pc0 := 42) (pc' := 15) rfl (hb hby d7_42) (by decide) (by decide) k) ?_
  show own_Go _ _ _ _ T85 (mkF m 15 #[.val (.ref r0), .val (.ref r1), .val (.int p2), .val (.long q3), .second, .val (.long q4), .second, .val (.ref r5), .val (.ref b3), .val (.int (9 : Int32))] [])
  refine own_st (fun t k => XS.iload X85.here hx rfl (hb hby d7_15) rfl k) ?_
  show own_Go _ _ _ _ T85 (mkF m 17 #[.val (.ref r0), .val (.ref r1), .val (.int p2), .val (.long q3), .second, .val (.long q4), .second, .val (.ref r5), .val (.ref b3), .val (.int (9 : Int32))] [(.int (9 : Int32))])
  refine own_st (fun t k => XS.aload X85.here hx rfl (hb hby d7_17) rfl rfl k) ?_
  show own_Go _ _ _ _ T85 (mkF m 19 #[.val (.ref r0), .val (.ref r1), .val (.int p2), .val (.long q3), .second, .val (.long q4), .second, .val (.ref r5), .val (.ref b3), .val (.int (9 : Int32))] [(.ref b3), (.int (9 : Int32))])
  obtain ⟨cl86, Ar86, qk86, Sz86, Nn86, Hs86, Gf86⟩ := id V85
  refine own_st (X85.arraylength hx (by rw [e85]; exact Ar86.1) (State.isArrayOf_alike hZ.alike Ar86.2.1) (g := (mkF m 19 #[.val (.ref r0), .val (.ref r1), .val (.int p2), .val (.long q3), .second, .val (.long q4), .second, .val (.ref r5), .val (.ref b3), .val (.int (9 : Int32))] [(.ref b3), (.int (9 : Int32))])) rfl rfl (hb hby d7_19)) ?_
  rw [len_of Sz86 Nn86]
  show own_Go _ _ _ _ T85 (mkF m 20 #[.val (.ref r0), .val (.ref r1), .val (.int p2), .val (.long q3), .second, .val (.long q4), .second, .val (.ref r5), .val (.ref b3), .val (.int (9 : Int32))] [(.int (11 : Int32)), (.int (9 : Int32))])
  refine own_st (fun t k => XS.icmpNo X85.here hx rfl (hb hby d7_20) rfl (tlt (by decide : (9 : Int32) < (11 : Int32))).2.1 k) ?_
  show own_Go _ _ _ _ T85 (mkF m 23 #[.val (.ref r0), .val (.ref r1), .val (.int p2), .val (.long q3), .second, .val (.long q4), .second, .val (.ref r5), .val (.ref b3), .val (.int (9 : Int32))] [])
  refine own_st (fun t k => XS.aload X85.here hx rfl (hb hby d7_23) rfl rfl k) ?_
  show own_Go _ _ _ _ T85 (mkF m 25 #[.val (.ref r0), .val (.ref r1), .val (.int p2), .val (.long q3), .second, .val (.long q4), .second, .val (.ref r5), .val (.ref b3), .val (.int (9 : Int32))] [(.ref b3)])
  refine own_st (fun t k => XS.iload X85.here hx rfl (hb hby d7_25) rfl k) ?_
  show own_Go _ _ _ _ T85 (mkF m 27 #[.val (.ref r0), .val (.ref r1), .val (.int p2), .val (.long q3), .second, .val (.long q4), .second, .val (.ref r5), .val (.ref b3), .val (.int (9 : Int32))] [(.int (9 : Int32)), (.ref b3)])
  refine own_st (fun t k => Jvm.Free.XT.dup2 X85.here hx rfl (hb hby d7_27) rfl rfl rfl k) ?_
  show own_Go _ _ _ _ T85 (mkF m 28 #[.val (.ref r0), .val (.ref r1), .val (.int p2), .val (.long q3), .second, .val (.long q4), .second, .val (.ref r5), .val (.ref b3), .val (.int (9 : Int32))] [(.int (9 : Int32)), (.ref b3), (.int (9 : Int32)), (.ref b3)])
  obtain ⟨cl87, Ar87, qk87, Sz87, Nn87, Hs87, Gf87⟩ := id V85
  have hin87 : ¬ ((9 : Int32) < 0 ∨ cl87.slots.size ≤ ((9 : Int32)).toNatClampNeg) := inb_of Sz87 ⟨by decide, by decide⟩
  have hat87 : cl87.slots[((9 : Int32)).toNatClampNeg]? = some (.long (xs.getD ((9 : Int32)).toNatClampNeg 0)) := Has.at Hs87 hin87 (own_getD_long xs _)
  refine own_st (X85.laload hx (j := (9 : Int32)) (v := (.long (xs.getD ((9 : Int32)).toNatClampNeg 0))) (by rw [e85]; exact Ar87.1) (State.isArrayOf_alike hZ.alike Ar87.2.1) Ar87.2.2 hin87 hat87 (g := (mkF m 28 #[.val (.ref r0), .val (.ref r1), .val (.int p2), .val (.long q3), .second, .val (.long q4), .second, .val (.ref r5), .val (.ref b3), .val (.int (9 : Int32))] [(.int (9 : Int32)), (.ref b3), (.int (9 : Int32)), (.ref b3)])) rfl rfl (hb hby d7_28)) ?_
  show own_Go _ _ _ _ T85 (mkF m 29 #[.val (.ref r0), .val (.ref r1), .val (.int p2), .val (.long q3), .second, .val (.long q4), .second, .val (.ref r5), .val (.ref b3), .val (.int (9 : Int32))] [(.long (xs.getD ((9 : Int32)).toNatClampNeg 0)), (.int (9 : Int32)), (.ref b3)])
  refine own_st (fun t k => XS.aload X85.here hx rfl (hb hby d7_29) rfl rfl k) ?_
  show own_Go _ _ _ _ T85 (mkF m 31 #[.val (.ref r0), .val (.ref r1), .val (.int p2), .val (.long q3), .second, .val (.long q4), .second, .val (.ref r5), .val (.ref b3), .val (.int (9 : Int32))] [(.ref r5), (.long (xs.getD ((9 : Int32)).toNatClampNeg 0)), (.int (9 : Int32)), (.ref b3)])
  have F_counts_r5_88 := (F_counts_r5_79.other W85 (Or.inl ne_r5_b3))
  obtain ⟨T89, X89, e89, st89⟩ := getF X85 hx hZ hown (host := "") (Or.inl (hw _ (List.mem_of_getElem? (i := 52) rfl))) Via.refl e85 F_counts_r5_88 (g := (mkF m 31 #[.val (.ref r0), .val (.ref r1), .val (.int p2), .val (.long q3), .second, .val (.long q4), .second, .val (.ref r5), .val (.ref b3), .val (.int (9 : Int32))] [(.ref r5), (.long (xs.getD ((9 : Int32)).toNatClampNeg 0)), (.int (9 : Int32)), (.ref b3)])) rfl rfl (hb hby d7_31)
  refine own_st st89 ?_
  show own_Go _ _ _ _ T89 (mkF m 34 #[.val (.ref r0), .val (.ref r1), .val (.int p2), .val (.long q3), .second, .val (.long q4), .second, .val (.ref r5), .val (.ref b3), .val (.int (9 : Int32))] [(.ref ab), (.long (xs.getD ((9 : Int32)).toNatClampNeg 0)), (.int (9 : Int32)), (.ref b3)])
  refine own_st (fun t k => XS.iload X89.here hx rfl (hb hby d7_34) rfl k) ?_
  show own_Go _ _ _ _ T89 (mkF m 36 #[.val (.ref r0), .val (.ref r1), .val (.int p2), .val (.long q3), .second, .val (.long q4), .second, .val (.ref r5), .val (.ref b3), .val (.int (9 : Int32))] [(.int (9 : Int32)), (.ref ab), (.long (xs.getD ((9 : Int32)).toNatClampNeg 0)), (.int (9 : Int32)), (.ref b3)])
  have V_ab_91 := (V_ab_82.other W85 ne_ab_b3)
  obtain ⟨cl90, Ar90, qk90, Sz90, Nn90, Hs90, Gf90⟩ := id V_ab_91
  have hin90 : ¬ ((9 : Int32) < 0 ∨ cl90.slots.size ≤ ((9 : Int32)).toNatClampNeg) := inb_of Sz90 ⟨by decide, by decide⟩
  have hat90 : cl90.slots[((9 : Int32)).toNatClampNeg]? = some (.long (own_z11.getD ((9 : Int32)).toNatClampNeg 0)) := Has.at Hs90 hin90 (own_getD_long own_z11 _)
  refine own_st (X89.laload hx (j := (9 : Int32)) (v := (.long (own_z11.getD ((9 : Int32)).toNatClampNeg 0))) (by rw [e89]; exact Ar90.1) (State.isArrayOf_alike hZ.alike Ar90.2.1) Ar90.2.2 hin90 hat90 (g := (mkF m 36 #[.val (.ref r0), .val (.ref r1), .val (.int p2), .val (.long q3), .second, .val (.long q4), .second, .val (.ref r5), .val (.ref b3), .val (.int (9 : Int32))] [(.int (9 : Int32)), (.ref ab), (.long (xs.getD ((9 : Int32)).toNatClampNeg 0)), (.int (9 : Int32)), (.ref b3)])) rfl rfl (hb hby d7_36)) ?_
  show own_Go _ _ _ _ T89 (mkF m 37 #[.val (.ref r0), .val (.ref r1), .val (.int p2), .val (.long q3), .second, .val (.long q4), .second, .val (.ref r5), .val (.ref b3), .val (.int (9 : Int32))] [(.long (own_z11.getD ((9 : Int32)).toNatClampNeg 0)), (.long (xs.getD ((9 : Int32)).toNatClampNeg 0)), (.int (9 : Int32)), (.ref b3)])
  refine own_st (fun t k => XS.ladd X89.here hx rfl (hb hby d7_37) rfl k) ?_
  show own_Go _ _ _ _ T89 (mkF m 38 #[.val (.ref r0), .val (.ref r1), .val (.int p2), .val (.long q3), .second, .val (.long q4), .second, .val (.ref r5), .val (.ref b3), .val (.int (9 : Int32))] [(.long ((xs.getD ((9 : Int32)).toNatClampNeg 0) + (own_z11.getD ((9 : Int32)).toNatClampNeg 0))), (.int (9 : Int32)), (.ref b3)])
  have K0_92 := (K0_83.wr W85 (Or.inr sz_b3))
  obtain ⟨cl93, Ar93, qk93, Sz93, Nn93, Hs93, Gf93⟩ := id V85
  have hin93 : ¬ ((9 : Int32) < 0 ∨ cl93.slots.size ≤ ((9 : Int32)).toNatClampNeg) := inb_of Sz93 ⟨by decide, by decide⟩
  obtain ⟨T94, h94, X94, e94, W94, st94⟩ := stJ X89 hx hZ e89 Ar93 (j := (9 : Int32)) hin93 (g := (mkF m 38 #[.val (.ref r0), .val (.ref r1), .val (.int p2), .val (.long q3), .second, .val (.long q4), .second, .val (.ref r5), .val (.ref b3), .val (.int (9 : Int32))] [(.long ((xs.getD ((9 : Int32)).toNatClampNeg 0) + (own_z11.getD ((9 : Int32)).toNatClampNeg 0))), (.int (9 : Int32)), (.ref b3)])) rfl rfl (hb hby d7_38)
  have V94 := own_setJ Ar93 qk93 Sz93 Nn93 Hs93 Gf93 W94 (by rw [hxs]; decide)
  rw [own_set_id _ _ (by rw [hxs]; decide)] at V94
  obtain ⟨_, X94, N94⟩ := own_hide X94 (Fr.snoc X94 N85 g_b3)
  refine own_st st94 ?_
  show own_Go _ _ _ _ T94 (mkF m 39 #[.val (.ref r0), .val (.ref r1), .val (.int p2), .val (.long q3), .second, .val (.long q4), .second, .val (.ref r5), .val (.ref b3), .val (.int (9 : Int32))] [])
  refine own_st (fun t k => XS.iinc X94.here hx rfl (hb hby d7_39) rfl (l' := #[.val (.ref r0), .val (.ref r1), .val (.int p2), .val (.long q3), .second, .val (.long q4), .second, .val (.ref r5), .val (.ref b3), .val (.int (10 : Int32))]) rfl k) ?_
  show own_Go _ _ _ _ T94 (mkF m 42 #[.val (.ref r0), .val (.ref r1), .val (.int p2), .val (.long q3), .second, .val (.long q4), .second, .val (.ref r5), .val (.ref b3), .val (.int (10 : Int32))] [])
  refine own_st (fun t k => XS.goto X94.here hx rfl (pc0 := 42) (pc' := 15) rfl (hb hby d7_42) (by decide) (by decide) k) ?_
  show own_Go _ _ _ _ T94 (mkF m 15 #[.val (.ref r0), .val (.ref r1), .val (.int p2), .val (.long q3), .second, .val (.long q4), .second, .val (.ref r5), .val (.ref b3), .val (.int (10 : Int32))] [])
  refine own_st (fun t k => XS.iload X94.here hx rfl (hb hby d7_15) rfl k) ?_
  show own_Go _ _ _ _ T94 (mkF m 17 #[.val (.ref r0), .val (.ref r1), .val (.int p2), .val (.long q3), .second, .val (.long q4), .second, .val (.ref r5), .val (.ref b3), .val (.int (10 : Int32))] [(.int (10 : Int32))])
  refine own_st (fun t k => XS.aload X94.here hx rfl (hb hby d7_17) rfl rfl k) ?_
  show own_Go _ _ _ _ T94 (mkF m 19 #[.val (.ref r0), .val (.ref r1), .val (.int p2), .val (.long q3), .second, .val (.long q4), .second, .val (.ref r5), .val (.ref b3), .val (.int (10 : Int32))] [(.ref b3), (.int (10 : Int32))])
  obtain ⟨cl95, Ar95, qk95, Sz95, Nn95, Hs95, Gf95⟩ := id V94
  refine own_st (X94.arraylength hx (by rw [e94]; exact Ar95.1) (State.isArrayOf_alike hZ.alike Ar95.2.1) (g := (mkF m 19 #[.val (.ref r0), .val (.ref r1), .val (.int p2), .val (.long q3), .second, .val (.long q4), .second, .val (.ref r5), .val (.ref b3), .val (.int (10 : Int32))] [(.ref b3), (.int (10 : Int32))])) rfl rfl (hb hby d7_19)) ?_
  rw [len_of Sz95 Nn95]
  show own_Go _ _ _ _ T94 (mkF m 20 #[.val (.ref r0), .val (.ref r1), .val (.int p2), .val (.long q3), .second, .val (.long q4), .second, .val (.ref r5), .val (.ref b3), .val (.int (10 : Int32))] [(.int (11 : Int32)), (.int (10 : Int32))])
  refine own_st (fun t k => XS.icmpNo X94.here hx rfl (hb hby d7_20) rfl (tlt (by decide : (10 : Int32) < (11 : Int32))).2.1 k) ?_
  show own_Go _ _ _ _ T94 (mkF m 23 #[.val (.ref r0), .val (.ref r1), .val (.int p2), .val (.long q3), .second, .val (.long q4), .second, .val (.ref r5), .val (.ref b3), .val (.int (10 : Int32))] [])
  refine own_st (fun t k => XS.aload X94.here hx rfl (hb hby d7_23) rfl rfl k) ?_
  show own_Go _ _ _ _ T94 (mkF m 25 #[.val (.ref r0), .val (.ref r1), .val (.int p2), .val (.long q3), .second, .val (.long q4), .second, .val (.ref r5), .val (.ref b3), .val (.int (10 : Int32))] [(.ref b3)])
  refine own_st (fun t k => XS.iload X94.here hx rfl (hb hby d7_25) rfl k) ?_
  show own_Go _ _ _ _ T94 (mkF m 27 #[.val (.ref r0), .val (.ref r1), .val (.int p2), .val (.long q3), .second, .val (.long q4), .second, .val (.ref r5), .val (.ref b3), .val (.int (10 : Int32))] [(.int (10 : Int32)), (.ref b3)])
  refine own_st (fun t k => Jvm.Free.XT.dup2 X94.here hx rfl (hb hby d7_27) rfl rfl rfl k) ?_
  show own_Go _ _ _ _ T94 (mkF m 28 #[.val (.ref r0), .val (.ref r1), .val (.int p2), .val (.long q3), .second, .val (.long q4), .second, .val (.ref r5), .val (.ref b3), .val (.int (10 : Int32))] [(.int (10 : Int32)), (.ref b3), (.int (10 : Int32)), (.ref b3)])
  obtain ⟨cl96, Ar96, qk96, Sz96, Nn96, Hs96, Gf96⟩ := id V94
  have hin96 : ¬ ((10 : Int32) < 0 ∨ cl96.slots.size ≤ ((10 : Int32)).toNatClampNeg) := inb_of Sz96 ⟨by decide, by decide⟩
  have hat96 : cl96.slots[((10 : Int32)).toNatClampNeg]? = some (.long (xs.getD ((10 : Int32)).toNatClampNeg 0)) := Has.at Hs96 hin96 (own_getD_long xs _)
  refine own_st (X94.laload hx (j := (10 : Int32)) (v := (.long (xs.getD ((10 : Int32)).toNatClampNeg 0))) (by rw [e94]; exact Ar96.1) (State.isArrayOf_alike hZ.alike Ar96.2.1) Ar96.2.2 hin96 hat96 (g := (mkF m 28 #[.val (.ref r0), .val (.ref r1), .val (.int p2), .val (.long q3), .second, .val (.long q4), .second, .val (.ref r5), .val (.ref b3), .val (.int (10 : Int32))] [(.int (10 : Int32)), (.ref b3), (.int (10 : Int32)), (.ref b3)])) rfl rfl (hb hby d7_28)) ?_
  show own_Go _ _ _ _ T94 (mkF m 29 #[.val (.ref r0), .val (.ref r1), .val (.int p2), .val (.long q3), .second, .val (.long q4), .second, .val (.ref r5), .val (.ref b3), .val (.int (10 : Int32))] [(.long (xs.getD ((10 : Int32)).toNatClampNeg 0)), (.int (10 : Int32)), (.ref b3)])
  refine own_st (fun t k => XS.aload X94.here hx rfl (hb hby d7_29) rfl rfl k) ?_
  show own_Go _ _ _ _ T94 (mkF m 31 #[.val (.ref r0), .val (.ref r1), .val (.int p2), .val (.long q3), .second, .val (.long q4), .second, .val (.ref r5), .val (.ref b3), .val (.int (10 : Int32))] [(.ref r5), (.long (xs.getD ((10 : Int32)).toNatClampNeg 0)), (.int (10 : Int32)), (.ref b3)])
  have F_counts_r5_97 := (F_counts_r5_88.other W94 (Or.inl ne_r5_b3))
  obtain ⟨T98, X98, e98, st98⟩ := getF X94 hx hZ hown (host := "") (Or.inl (hw _ (List.mem_of_getElem? (i := 52) rfl))) Via.refl e94 F_counts_r5_97 (g := (mkF m 31 #[.val (.ref r0), .val (.ref r1), .val (.int p2), .val (.long q3), .second, .val (.long q4), .second, .val (.ref r5), .val (.ref b3), .val (.int (10 : Int32))] [(.ref r5), (.long (xs.getD ((10 : Int32)).toNatClampNeg 0)), (.int (10 : Int32)), (.ref b3)])) rfl rfl (hb hby d7_31)
  refine own_st st98 ?_
  show own_Go _ _ _ _ T98 (mkF m 34 #[.val (.ref r0), .val (.ref r1), .val (.int p2), .val (.long q3), .second, .val (.long q4), .second, .val (.ref r5), .val (.ref b3), .val (.int (10 : Int32))] [(.ref ab), (.long (xs.getD ((10 : Int32)).toNatClampNeg 0)), (.int (10 : Int32)), (.ref b3)])
  refine own_st (fun t k => XS.iload X98.here hx rfl (hb hby d7_34) rfl k) ?_
  show own_Go _ _ _ _ T98 (mkF m 36 #[.val (.ref r0), .val (.ref r1), .val (.int p2), .val (.long q3), .second, .val (.long q4), .second, .val (.ref r5), .val (.ref b3), .val (.int (10 : Int32))] [(.int (10 : Int32)), (.ref ab), (.long (xs.getD ((10 : Int32)).toNatClampNeg 0)), (.int (10 : Int32)), (.ref b3)])
  have V_ab_100 := (V_ab_91.other W94 ne_ab_b3)
  obtain ⟨cl99, Ar99, qk99, Sz99, Nn99, Hs99, Gf99⟩ := id V_ab_100
  have hin99 : ¬ ((10 : Int32) < 0 ∨ cl99.slots.size ≤ ((10 : Int32)).toNatClampNeg) := inb_of Sz99 ⟨by decide, by decide⟩
  have hat99 : cl99.slots[((10 : Int32)).toNatClampNeg]? = some (.long (own_z11.getD ((10 : Int32)).toNatClampNeg 0)) := Has.at Hs99 hin99 (own_getD_long own_z11 _)
  refine own_st (X98.laload hx (j := (10 : Int32)) (v := (.long (own_z11.getD ((10 : Int32)).toNatClampNeg 0))) (by rw [e98]; exact Ar99.1) (State.isArrayOf_alike hZ.alike Ar99.2.1) Ar99.2.2 hin99 hat99 (g := (mkF m 36 #[.val (.ref r0), .val (.ref r1), .val (.int p2), .val (.long q3), .second, .val (.long q4), .second, .val (.ref r5), .val (.ref b3), .val (.int (10 : Int32))] [(.int (10 : Int32)), (.ref ab), (.long (xs.getD ((10 : Int32)).toNatClampNeg 0)), (.int (10 : Int32)), (.ref b3)])) rfl rfl (hb hby d7_36)) ?_
  show own_Go _ _ _ _ T98 (mkF m 37 #[.val (.ref r0), .val (.ref r1), .val (.int p2), .val (.long q3), .second, .val (.long q4), .second, .val (.ref r5), .val (.ref b3), .val (.int (10 : Int32))] [(.long (own_z11.getD ((10 : Int32)).toNatClampNeg 0)), (.long (xs.getD ((10 : Int32)).toNatClampNeg 0)), (.int (10 : Int32)), (.ref b3)])
  refine own_st (fun t k => XS.ladd X98.here hx rfl (hb hby d7_37) rfl k) ?_
  show own_Go _ _ _ _ T98 (mkF m 38 #[.val (.ref r0), .val (.ref r1), .val (.int p2), .val (.long q3), .second, .val (.long q4), .second, .val (.ref r5), .val (.ref b3), .val (.int (10 : Int32))] [(.long ((xs.getD ((10 : Int32)).toNatClampNeg 0) + (own_z11.getD ((10 : Int32)).toNatClampNeg 0))), (.int (10 : Int32)), (.ref b3)])
  have K0_101 := (K0_92.wr W94 (Or.inr sz_b3))
  obtain ⟨cl102, Ar102, qk102, Sz102, Nn102, Hs102, Gf102⟩ := id V94
  have hin102 : ¬ ((10 : Int32) < 0 ∨ cl102.slots.size ≤ ((10 : Int32)).toNatClampNeg) := inb_of Sz102 ⟨by decide, by decide⟩
  obtain ⟨T103, h103, X103, e103, W103, st103⟩ := stJ X98 hx hZ e98 Ar102 (j := (10 : Int32)) hin102 (g := (mkF m 38 #[.val (.ref r0), .val (.ref r1), .val (.int p2), .val (.long q3), .second, .val (.long q4), .second, .val (.ref r5), .val (.ref b3), .val (.int (10 : Int32))] [(.long ((xs.getD ((10 : Int32)).toNatClampNeg 0) + (own_z11.getD ((10 : Int32)).toNatClampNeg 0))), (.int (10 : Int32)), (.ref b3)])) rfl rfl (hb hby d7_38)
  have V103 := own_setJ Ar102 qk102 Sz102 Nn102 Hs102 Gf102 W103 (by rw [hxs]; decide)
  rw [own_set_id _ _ (by rw [hxs]; decide)] at V103
  obtain ⟨_, X103, N103⟩ := own_hide X103 (Fr.snoc X103 N94 g_b3)
  refine own_st st103 ?_
  show own_Go _ _ _ _ T103 (mkF m 39 #[.val (.ref r0), .val (.ref r1), .val (.int p2), .val (.long q3), .second, .val (.long q4), .second, .val (.ref r5), .val (.ref b3), .val (.int (10 : Int32))] [])
  refine own_st (fun t k => XS.iinc X103.here hx rfl (hb hby d7_39) rfl (l' := #[.val (.ref r0), .val (.ref r1), .val (.int p2), .val (.long q3), .second, .val (.long q4), .second, .val (.ref r5), .val (.ref b3), .val (.int (11 : Int32))]) rfl k) ?_
  show own_Go _ _ _ _ T103 (mkF m 42 #[.val (.ref r0), .val (.ref r1), .val (.int p2), .val (.long q3), .second, .val (.long q4), .second, .val (.ref r5), .val (.ref b3), .val (.int (11 : Int32))] [])
  refine own_st (fun t k => XS.goto X103.here hx rfl (pc0 := 42) (pc' := 15) rfl (hb hby d7_42) (by decide) (by decide) k) ?_
  show own_Go _ _ _ _ T103 (mkF m 15 #[.val (.ref r0), .val (.ref r1), .val (.int p2), .val (.long q3), .second, .val (.long q4), .second, .val (.ref r5), .val (.ref b3), .val (.int (11 : Int32))] [])
  refine own_st (fun t k => XS.iload X103.here hx rfl (hb hby d7_15) rfl k) ?_
  show own_Go _ _ _ _ T103 (mkF m 17 #[.val (.ref r0), .val (.ref r1), .val (.int p2), .val (.long q3), .second, .val (.long q4), .second, .val (.ref r5), .val (.ref b3), .val (.int (11 : Int32))] [(.int (11 : Int32))])
  refine own_st (fun t k => XS.aload X103.here hx rfl (hb hby d7_17) rfl rfl k) ?_
  show own_Go _ _ _ _ T103 (mkF m 19 #[.val (.ref r0), .val (.ref r1), .val (.int p2), .val (.long q3), .second, .val (.long q4), .second, .val (.ref r5), .val (.ref b3), .val (.int (11 : Int32))] [(.ref b3), (.int (11 : Int32))])
  obtain ⟨cl104, Ar104, qk104, Sz104, Nn104, Hs104, Gf104⟩ := id V103
  refine own_st (X103.arraylength hx (by rw [e103]; exact Ar104.1) (State.isArrayOf_alike hZ.alike Ar104.2.1) (g := (mkF m 19 #[.val (.ref r0), .val (.ref r1), .val (.int p2), .val (.long q3), .second, .val (.long q4), .second, .val (.ref r5), .val (.ref b3), .val (.int (11 : Int32))] [(.ref b3), (.int (11 : Int32))])) rfl rfl (hb hby d7_19)) ?_
  rw [len_of Sz104 Nn104]
  show own_Go _ _ _ _ T103 (mkF m 20 #[.val (.ref r0), .val (.ref r1), .val (.int p2), .val (.long q3), .second, .val (.long q4), .second, .val (.ref r5), .val (.ref b3), .val (.int (11 : Int32))] [(.int (11 : Int32)), (.int (11 : Int32))])
  refine own_st (fun t k => XS.icmpYes X103.here hx rfl (pc0 := 20) (pc' := 45) rfl (hb hby d7_20) rfl (flt (by decide : ¬ ((11 : Int32) < (11 : Int32)))).2.1 (by decide) (by decide) k) ?_
  show own_Go _ _ _ _ T103 (mkF m 45 #[.val (.ref r0), .val (.ref r1), .val (.int p2), .val (.long q3), .second, .val (.long q4), .second, .val (.ref r5), .val (.ref b3), .val (.int (11 : Int32))] [])
  have K0_105 := (K0_101.wr W103 (Or.inr sz_b3))
  obtain ⟨T106, h106, X106, e106, E106, A106, D106, -, st106⟩ := newO X103 hx hZ hown (hw _ (List.mem_of_getElem? (i := 93) rfl)) (hw _ (List.mem_of_getElem? (i := 94) rfl)) (hw _ (List.mem_of_getElem? (i := 95) rfl)) e103 (g := (mkF m 45 #[.val (.ref r0), .val (.ref r1), .val (.int p2), .val (.long q3), .second, .val (.long q4), .second, .val (.ref r5), .val (.ref b3), .val (.int (11 : Int32))] [])) rfl (hb hby d7_45) (by decide) (by decide)
  obtain ⟨b106, g106⟩ : ∃ z, z = h103.size := ⟨_, rfl⟩
  rw [← g106] at A106 D106 st106
  have sz_b106 : h0.size ≤ b106 := Nat.le_trans K0_105.1 (Nat.le_of_eq g106.symm)
  have g_b106 : n0 ≤ b106 := Nat.le_trans Z0 sz_b106
  have F_counts_r0_107 := ((((((((((((F_counts_r0.ext E3).other W13 (Or.inl ne_r0_b3)).other W22 (Or.inl ne_r0_b3)).other W31 (Or.inl ne_r0_b3)).other W40 (Or.inl ne_r0_b3)).other W49 (Or.inl ne_r0_b3)).other W58 (Or.inl ne_r0_b3)).other W67 (Or.inl ne_r0_b3)).other W76 (Or.inl ne_r0_b3)).other W85 (Or.inl ne_r0_b3)).other W94 (Or.inl ne_r0_b3)).other W103 (Or.inl ne_r0_b3))
  have ne_r0_b106 : r0 ≠ b106 := Nat.ne_of_lt (Nat.lt_of_lt_of_le F_counts_r0_107.lt (Nat.le_of_eq g106.symm))
  have F_counts_r5_108 := (F_counts_r5_97.other W103 (Or.inl ne_r5_b3))
  have ne_r5_b106 : r5 ≠ b106 := Nat.ne_of_lt (Nat.lt_of_lt_of_le F_counts_r5_108.lt (Nat.le_of_eq g106.symm))
  have V_aa_109 := ((((((((((((V_aa.ext E3).other W13 ne_aa_b3).other W22 ne_aa_b3).other W31 ne_aa_b3).other W40 ne_aa_b3).other W49 ne_aa_b3).other W58 ne_aa_b3).other W67 ne_aa_b3).other W76 ne_aa_b3).other W85 ne_aa_b3).other W94 ne_aa_b3).other W103 ne_aa_b3)
  have ne_aa_b106 : aa ≠ b106 := Nat.ne_of_lt (Nat.lt_of_lt_of_le V_aa_109.lt (Nat.le_of_eq g106.symm))
  have V_ab_110 := (V_ab_100.other W103 ne_ab_b3)
  have ne_ab_b106 : ab ≠ b106 := Nat.ne_of_lt (Nat.lt_of_lt_of_le V_ab_110.lt (Nat.le_of_eq g106.symm))
  have Ex3_111 := (((((((((((Ex3.wr W13).wr W22).wr W31).wr W40).wr W49).wr W58).wr W67).wr W76).wr W85).wr W94).wr W103)
  have ne_b3_b106 : b3 ≠ b106 := Nat.ne_of_lt (Nat.lt_of_lt_of_le Ex3_111.lt (Nat.le_of_eq g106.symm))
  have F106_poolName : Fld Z h106 b106 "com/example/hot_pool/hotpool/stats/HotPoolStatistics" "poolName" "Ljava/lang/String;" .null := D106 (Or.inr (hw _ (List.mem_of_getElem? (i := 101) rfl))) (ty := (.object "java/lang/String")) (by decide)
  have F106_suspended : Fld Z h106 b106 "com/example/hot_pool/hotpool/stats/HotPoolStatistics" "suspended" "Z" (.int (0 : Int32)) := D106 (Or.inr (hw _ (List.mem_of_getElem? (i := 103) rfl))) (ty := .boolean) (by decide)
  have F106_available : Fld Z h106 b106 "com/example/hot_pool/hotpool/stats/HotPoolStatistics" "available" "J" (.long (0 : Int64)) := D106 (Or.inr (hw _ (List.mem_of_getElem? (i := 105) rfl))) (ty := .long) (by decide)
  have F106_waiting : Fld Z h106 b106 "com/example/hot_pool/hotpool/stats/HotPoolStatistics" "waiting" "J" (.long (0 : Int64)) := D106 (Or.inr (hw _ (List.mem_of_getElem? (i := 107) rfl))) (ty := .long) (by decide)
  have F106_counts : Fld Z h106 b106 "com/example/hot_pool/hotpool/stats/HotPoolStatistics" "counts" "[J" .null := D106 (Or.inr (hw _ (List.mem_of_getElem? (i := 109) rfl))) (ty := (.array .long)) (by decide)
  refine own_st st106 ?_
  show own_Go _ _ _ _ T106 (mkF m 48 #[.val (.ref r0), .val (.ref r1), .val (.int p2), .val (.long q3), .second, .val (.long q4), .second, .val (.ref r5), .val (.ref b3), .val (.int (11 : Int32))] [(.ref b106)])
  refine own_st (fun t k => XS.dup X106.here hx rfl (hb hby d7_48) rfl rfl k) ?_
  show own_Go _ _ _ _ T106 (mkF m 49 #[.val (.ref r0), .val (.ref r1), .val (.int p2), .val (.long q3), .second, .val (.long q4), .second, .val (.ref r5), .val (.ref b3), .val (.int (11 : Int32))] [(.ref b106), (.ref b106)])
  refine own_st (fun t k => XS.aloadN X106.here hx rfl (hb hby d7_49) rfl rfl k) ?_
  show own_Go _ _ _ _ T106 (mkF m 50 #[.val (.ref r0), .val (.ref r1), .val (.int p2), .val (.long q3), .second, .val (.long q4), .second, .val (.ref r5), .val (.ref b3), .val (.int (11 : Int32))] [(.ref r1), (.ref b106), (.ref b106)])
  refine own_st (fun t k => XS.iloadN X106.here hx rfl (hb hby d7_50) rfl k) ?_
  show own_Go _ _ _ _ T106 (mkF m 51 #[.val (.ref r0), .val (.ref r1), .val (.int p2), .val (.long q3), .second, .val (.long q4), .second, .val (.ref r5), .val (.ref b3), .val (.int (11 : Int32))] [(.int p2), (.ref r1), (.ref b106), (.ref b106)])
  refine own_st (fun t k => XS.lloadN X106.here hx rfl (hb hby d7_51) rfl k) ?_
  show own_Go _ _ _ _ T106 (mkF m 52 #[.val (.ref r0), .val (.ref r1), .val (.int p2), .val (.long q3), .second, .val (.long q4), .second, .val (.ref r5), .val (.ref b3), .val (.int (11 : Int32))] [(.long q3), (.int p2), (.ref r1), (.ref b106), (.ref b106)])
  refine own_st (fun t k => XS.lload X106.here hx rfl (hb hby d7_52) rfl k) ?_
  show own_Go _ _ _ _ T106 (mkF m 54 #[.val (.ref r0), .val (.ref r1), .val (.int p2), .val (.long q3), .second, .val (.long q4), .second, .val (.ref r5), .val (.ref b3), .val (.int (11 : Int32))] [(.long q4), (.long q3), (.int p2), (.ref r1), (.ref b106), (.ref b106)])
  refine own_st (fun t k => XS.aload X106.here hx rfl (hb hby d7_54) rfl rfl k) ?_
  show own_Go _ _ _ _ T106 (mkF m 56 #[.val (.ref r0), .val (.ref r1), .val (.int p2), .val (.long q3), .second, .val (.long q4), .second, .val (.ref r5), .val (.ref b3), .val (.int (11 : Int32))] [(.ref b3), (.long q4), (.long q3), (.int p2), (.ref r1), (.ref b106), (.ref b106)])
  have K0_113 := (K0_105.ext E106)
  obtain ⟨_, _, ⟨T112, L112, k112, n112⟩, -, X112, ⟨Lc112, hQ112, l112, y112, z112⟩, st112⟩ := X106.specialBack hx (y := (⟨"com/example/hot_pool/hotpool/stats/HotPoolStatistics", "<init>", "(Ljava/lang/String;ZJJ[J)V"⟩ : MethodName)) rfl hown (mvT hZ (hw _ (List.mem_of_getElem? (i := 96) rfl))) (mvT hZ (hw _ (List.mem_of_getElem? (i := 97) rfl))) (mvT hZ (hw _ (List.mem_of_getElem? (i := 98) rfl))) (by decide) (backOf (W := 1) (rm8 l Z a0 hw [] b106 r1 p2 q3 q4 b3  h106 n0 (Nat.le_trans Z0 K0_113.1) A106 F106_poolName F106_suspended F106_available F106_waiting F106_counts g_b106) hZ (hw _ (List.mem_of_getElem? (i := 98) rfl)) (hw _ (List.mem_of_getElem? (i := 95) rfl)) (by decide) (by decide)) (g := (mkF m 56 #[.val (.ref r0), .val (.ref r1), .val (.int p2), .val (.long q3), .second, .val (.long q4), .second, .val (.ref r5), .val (.ref b3), .val (.int (11 : Int32))] [(.ref b3), (.long q4), (.long q3), (.int p2), (.ref r1), (.ref b106), (.ref b106)])) rfl (by rw [hml]; rfl) (Steps.refl _) (a := b106) (argsL := [(.ref r1), (.int p2), (.long q3), (.long q4), (.ref b3)]) (rest := [(.ref b106)]) (lenOf pd__28Ljava_2flang_2fString_3bZJJ_5bJ_29V rfl) rfl (by show 2 * 0 + _ ≤ _; exact Nat.le_of_eq rfl) (hb hby d7_56) (fun _ _ => ⟨rfl, e106, (by decide : 2 + 0 ≤ _), (by decide : 16 + 0 ≤ _)⟩)
  dsimp only [Pt.U, Pt.locs, Pt.cells, Pt.slots] at X112 l112 y112 z112 st112 hQ112
  subst l112 y112 z112
  obtain ⟨rfl, N112q, K112, G112_0, G112_1, G112_2, G112_3, G112_4⟩ := hQ112
  obtain ⟨_, X112, N112⟩ := own_hide X112 (Fr.app N103 N112q)
  refine own_tr st112 ?_
  show own_Go _ _ _ _ T112 (mkF m 59 #[.val (.ref r0), .val (.ref r1), .val (.int p2), .val (.long q3), .second, .val (.long q4), .second, .val (.ref r5), .val (.ref b3), .val (.int (11 : Int32))] [(.ref b106)])
  have K0_114 := (K0_113.trans K112 (allS ((Or.inr sz_b106)) all0))
  have A106_115 := (A106.keep K112)
  have V103_116 := ((V103.ext E106).keep K112 (ninS ne_b3_b106 nin0))
  exact own_retR X112 hx hlk hrt rfl rfl rfl (hb hby d7_59) ⟨b106, b3, ka, rfl, N112, K0_114, sz_b106, A106_115, G112_4, V103_116⟩ (by decide) (by decide)
/-! body 11: HotPoolStatistics.count -/
theorem d11_0 : decode prog_64_method_20_code 0 = .ok (.aload_n 0, 1) := by decide +kernel
theorem d11_1 : decode prog_64_method_20_code 1 = .ok (.getfield 24, 3) := by decide +kernel
theorem d11_4 : decode prog_64_method_20_code 4 = .ok (.aload_n 1, 1) := by decide +kernel
theorem d11_5 : decode prog_64_method_20_code 5 = .ok (.invokevirtual 122, 3) := by decide +kernel
theorem d11_8 : decode prog_64_method_20_code 8 = .ok (.laload, 1) := by decide +kernel
theorem d11_9 : decode prog_64_method_20_code 9 = .ok (.lreturn, 1) := by decide +kernel
theorem ef_11 (m : MethodId) (x0 : Addr) (x1 : Addr) : entryFrame m #[(.ref x0), (.ref x1)] 2 = mkF m 0 #[.val (.ref x0), .val (.ref x1)] [] := by first | (simp [entryFrame, mkF, argsToLocals, Value.category]; done) | rfl
def Q11 (Z : State) (r0 : Addr) (r1 : Addr) (aa : Addr) (oo : Int32) (ka : ClassId) (xs : List Int64) (h0 : Heap) (n0 : Nat) (v : Option Value) (h : Heap) (L : List Loc) : Prop := v = some (.long (xs.getD (oo).toNatClampNeg 0)) ∧ Fr n0 L ∧ h = h0
set_option maxRecDepth 65536 in
set_option maxHeartbeats 40000000 in
theorem rm11 (l : Launch) (Z : State) (a0 : Array Value) (hw : ∀ d ∈ tables_1, d.before a0 Z = true) (ws : List Jvm.Cond) (r0 : Addr) (r1 : Addr) (aa : Addr) (oo : Int32) (ka : ClassId) (xs : List Int64) (h0 : Heap) (n0 : Nat) (Z0 : n0 ≤ h0.size) (F_counts_r0 : Fld Z h0 r0 "com/example/hot_pool/hotpool/stats/HotPoolStatistics" "counts" "[J" (.ref aa)) (E_r1 : Exa Z h0 r1 "com/example/hot_pool/hotpool/stats/PoolEvent") (F_ordinal_r1 : Fld Z h0 r1 "java/lang/Enum" "ordinal" "I" (.int oo)) (V_aa : Arv Z h0 aa ka .long (11 : Int32) (xs.map Value.long) (.long 0)) (ho : ¬ oo < 0 ∧ oo < 11) :
    MetFree l (⟨"com/example/hot_pool/hotpool/stats/HotPoolStatistics", "count", "(Lcom/example/hot_pool/hotpool/stats/PoolEvent;)J"⟩ : MethodName) (head1 (Jvm.Cond.code (⟨"com/example/hot_pool/hotpool/stats/HotPoolStatistics", "count", "(Lcom/example/hot_pool/hotpool/stats/PoolEvent;)J"⟩ : MethodName) prog_64_method_20_code 2 (some .long) :: ws) ({ frames := 1, cells := 0, slots := 0, locals := 13 } : Room)) (fun a U => a = #[(.ref r0), (.ref r1)] ∧ Z.Warmed39 U.vm ∧ U.heap = h0) (fun _ _ _ _ _ => True) (fun _ U o U' => ∃ v L, o = .returned v ∧ Q11 Z r0 r1 aa oo ka xs h0 n0 v U'.heap L ∧ FrameEnd U o U' L ({ frames := 1, cells := 0, slots := 0, locals := 13 } : Room).cells ({ frames := 1, cells := 0, slots := 0, locals := 13 } : Room).slots) := by
  refine MetFree.of_bodySF (plainFor_of_name pn_com_example_hot_pool_hotpool_stats_HotPoolStatistics) hisR ?_
  intro p e s m args below meth c s₁ Bd hml0 hP hK
  obtain ⟨rfl, hZ, hh⟩ := hP
  have hx := Bd.exec
  have hby := Bd.bytes
  have hlk := Bd.notSynchronized
  have hrt := Bd.returns
  have hml : c.maxLocals = 2 := hml0
  have hown : s.vm.findClass "com/example/hot_pool/hotpool/stats/HotPoolStatistics" = some m.cls := findClass_of_methodNamed Bd.named
  have hnm := (name_of_methodNamed Bd.named Bd.method).1
  have X0 : Stand p l e ({ frames := 1, cells := 0, slots := 0, locals := 13 } : Room) s m #[(.ref r0), (.ref r1)] below meth c s₁ [] 0 0 := Stand.of_body Bd
  have e0 : s₁.heap = h0 := by rw [← hh, Bd.state]; rfl
  have N0 := Fr.nil n0
  have K0 := Keep.refl h0 []
  refine own_out (Q := Q11 Z r0 r1 aa oo ka xs h0 n0) ?_
  refine own_in (ef_11 m r0 r1) ?_
  show own_Go _ _ _ _ s₁ (mkF m 0 #[.val (.ref r0), .val (.ref r1)] [])
  refine own_st (fun t k => XS.aloadN X0.here hx rfl (hb hby d11_0) rfl rfl k) ?_
  show own_Go _ _ _ _ s₁ (mkF m 1 #[.val (.ref r0), .val (.ref r1)] [(.ref r0)])
  obtain ⟨T1, X1, e1, st1⟩ := getF X0 hx hZ hown (host := "") (Or.inl (hw _ (List.mem_of_getElem? (i := 108) rfl))) Via.refl e0 F_counts_r0 (g := (mkF m 1 #[.val (.ref r0), .val (.ref r1)] [(.ref r0)])) rfl rfl (hb hby d11_1)
  refine own_st st1 ?_
  show own_Go _ _ _ _ T1 (mkF m 4 #[.val (.ref r0), .val (.ref r1)] [(.ref aa)])
  refine own_st (fun t k => XS.aloadN X1.here hx rfl (hb hby d11_4) rfl rfl k) ?_
  show own_Go _ _ _ _ T1 (mkF m 5 #[.val (.ref r0), .val (.ref r1)] [(.ref r1), (.ref aa)])
  obtain ⟨cq2, kq2, q2a, q2b, q2c⟩ := isOf hZ e1 E_r1
  obtain ⟨_, _, ⟨T2, L2, k2, n2⟩, -, X2, ⟨Lc2, hQ2, l2, y2, z2⟩, st2⟩ := X1.virtualBackUp hx (owner := "java/lang/Enum") (x := (⟨"com/example/hot_pool/hotpool/stats/PoolEvent", "ordinal", "()I"⟩ : MethodName)) (y := (⟨"java/lang/Enum", "ordinal", "()I"⟩ : MethodName)) hown (mvT hZ (hw _ (List.mem_of_getElem? (i := 124) rfl))) (mvT hZ (hw _ (List.mem_of_getElem? (i := 60) rfl))) (mvT hZ (hw _ (List.mem_of_getElem? (i := 61) rfl))) (by decide) (mvT hZ (hw _ (List.mem_of_getElem? (i := 63) rfl))) (mvT hZ (hw _ (List.mem_of_getElem? (i := 62) rfl))) (backOf (W := 1) (rm5 l Z a0 hw [] r1 oo  h0 n0 Z0 F_ordinal_r1) hZ (hw _ (List.mem_of_getElem? (i := 65) rfl)) (hw _ (List.mem_of_getElem? (i := 64) rfl)) (by decide) (by decide)) q2a q2c (g := (mkF m 5 #[.val (.ref r0), .val (.ref r1)] [(.ref r1), (.ref aa)])) rfl (by rw [hml]; rfl) (Steps.refl _) (argsL := []) (rest := [(.ref aa)]) (lenOf pd__28_29I rfl) rfl (by show 2 * 0 + _ ≤ _; exact Nat.le_of_eq rfl) (hb hby d11_5) (fun _ _ => ⟨rfl, e1, (by decide : 0 + 0 ≤ _), (by decide : 0 + 0 ≤ _)⟩)
  dsimp only [Pt.U, Pt.locs, Pt.cells, Pt.slots] at X2 l2 y2 z2 st2 hQ2
  subst l2 y2 z2
  obtain ⟨rfl, N2q, e2⟩ := hQ2
  obtain ⟨_, X2, N2⟩ := own_hide X2 (Fr.app N0 N2q)
  refine own_tr st2 ?_
  show own_Go _ _ _ _ T2 (mkF m 8 #[.val (.ref r0), .val (.ref r1)] [(.int oo), (.ref aa)])
  obtain ⟨cl3, Ar3, qk3, Sz3, Nn3, Hs3, Gf3⟩ := id V_aa
  have hin3 : ¬ (oo < 0 ∨ cl3.slots.size ≤ (oo).toNatClampNeg) := inb_of Sz3 ho
  have hat3 : cl3.slots[(oo).toNatClampNeg]? = some (.long (xs.getD (oo).toNatClampNeg 0)) := Has.at Hs3 hin3 (own_getD_long xs _)
  refine own_st (X2.laload hx (j := oo) (v := (.long (xs.getD (oo).toNatClampNeg 0))) (by rw [e2]; exact Ar3.1) (State.isArrayOf_alike hZ.alike Ar3.2.1) Ar3.2.2 hin3 hat3 (g := (mkF m 8 #[.val (.ref r0), .val (.ref r1)] [(.int oo), (.ref aa)])) rfl rfl (hb hby d11_8)) ?_
  show own_Go _ _ _ _ T2 (mkF m 9 #[.val (.ref r0), .val (.ref r1)] [(.long (xs.getD (oo).toNatClampNeg 0))])
  exact own_retJ X2 hx hlk hrt (hb hby d11_9) ⟨rfl, N2, e2⟩ (by decide) (by decide)
theorem pd_145725 : parseMethodDescriptor "(Lcom/example/hot_pool/hotpool/stats/PoolEvent;)J" = some ⟨[(.object "com/example/hot_pool/hotpool/stats/PoolEvent")], some .long⟩ := by decide +kernel
/-! body 16: HotPoolStatistics.getConnectionsCreated -/
theorem d16_0 : decode prog_64_method_8_code 0 = .ok (.aload_n 0, 1) := by decide +kernel
theorem d16_1 : decode prog_64_method_8_code 1 = .ok (.getstatic 38, 3) := by decide +kernel
theorem d16_4 : decode prog_64_method_8_code 4 = .ok (.invokevirtual 44, 3) := by decide +kernel
theorem d16_7 : decode prog_64_method_8_code 7 = .ok (.lreturn, 1) := by decide +kernel
theorem ef_16 (m : MethodId) (x0 : Addr) : entryFrame m #[(.ref x0)] 1 = mkF m 0 #[.val (.ref x0)] [] := by first | (simp [entryFrame, mkF, argsToLocals, Value.category]; done) | rfl
def Q16 (Z : State) (r0 : Addr) (aa : Addr) (ka : ClassId) (xs : List Int64) (es : List Addr) (h0 : Heap) (n0 : Nat) (v : Option Value) (h : Heap) (L : List Loc) : Prop := v = some (.long (xs.getD ((0 : Int32)).toNatClampNeg 0)) ∧ Fr n0 L ∧ h = h0
set_option maxRecDepth 65536 in
set_option maxHeartbeats 40000000 in
theorem rm16 (l : Launch) (Z : State) (a0 : Array Value) (hw : ∀ d ∈ tables_1, d.before a0 Z = true) (ws : List Jvm.Cond) (r0 : Addr) (aa : Addr) (ka : ClassId) (xs : List Int64) (es : List Addr) (h0 : Heap) (n0 : Nat) (Z0 : n0 ≤ h0.size) (E_r0 : Exa Z h0 r0 "com/example/hot_pool/hotpool/stats/HotPoolStatistics") (F_counts_r0 : Fld Z h0 r0 "com/example/hot_pool/hotpool/stats/HotPoolStatistics" "counts" "[J" (.ref aa)) (V_aa : Arv Z h0 aa ka .long (11 : Int32) (xs.map Value.long) (.long 0)) (hG : own_G Z es) (O0 : Old Z n0 h0) :
    MetFree l (⟨"com/example/hot_pool/hotpool/stats/HotPoolStatistics", "getConnectionsCreated", "()J"⟩ : MethodName) (head1 (Jvm.Cond.code (⟨"com/example/hot_pool/hotpool/stats/HotPoolStatistics", "getConnectionsCreated", "()J"⟩ : MethodName) prog_64_method_8_code 1 (some .long) :: ws) ({ frames := 2, cells := 0, slots := 0, locals := 26 } : Room)) (fun a U => a = #[(.ref r0)] ∧ Z.Warmed39 U.vm ∧ U.heap = h0) (fun _ _ _ _ _ => True) (fun _ U o U' => ∃ v L, o = .returned v ∧ Q16 Z r0 aa ka xs es h0 n0 v U'.heap L ∧ FrameEnd U o U' L ({ frames := 2, cells := 0, slots := 0, locals := 26 } : Room).cells ({ frames := 2, cells := 0, slots := 0, locals := 26 } : Room).slots) := by
  refine MetFree.of_bodySF (plainFor_of_name pn_com_example_hot_pool_hotpool_stats_HotPoolStatistics) hisR ?_
  intro p e s m args below meth c s₁ Bd hml0 hP hK
  obtain ⟨rfl, hZ, hh⟩ := hP
  have hx := Bd.exec
  have hby := Bd.bytes
  have hlk := Bd.notSynchronized
  have hrt := Bd.returns
  have hml : c.maxLocals = 1 := hml0
  have hown : s.vm.findClass "com/example/hot_pool/hotpool/stats/HotPoolStatistics" = some m.cls := findClass_of_methodNamed Bd.named
  have hnm := (name_of_methodNamed Bd.named Bd.method).1
  have X0 : Stand p l e ({ frames := 2, cells := 0, slots := 0, locals := 26 } : Room) s m #[(.ref r0)] below meth c s₁ [] 0 0 := Stand.of_body Bd
  have e0 : s₁.heap = h0 := by rw [← hh, Bd.state]; rfl
  have N0 := Fr.nil n0
  have K0 := Keep.refl h0 []
  refine own_out (Q := Q16 Z r0 aa ka xs es h0 n0) ?_
  refine own_in (ef_16 m r0) ?_
  show own_Go _ _ _ _ s₁ (mkF m 0 #[.val (.ref r0)] [])
  refine own_st (fun t k => XS.aloadN X0.here hx rfl (hb hby d16_0) rfl rfl k) ?_
  show own_Go _ _ _ _ s₁ (mkF m 1 #[.val (.ref r0)] [(.ref r0)])
  obtain ⟨T1, X1, e1, st1⟩ := getS2 X0 hx hZ hown (host := "") (Or.inl (hw _ (List.mem_of_getElem? (i := 154) rfl))) Via.refl e0 ((own_S0 hG).ext O0.2) (g := (mkF m 1 #[.val (.ref r0)] [(.ref r0)])) rfl (hb hby d16_1)
  refine own_st st1 ?_
  show own_Go _ _ _ _ T1 (mkF m 4 #[.val (.ref r0)] [(.ref (es.getD 0 0)), (.ref r0)])
  obtain ⟨cq2, q2a, q2b⟩ := E_r0.cell
  obtain ⟨ci2, ki2, i2a, i2b, -, i2c, -⟩ := Cond.instantiable_spec (mvT (args := #[]) hZ (hw _ (List.mem_of_getElem? (i := 94) rfl)))
  obtain ⟨_, _, ⟨T2, L2, k2, n2⟩, -, X2, ⟨Lc2, hQ2, l2, y2, z2⟩, st2⟩ := X1.privateBack hx (y := (⟨"com/example/hot_pool/hotpool/stats/HotPoolStatistics", "count", "(Lcom/example/hot_pool/hotpool/stats/PoolEvent;)J"⟩ : MethodName)) hown (mvT hZ (hw _ (List.mem_of_getElem? (i := 120) rfl))) (mvT hZ (hw _ (List.mem_of_getElem? (i := 121) rfl))) (selects_self_of_private i2a i2b (by simp only [Bool.or_eq_false_iff] at i2c; exact i2c.1) (Cond.privateMethod_at (mvP hZ (hw _ (List.mem_of_getElem? (i := 122) rfl)) (args := #[]))) (mvT hZ (hw _ (List.mem_of_getElem? (i := 121) rfl))) (by decide)) (Cond.privateMethod_at (mvP hZ (hw _ (List.mem_of_getElem? (i := 122) rfl)) (args := #[]))) (mvT hZ (hw _ (List.mem_of_getElem? (i := 123) rfl))) (by decide) (backOf (W := 0) (rm11 l Z a0 hw [] r0 (es.getD 0 0) aa (0 : Int32) ka xs  h0 n0 Z0 F_counts_r0 ((own_E0 hG).ext O0.2) ((own_O0 hG).ext O0.2) V_aa ⟨by decide, by decide⟩) hZ (hw _ (List.mem_of_getElem? (i := 123) rfl)) (hw _ (List.mem_of_getElem? (i := 95) rfl)) (by decide) (by decide)) (g := (mkF m 4 #[.val (.ref r0)] [(.ref (es.getD 0 0)), (.ref r0)])) rfl (by rw [hml]; rfl) (Steps.refl _) (a := r0) (by rw [e1]; exact q2a) q2b (argsL := [(.ref (es.getD 0 0))]) (rest := []) (lenOf pd_145725 rfl) rfl (by show 2 * 0 + _ ≤ _; exact Nat.le_of_eq rfl) (hb hby d16_4) (fun _ _ => ⟨rfl, e1, (by decide : 0 + 0 ≤ _), (by decide : 0 + 0 ≤ _)⟩)
  dsimp only [Pt.U, Pt.locs, Pt.cells, Pt.slots] at X2 l2 y2 z2 st2 hQ2
  subst l2 y2 z2
  obtain ⟨rfl, N2q, e2⟩ := hQ2
  obtain ⟨_, X2, N2⟩ := own_hide X2 (Fr.app N0 N2q)
  refine own_tr st2 ?_
  show own_Go _ _ _ _ T2 (mkF m 7 #[.val (.ref r0)] [(.long (xs.getD ((0 : Int32)).toNatClampNeg 0))])
  exact own_retJ X2 hx hlk hrt (hb hby d16_7) ⟨rfl, N2, e2⟩ (by decide) (by decide)
/-! body 10: HotPoolStatistics.getConnectionsClosed -/
theorem d10_0 : decode prog_64_method_9_code 0 = .ok (.aload_n 0, 1) := by decide +kernel
theorem d10_1 : decode prog_64_method_9_code 1 = .ok (.getstatic 48, 3) := by decide +kernel
theorem d10_4 : decode prog_64_method_9_code 4 = .ok (.invokevirtual 44, 3) := by decide +kernel
theorem d10_7 : decode prog_64_method_9_code 7 = .ok (.lreturn, 1) := by decide +kernel
theorem ef_10 (m : MethodId) (x0 : Addr) : entryFrame m #[(.ref x0)] 1 = mkF m 0 #[.val (.ref x0)] [] := by first | (simp [entryFrame, mkF, argsToLocals, Value.category]; done) | rfl
def Q10 (Z : State) (r0 : Addr) (aa : Addr) (ka : ClassId) (xs : List Int64) (es : List Addr) (h0 : Heap) (n0 : Nat) (v : Option Value) (h : Heap) (L : List Loc) : Prop := v = some (.long (xs.getD ((1 : Int32)).toNatClampNeg 0)) ∧ Fr n0 L ∧ h = h0
set_option maxRecDepth 65536 in
set_option maxHeartbeats 40000000 in
theorem rm10 (l : Launch) (Z : State) (a0 : Array Value) (hw : ∀ d ∈ tables_1, d.before a0 Z = true) (ws : List Jvm.Cond) (r0 : Addr) (aa : Addr) (ka : ClassId) (xs : List Int64) (es : List Addr) (h0 : Heap) (n0 : Nat) (Z0 : n0 ≤ h0.size) (E_r0 : Exa Z h0 r0 "com/example/hot_pool/hotpool/stats/HotPoolStatistics") (F_counts_r0 : Fld Z h0 r0 "com/example/hot_pool/hotpool/stats/HotPoolStatistics" "counts" "[J" (.ref aa)) (V_aa : Arv Z h0 aa ka .long (11 : Int32) (xs.map Value.long) (.long 0)) (hG : own_G Z es) (O0 : Old Z n0 h0) :
    MetFree l (⟨"com/example/hot_pool/hotpool/stats/HotPoolStatistics", "getConnectionsClosed", "()J"⟩ : MethodName) (head1 (Jvm.Cond.code (⟨"com/example/hot_pool/hotpool/stats/HotPoolStatistics", "getConnectionsClosed", "()J"⟩ : MethodName) prog_64_method_9_code 1 (some .long) :: ws) ({ frames := 2, cells := 0, slots := 0, locals := 26 } : Room)) (fun a U => a = #[(.ref r0)] ∧ Z.Warmed39 U.vm ∧ U.heap = h0) (fun _ _ _ _ _ => True) (fun _ U o U' => ∃ v L, o = .returned v ∧ Q10 Z r0 aa ka xs es h0 n0 v U'.heap L ∧ FrameEnd U o U' L ({ frames := 2, cells := 0, slots := 0, locals := 26 } : Room).cells ({ frames := 2, cells := 0, slots := 0, locals := 26 } : Room).slots) := by
  refine MetFree.of_bodySF (plainFor_of_name pn_com_example_hot_pool_hotpool_stats_HotPoolStatistics) hisR ?_
  intro p e s m args below meth c s₁ Bd hml0 hP hK
  obtain ⟨rfl, hZ, hh⟩ := hP
  have hx := Bd.exec
  have hby := Bd.bytes
  have hlk := Bd.notSynchronized
  have hrt := Bd.returns
  have hml : c.maxLocals = 1 := hml0
  have hown : s.vm.findClass "com/example/hot_pool/hotpool/stats/HotPoolStatistics" = some m.cls := findClass_of_methodNamed Bd.named
  have hnm := (name_of_methodNamed Bd.named Bd.method).1
  have X0 : Stand p l e ({ frames := 2, cells := 0, slots := 0, locals := 26 } : Room) s m #[(.ref r0)] below meth c s₁ [] 0 0 := Stand.of_body Bd
  have e0 : s₁.heap = h0 := by rw [← hh, Bd.state]; rfl
  have N0 := Fr.nil n0
  have K0 := Keep.refl h0 []
  refine own_out (Q := Q10 Z r0 aa ka xs es h0 n0) ?_
  refine own_in (ef_10 m r0) ?_
  show own_Go _ _ _ _ s₁ (mkF m 0 #[.val (.ref r0)] [])
  refine own_st (fun t k => XS.aloadN X0.here hx rfl (hb hby d10_0) rfl rfl k) ?_
  show own_Go _ _ _ _ s₁ (mkF m 1 #[.val (.ref r0)] [(.ref r0)])
  obtain ⟨T1, X1, e1, st1⟩ := getS2 X0 hx hZ hown (host := "") (Or.inl (hw _ (List.mem_of_getElem? (i := 119) rfl))) Via.refl e0 ((own_S1 hG).ext O0.2) (g := (mkF m 1 #[.val (.ref r0)] [(.ref r0)])) rfl (hb hby d10_1)
  refine own_st st1 ?_
  show own_Go _ _ _ _ T1 (mkF m 4 #[.val (.ref r0)] [(.ref (es.getD 1 0)), (.ref r0)])
  obtain ⟨cq2, q2a, q2b⟩ := E_r0.cell
  obtain ⟨ci2, ki2, i2a, i2b, -, i2c, -⟩ := Cond.instantiable_spec (mvT (args := #[]) hZ (hw _ (List.mem_of_getElem? (i := 94) rfl)))
  obtain ⟨_, _, ⟨T2, L2, k2, n2⟩, -, X2, ⟨Lc2, hQ2, l2, y2, z2⟩, st2⟩ := X1.privateBack hx (y := (⟨"com/example/hot_pool/hotpool/stats/HotPoolStatistics", "count", "(Lcom/example/hot_pool/hotpool/stats/PoolEvent;)J"⟩ : MethodName)) hown (mvT hZ (hw _ (List.mem_of_getElem? (i := 120) rfl))) (mvT hZ (hw _ (List.mem_of_getElem? (i := 121) rfl))) (selects_self_of_private i2a i2b (by simp only [Bool.or_eq_false_iff] at i2c; exact i2c.1) (Cond.privateMethod_at (mvP hZ (hw _ (List.mem_of_getElem? (i := 122) rfl)) (args := #[]))) (mvT hZ (hw _ (List.mem_of_getElem? (i := 121) rfl))) (by decide)) (Cond.privateMethod_at (mvP hZ (hw _ (List.mem_of_getElem? (i := 122) rfl)) (args := #[]))) (mvT hZ (hw _ (List.mem_of_getElem? (i := 123) rfl))) (by decide) (backOf (W := 0) (rm11 l Z a0 hw [] r0 (es.getD 1 0) aa (1 : Int32) ka xs  h0 n0 Z0 F_counts_r0 ((own_E1 hG).ext O0.2) ((own_O1 hG).ext O0.2) V_aa ⟨by decide, by decide⟩) hZ (hw _ (List.mem_of_getElem? (i := 123) rfl)) (hw _ (List.mem_of_getElem? (i := 95) rfl)) (by decide) (by decide)) (g := (mkF m 4 #[.val (.ref r0)] [(.ref (es.getD 1 0)), (.ref r0)])) rfl (by rw [hml]; rfl) (Steps.refl _) (a := r0) (by rw [e1]; exact q2a) q2b (argsL := [(.ref (es.getD 1 0))]) (rest := []) (lenOf pd_145725 rfl) rfl (by show 2 * 0 + _ ≤ _; exact Nat.le_of_eq rfl) (hb hby d10_4) (fun _ _ => ⟨rfl, e1, (by decide : 0 + 0 ≤ _), (by decide : 0 + 0 ≤ _)⟩)
  dsimp only [Pt.U, Pt.locs, Pt.cells, Pt.slots] at X2 l2 y2 z2 st2 hQ2
  subst l2 y2 z2
  obtain ⟨rfl, N2q, e2⟩ := hQ2
  obtain ⟨_, X2, N2⟩ := own_hide X2 (Fr.app N0 N2q)
  refine own_tr st2 ?_
  show own_Go _ _ _ _ T2 (mkF m 7 #[.val (.ref r0)] [(.long (xs.getD ((1 : Int32)).toNatClampNeg 0))])
  exact own_retJ X2 hx hlk hrt (hb hby d10_7) ⟨rfl, N2, e2⟩ (by decide) (by decide)
/-! body 13: HotPoolStatistics.getBorrows -/
theorem d13_0 : decode prog_64_method_10_code 0 = .ok (.aload_n 0, 1) := by decide +kernel
theorem d13_1 : decode prog_64_method_10_code 1 = .ok (.getstatic 51, 3) := by decide +kernel
theorem d13_4 : decode prog_64_method_10_code 4 = .ok (.invokevirtual 44, 3) := by decide +kernel
theorem d13_7 : decode prog_64_method_10_code 7 = .ok (.lreturn, 1) := by decide +kernel
theorem ef_13 (m : MethodId) (x0 : Addr) : entryFrame m #[(.ref x0)] 1 = mkF m 0 #[.val (.ref x0)] [] := by first | (simp [entryFrame, mkF, argsToLocals, Value.category]; done) | rfl
def Q13 (Z : State) (r0 : Addr) (aa : Addr) (ka : ClassId) (xs : List Int64) (es : List Addr) (h0 : Heap) (n0 : Nat) (v : Option Value) (h : Heap) (L : List Loc) : Prop := v = some (.long (xs.getD ((2 : Int32)).toNatClampNeg 0)) ∧ Fr n0 L ∧ h = h0
set_option maxRecDepth 65536 in
set_option maxHeartbeats 40000000 in
theorem rm13 (l : Launch) (Z : State) (a0 : Array Value) (hw : ∀ d ∈ tables_1, d.before a0 Z = true) (ws : List Jvm.Cond) (r0 : Addr) (aa : Addr) (ka : ClassId) (xs : List Int64) (es : List Addr) (h0 : Heap) (n0 : Nat) (Z0 : n0 ≤ h0.size) (E_r0 : Exa Z h0 r0 "com/example/hot_pool/hotpool/stats/HotPoolStatistics") (F_counts_r0 : Fld Z h0 r0 "com/example/hot_pool/hotpool/stats/HotPoolStatistics" "counts" "[J" (.ref aa)) (V_aa : Arv Z h0 aa ka .long (11 : Int32) (xs.map Value.long) (.long 0)) (hG : own_G Z es) (O0 : Old Z n0 h0) :
    MetFree l (⟨"com/example/hot_pool/hotpool/stats/HotPoolStatistics", "getBorrows", "()J"⟩ : MethodName) (head1 (Jvm.Cond.code (⟨"com/example/hot_pool/hotpool/stats/HotPoolStatistics", "getBorrows", "()J"⟩ : MethodName) prog_64_method_10_code 1 (some .long) :: ws) ({ frames := 2, cells := 0, slots := 0, locals := 26 } : Room)) (fun a U => a = #[(.ref r0)] ∧ Z.Warmed39 U.vm ∧ U.heap = h0) (fun _ _ _ _ _ => True) (fun _ U o U' => ∃ v L, o = .returned v ∧ Q13 Z r0 aa ka xs es h0 n0 v U'.heap L ∧ FrameEnd U o U' L ({ frames := 2, cells := 0, slots := 0, locals := 26 } : Room).cells ({ frames := 2, cells := 0, slots := 0, locals := 26 } : Room).slots) := by
  refine MetFree.of_bodySF (plainFor_of_name pn_com_example_hot_pool_hotpool_stats_HotPoolStatistics) hisR ?_
  intro p e s m args below meth c s₁ Bd hml0 hP hK
  obtain ⟨rfl, hZ, hh⟩ := hP
  have hx := Bd.exec
  have hby := Bd.bytes
  have hlk := Bd.notSynchronized
  have hrt := Bd.returns
  have hml : c.maxLocals = 1 := hml0
  have hown : s.vm.findClass "com/example/hot_pool/hotpool/stats/HotPoolStatistics" = some m.cls := findClass_of_methodNamed Bd.named
  have hnm := (name_of_methodNamed Bd.named Bd.method).1
  have X0 : Stand p l e ({ frames := 2, cells := 0, slots := 0, locals := 26 } : Room) s m #[(.ref r0)] below meth c s₁ [] 0 0 := Stand.of_body Bd
  have e0 : s₁.heap = h0 := by rw [← hh, Bd.state]; rfl
  have N0 := Fr.nil n0
  have K0 := Keep.refl h0 []
  refine own_out (Q := Q13 Z r0 aa ka xs es h0 n0) ?_
  refine own_in (ef_13 m r0) ?_
  show own_Go _ _ _ _ s₁ (mkF m 0 #[.val (.ref r0)] [])
  refine own_st (fun t k => XS.aloadN X0.here hx rfl (hb hby d13_0) rfl rfl k) ?_
  show own_Go _ _ _ _ s₁ (mkF m 1 #[.val (.ref r0)] [(.ref r0)])
  obtain ⟨T1, X1, e1, st1⟩ := getS2 X0 hx hZ hown (host := "") (Or.inl (hw _ (List.mem_of_getElem? (i := 136) rfl))) Via.refl e0 ((own_S2 hG).ext O0.2) (g := (mkF m 1 #[.val (.ref r0)] [(.ref r0)])) rfl (hb hby d13_1)
  refine own_st st1 ?_
  show own_Go _ _ _ _ T1 (mkF m 4 #[.val (.ref r0)] [(.ref (es.getD 2 0)), (.ref r0)])
  obtain ⟨cq2, q2a, q2b⟩ := E_r0.cell
  obtain ⟨ci2, ki2, i2a, i2b, -, i2c, -⟩ := Cond.instantiable_spec (mvT (args := #[]) hZ (hw _ (List.mem_of_getElem? (i := 94) rfl)))
  obtain ⟨_, _, ⟨T2, L2, k2, n2⟩, -, X2, ⟨Lc2, hQ2, l2, y2, z2⟩, st2⟩ := X1.privateBack hx (y := (⟨"com/example/hot_pool/hotpool/stats/HotPoolStatistics", "count", "(Lcom/example/hot_pool/hotpool/stats/PoolEvent;)J"⟩ : MethodName)) hown (mvT hZ (hw _ (List.mem_of_getElem? (i := 120) rfl))) (mvT hZ (hw _ (List.mem_of_getElem? (i := 121) rfl))) (selects_self_of_private i2a i2b (by simp only [Bool.or_eq_false_iff] at i2c; exact i2c.1) (Cond.privateMethod_at (mvP hZ (hw _ (List.mem_of_getElem? (i := 122) rfl)) (args := #[]))) (mvT hZ (hw _ (List.mem_of_getElem? (i := 121) rfl))) (by decide)) (Cond.privateMethod_at (mvP hZ (hw _ (List.mem_of_getElem? (i := 122) rfl)) (args := #[]))) (mvT hZ (hw _ (List.mem_of_getElem? (i := 123) rfl))) (by decide) (backOf (W := 0) (rm11 l Z a0 hw [] r0 (es.getD 2 0) aa (2 : Int32) ka xs  h0 n0 Z0 F_counts_r0 ((own_E2 hG).ext O0.2) ((own_O2 hG).ext O0.2) V_aa ⟨by decide, by decide⟩) hZ (hw _ (List.mem_of_getElem? (i := 123) rfl)) (hw _ (List.mem_of_getElem? (i := 95) rfl)) (by decide) (by decide)) (g := (mkF m 4 #[.val (.ref r0)] [(.ref (es.getD 2 0)), (.ref r0)])) rfl (by rw [hml]; rfl) (Steps.refl _) (a := r0) (by rw [e1]; exact q2a) q2b (argsL := [(.ref (es.getD 2 0))]) (rest := []) (lenOf pd_145725 rfl) rfl (by show 2 * 0 + _ ≤ _; exact Nat.le_of_eq rfl) (hb hby d13_4) (fun _ _ => ⟨rfl, e1, (by decide : 0 + 0 ≤ _), (by decide : 0 + 0 ≤ _)⟩)
  dsimp only [Pt.U, Pt.locs, Pt.cells, Pt.slots] at X2 l2 y2 z2 st2 hQ2
  subst l2 y2 z2
  obtain ⟨rfl, N2q, e2⟩ := hQ2
  obtain ⟨_, X2, N2⟩ := own_hide X2 (Fr.app N0 N2q)
  refine own_tr st2 ?_
  show own_Go _ _ _ _ T2 (mkF m 7 #[.val (.ref r0)] [(.long (xs.getD ((2 : Int32)).toNatClampNeg 0))])
  exact own_retJ X2 hx hlk hrt (hb hby d13_7) ⟨rfl, N2, e2⟩ (by decide) (by decide)
/-! body 15: HotPoolStatistics.getWaitTimeouts -/
theorem d15_0 : decode prog_64_method_11_code 0 = .ok (.aload_n 0, 1) := by decide +kernel
theorem d15_1 : decode prog_64_method_11_code 1 = .ok (.getstatic 54, 3) := by decide +kernel
theorem d15_4 : decode prog_64_method_11_code 4 = .ok (.invokevirtual 44, 3) := by decide +kernel
theorem d15_7 : decode prog_64_method_11_code 7 = .ok (.lreturn, 1) := by decide +kernel
theorem ef_15 (m : MethodId) (x0 : Addr) : entryFrame m #[(.ref x0)] 1 = mkF m 0 #[.val (.ref x0)] [] := by first | (simp [entryFrame, mkF, argsToLocals, Value.category]; done) | rfl
def Q15 (Z : State) (r0 : Addr) (aa : Addr) (ka : ClassId) (xs : List Int64) (es : List Addr) (h0 : Heap) (n0 : Nat) (v : Option Value) (h : Heap) (L : List Loc) : Prop := v = some (.long (xs.getD ((3 : Int32)).toNatClampNeg 0)) ∧ Fr n0 L ∧ h = h0
set_option maxRecDepth 65536 in
set_option maxHeartbeats 40000000 in
theorem rm15 (l : Launch) (Z : State) (a0 : Array Value) (hw : ∀ d ∈ tables_1, d.before a0 Z = true) (ws : List Jvm.Cond) (r0 : Addr) (aa : Addr) (ka : ClassId) (xs : List Int64) (es : List Addr) (h0 : Heap) (n0 : Nat) (Z0 : n0 ≤ h0.size) (E_r0 : Exa Z h0 r0 "com/example/hot_pool/hotpool/stats/HotPoolStatistics") (F_counts_r0 : Fld Z h0 r0 "com/example/hot_pool/hotpool/stats/HotPoolStatistics" "counts" "[J" (.ref aa)) (V_aa : Arv Z h0 aa ka .long (11 : Int32) (xs.map Value.long) (.long 0)) (hG : own_G Z es) (O0 : Old Z n0 h0) :
    MetFree l (⟨"com/example/hot_pool/hotpool/stats/HotPoolStatistics", "getWaitTimeouts", "()J"⟩ : MethodName) (head1 (Jvm.Cond.code (⟨"com/example/hot_pool/hotpool/stats/HotPoolStatistics", "getWaitTimeouts", "()J"⟩ : MethodName) prog_64_method_11_code 1 (some .long) :: ws) ({ frames := 2, cells := 0, slots := 0, locals := 26 } : Room)) (fun a U => a = #[(.ref r0)] ∧ Z.Warmed39 U.vm ∧ U.heap = h0) (fun _ _ _ _ _ => True) (fun _ U o U' => ∃ v L, o = .returned v ∧ Q15 Z r0 aa ka xs es h0 n0 v U'.heap L ∧ FrameEnd U o U' L ({ frames := 2, cells := 0, slots := 0, locals := 26 } : Room).cells ({ frames := 2, cells := 0, slots := 0, locals := 26 } : Room).slots) := by
  refine MetFree.of_bodySF (plainFor_of_name pn_com_example_hot_pool_hotpool_stats_HotPoolStatistics) hisR ?_
  intro p e s m args below meth c s₁ Bd hml0 hP hK
  obtain ⟨rfl, hZ, hh⟩ := hP
  have hx := Bd.exec
  have hby := Bd.bytes
  have hlk := Bd.notSynchronized
  have hrt := Bd.returns
  have hml : c.maxLocals = 1 := hml0
  have hown : s.vm.findClass "com/example/hot_pool/hotpool/stats/HotPoolStatistics" = some m.cls := findClass_of_methodNamed Bd.named
  have hnm := (name_of_methodNamed Bd.named Bd.method).1
  have X0 : Stand p l e ({ frames := 2, cells := 0, slots := 0, locals := 26 } : Room) s m #[(.ref r0)] below meth c s₁ [] 0 0 := Stand.of_body Bd
  have e0 : s₁.heap = h0 := by rw [← hh, Bd.state]; rfl
  have N0 := Fr.nil n0
  have K0 := Keep.refl h0 []
  refine own_out (Q := Q15 Z r0 aa ka xs es h0 n0) ?_
  refine own_in (ef_15 m r0) ?_
  show own_Go _ _ _ _ s₁ (mkF m 0 #[.val (.ref r0)] [])
  refine own_st (fun t k => XS.aloadN X0.here hx rfl (hb hby d15_0) rfl rfl k) ?_
  show own_Go _ _ _ _ s₁ (mkF m 1 #[.val (.ref r0)] [(.ref r0)])
  obtain ⟨T1, X1, e1, st1⟩ := getS2 X0 hx hZ hown (host := "") (Or.inl (hw _ (List.mem_of_getElem? (i := 148) rfl))) Via.refl e0 ((own_S3 hG).ext O0.2) (g := (mkF m 1 #[.val (.ref r0)] [(.ref r0)])) rfl (hb hby d15_1)
  refine own_st st1 ?_
  show own_Go _ _ _ _ T1 (mkF m 4 #[.val (.ref r0)] [(.ref (es.getD 3 0)), (.ref r0)])
  obtain ⟨cq2, q2a, q2b⟩ := E_r0.cell
  obtain ⟨ci2, ki2, i2a, i2b, -, i2c, -⟩ := Cond.instantiable_spec (mvT (args := #[]) hZ (hw _ (List.mem_of_getElem? (i := 94) rfl)))
  obtain ⟨_, _, ⟨T2, L2, k2, n2⟩, -, X2, ⟨Lc2, hQ2, l2, y2, z2⟩, st2⟩ := X1.privateBack hx (y := (⟨"com/example/hot_pool/hotpool/stats/HotPoolStatistics", "count", "(Lcom/example/hot_pool/hotpool/stats/PoolEvent;)J"⟩ : MethodName)) hown (mvT hZ (hw _ (List.mem_of_getElem? (i := 120) rfl))) (mvT hZ (hw _ (List.mem_of_getElem? (i := 121) rfl))) (selects_self_of_private i2a i2b (by simp only [Bool.or_eq_false_iff] at i2c; exact i2c.1) (Cond.privateMethod_at (mvP hZ (hw _ (List.mem_of_getElem? (i := 122) rfl)) (args := #[]))) (mvT hZ (hw _ (List.mem_of_getElem? (i := 121) rfl))) (by decide)) (Cond.privateMethod_at (mvP hZ (hw _ (List.mem_of_getElem? (i := 122) rfl)) (args := #[]))) (mvT hZ (hw _ (List.mem_of_getElem? (i := 123) rfl))) (by decide) (backOf (W := 0) (rm11 l Z a0 hw [] r0 (es.getD 3 0) aa (3 : Int32) ka xs  h0 n0 Z0 F_counts_r0 ((own_E3 hG).ext O0.2) ((own_O3 hG).ext O0.2) V_aa ⟨by decide, by decide⟩) hZ (hw _ (List.mem_of_getElem? (i := 123) rfl)) (hw _ (List.mem_of_getElem? (i := 95) rfl)) (by decide) (by decide)) (g := (mkF m 4 #[.val (.ref r0)] [(.ref (es.getD 3 0)), (.ref r0)])) rfl (by rw [hml]; rfl) (Steps.refl _) (a := r0) (by rw [e1]; exact q2a) q2b (argsL := [(.ref (es.getD 3 0))]) (rest := []) (lenOf pd_145725 rfl) rfl (by show 2 * 0 + _ ≤ _; exact Nat.le_of_eq rfl) (hb hby d15_4) (fun _ _ => ⟨rfl, e1, (by decide : 0 + 0 ≤ _), (by decide : 0 + 0 ≤ _)⟩)
  dsimp only [Pt.U, Pt.locs, Pt.cells, Pt.slots] at X2 l2 y2 z2 st2 hQ2
  subst l2 y2 z2
  obtain ⟨rfl, N2q, e2⟩ := hQ2
  obtain ⟨_, X2, N2⟩ := own_hide X2 (Fr.app N0 N2q)
  refine own_tr st2 ?_
  show own_Go _ _ _ _ T2 (mkF m 7 #[.val (.ref r0)] [(.long (xs.getD ((3 : Int32)).toNatClampNeg 0))])
  exact own_retJ X2 hx hlk hrt (hb hby d15_7) ⟨rfl, N2, e2⟩ (by decide) (by decide)
/-! body 14: HotPoolStatistics.getValidations -/
theorem d14_0 : decode prog_64_method_12_code 0 = .ok (.aload_n 0, 1) := by decide +kernel
theorem d14_1 : decode prog_64_method_12_code 1 = .ok (.getstatic 57, 3) := by decide +kernel
theorem d14_4 : decode prog_64_method_12_code 4 = .ok (.invokevirtual 44, 3) := by decide +kernel
theorem d14_7 : decode prog_64_method_12_code 7 = .ok (.lreturn, 1) := by decide +kernel
theorem ef_14 (m : MethodId) (x0 : Addr) : entryFrame m #[(.ref x0)] 1 = mkF m 0 #[.val (.ref x0)] [] := by first | (simp [entryFrame, mkF, argsToLocals, Value.category]; done) | rfl
def Q14 (Z : State) (r0 : Addr) (aa : Addr) (ka : ClassId) (xs : List Int64) (es : List Addr) (h0 : Heap) (n0 : Nat) (v : Option Value) (h : Heap) (L : List Loc) : Prop := v = some (.long (xs.getD ((4 : Int32)).toNatClampNeg 0)) ∧ Fr n0 L ∧ h = h0
set_option maxRecDepth 65536 in
set_option maxHeartbeats 40000000 in
theorem rm14 (l : Launch) (Z : State) (a0 : Array Value) (hw : ∀ d ∈ tables_1, d.before a0 Z = true) (ws : List Jvm.Cond) (r0 : Addr) (aa : Addr) (ka : ClassId) (xs : List Int64) (es : List Addr) (h0 : Heap) (n0 : Nat) (Z0 : n0 ≤ h0.size) (E_r0 : Exa Z h0 r0 "com/example/hot_pool/hotpool/stats/HotPoolStatistics") (F_counts_r0 : Fld Z h0 r0 "com/example/hot_pool/hotpool/stats/HotPoolStatistics" "counts" "[J" (.ref aa)) (V_aa : Arv Z h0 aa ka .long (11 : Int32) (xs.map Value.long) (.long 0)) (hG : own_G Z es) (O0 : Old Z n0 h0) :
    MetFree l (⟨"com/example/hot_pool/hotpool/stats/HotPoolStatistics", "getValidations", "()J"⟩ : MethodName) (head1 (Jvm.Cond.code (⟨"com/example/hot_pool/hotpool/stats/HotPoolStatistics", "getValidations", "()J"⟩ : MethodName) prog_64_method_12_code 1 (some .long) :: ws) ({ frames := 2, cells := 0, slots := 0, locals := 26 } : Room)) (fun a U => a = #[(.ref r0)] ∧ Z.Warmed39 U.vm ∧ U.heap = h0) (fun _ _ _ _ _ => True) (fun _ U o U' => ∃ v L, o = .returned v ∧ Q14 Z r0 aa ka xs es h0 n0 v U'.heap L ∧ FrameEnd U o U' L ({ frames := 2, cells := 0, slots := 0, locals := 26 } : Room).cells ({ frames := 2, cells := 0, slots := 0, locals := 26 } : Room).slots) := by
  refine MetFree.of_bodySF (plainFor_of_name pn_com_example_hot_pool_hotpool_stats_HotPoolStatistics) hisR ?_
  intro p e s m args below meth c s₁ Bd hml0 hP hK
  obtain ⟨rfl, hZ, hh⟩ := hP
  have hx := Bd.exec
  have hby := Bd.bytes
  have hlk := Bd.notSynchronized
  have hrt := Bd.returns
  have hml : c.maxLocals = 1 := hml0
  have hown : s.vm.findClass "com/example/hot_pool/hotpool/stats/HotPoolStatistics" = some m.cls := findClass_of_methodNamed Bd.named
  have hnm := (name_of_methodNamed Bd.named Bd.method).1
  have X0 : Stand p l e ({ frames := 2, cells := 0, slots := 0, locals := 26 } : Room) s m #[(.ref r0)] below meth c s₁ [] 0 0 := Stand.of_body Bd
  have e0 : s₁.heap = h0 := by rw [← hh, Bd.state]; rfl
  have N0 := Fr.nil n0
  have K0 := Keep.refl h0 []
  refine own_out (Q := Q14 Z r0 aa ka xs es h0 n0) ?_
  refine own_in (ef_14 m r0) ?_
  show own_Go _ _ _ _ s₁ (mkF m 0 #[.val (.ref r0)] [])
  refine own_st (fun t k => XS.aloadN X0.here hx rfl (hb hby d14_0) rfl rfl k) ?_
  show own_Go _ _ _ _ s₁ (mkF m 1 #[.val (.ref r0)] [(.ref r0)])
  obtain ⟨T1, X1, e1, st1⟩ := getS2 X0 hx hZ hown (host := "") (Or.inl (hw _ (List.mem_of_getElem? (i := 142) rfl))) Via.refl e0 ((own_S4 hG).ext O0.2) (g := (mkF m 1 #[.val (.ref r0)] [(.ref r0)])) rfl (hb hby d14_1)
  refine own_st st1 ?_
  show own_Go _ _ _ _ T1 (mkF m 4 #[.val (.ref r0)] [(.ref (es.getD 4 0)), (.ref r0)])
  obtain ⟨cq2, q2a, q2b⟩ := E_r0.cell
  obtain ⟨ci2, ki2, i2a, i2b, -, i2c, -⟩ := Cond.instantiable_spec (mvT (args := #[]) hZ (hw _ (List.mem_of_getElem? (i := 94) rfl)))
  obtain ⟨_, _, ⟨T2, L2, k2, n2⟩, -, X2, ⟨Lc2, hQ2, l2, y2, z2⟩, st2⟩ := X1.privateBack hx (y := (⟨"com/example/hot_pool/hotpool/stats/HotPoolStatistics", "count", "(Lcom/example/hot_pool/hotpool/stats/PoolEvent;)J"⟩ : MethodName)) hown (mvT hZ (hw _ (List.mem_of_getElem? (i := 120) rfl))) (mvT hZ (hw _ (List.mem_of_getElem? (i := 121) rfl))) (selects_self_of_private i2a i2b (by simp only [Bool.or_eq_false_iff] at i2c; exact i2c.1) (Cond.privateMethod_at (mvP hZ (hw _ (List.mem_of_getElem? (i := 122) rfl)) (args := #[]))) (mvT hZ (hw _ (List.mem_of_getElem? (i := 121) rfl))) (by decide)) (Cond.privateMethod_at (mvP hZ (hw _ (List.mem_of_getElem? (i := 122) rfl)) (args := #[]))) (mvT hZ (hw _ (List.mem_of_getElem? (i := 123) rfl))) (by decide) (backOf (W := 0) (rm11 l Z a0 hw [] r0 (es.getD 4 0) aa (4 : Int32) ka xs  h0 n0 Z0 F_counts_r0 ((own_E4 hG).ext O0.2) ((own_O4 hG).ext O0.2) V_aa ⟨by decide, by decide⟩) hZ (hw _ (List.mem_of_getElem? (i := 123) rfl)) (hw _ (List.mem_of_getElem? (i := 95) rfl)) (by decide) (by decide)) (g := (mkF m 4 #[.val (.ref r0)] [(.ref (es.getD 4 0)), (.ref r0)])) rfl (by rw [hml]; rfl) (Steps.refl _) (a := r0) (by rw [e1]; exact q2a) q2b (argsL := [(.ref (es.getD 4 0))]) (rest := []) (lenOf pd_145725 rfl) rfl (by show 2 * 0 + _ ≤ _; exact Nat.le_of_eq rfl) (hb hby d14_4) (fun _ _ => ⟨rfl, e1, (by decide : 0 + 0 ≤ _), (by decide : 0 + 0 ≤ _)⟩)
  dsimp only [Pt.U, Pt.locs, Pt.cells, Pt.slots] at X2 l2 y2 z2 st2 hQ2
  subst l2 y2 z2
  obtain ⟨rfl, N2q, e2⟩ := hQ2
  obtain ⟨_, X2, N2⟩ := own_hide X2 (Fr.app N0 N2q)
  refine own_tr st2 ?_
  show own_Go _ _ _ _ T2 (mkF m 7 #[.val (.ref r0)] [(.long (xs.getD ((4 : Int32)).toNatClampNeg 0))])
  exact own_retJ X2 hx hlk hrt (hb hby d14_7) ⟨rfl, N2, e2⟩ (by decide) (by decide)
/-! body 20: HotPoolStatistics.getFailedValidations -/
theorem d20_0 : decode prog_64_method_13_code 0 = .ok (.aload_n 0, 1) := by decide +kernel
theorem d20_1 : decode prog_64_method_13_code 1 = .ok (.getstatic 60, 3) := by decide +kernel
theorem d20_4 : decode prog_64_method_13_code 4 = .ok (.invokevirtual 44, 3) := by decide +kernel
theorem d20_7 : decode prog_64_method_13_code 7 = .ok (.lreturn, 1) := by decide +kernel
theorem ef_20 (m : MethodId) (x0 : Addr) : entryFrame m #[(.ref x0)] 1 = mkF m 0 #[.val (.ref x0)] [] := by first | (simp [entryFrame, mkF, argsToLocals, Value.category]; done) | rfl
def Q20 (Z : State) (r0 : Addr) (aa : Addr) (ka : ClassId) (xs : List Int64) (es : List Addr) (h0 : Heap) (n0 : Nat) (v : Option Value) (h : Heap) (L : List Loc) : Prop := v = some (.long (xs.getD ((5 : Int32)).toNatClampNeg 0)) ∧ Fr n0 L ∧ h = h0
set_option maxRecDepth 65536 in
set_option maxHeartbeats 40000000 in
theorem rm20 (l : Launch) (Z : State) (a0 : Array Value) (hw : ∀ d ∈ tables_1, d.before a0 Z = true) (ws : List Jvm.Cond) (r0 : Addr) (aa : Addr) (ka : ClassId) (xs : List Int64) (es : List Addr) (h0 : Heap) (n0 : Nat) (Z0 : n0 ≤ h0.size) (E_r0 : Exa Z h0 r0 "com/example/hot_pool/hotpool/stats/HotPoolStatistics") (F_counts_r0 : Fld Z h0 r0 "com/example/hot_pool/hotpool/stats/HotPoolStatistics" "counts" "[J" (.ref aa)) (V_aa : Arv Z h0 aa ka .long (11 : Int32) (xs.map Value.long) (.long 0)) (hG : own_G Z es) (O0 : Old Z n0 h0) :
    MetFree l (⟨"com/example/hot_pool/hotpool/stats/HotPoolStatistics", "getFailedValidations", "()J"⟩ : MethodName) (head1 (Jvm.Cond.code (⟨"com/example/hot_pool/hotpool/stats/HotPoolStatistics", "getFailedValidations", "()J"⟩ : MethodName) prog_64_method_13_code 1 (some .long) :: ws) ({ frames := 2, cells := 0, slots := 0, locals := 26 } : Room)) (fun a U => a = #[(.ref r0)] ∧ Z.Warmed39 U.vm ∧ U.heap = h0) (fun _ _ _ _ _ => True) (fun _ U o U' => ∃ v L, o = .returned v ∧ Q20 Z r0 aa ka xs es h0 n0 v U'.heap L ∧ FrameEnd U o U' L ({ frames := 2, cells := 0, slots := 0, locals := 26 } : Room).cells ({ frames := 2, cells := 0, slots := 0, locals := 26 } : Room).slots) := by
  refine MetFree.of_bodySF (plainFor_of_name pn_com_example_hot_pool_hotpool_stats_HotPoolStatistics) hisR ?_
  intro p e s m args below meth c s₁ Bd hml0 hP hK
  obtain ⟨rfl, hZ, hh⟩ := hP
  have hx := Bd.exec
  have hby := Bd.bytes
  have hlk := Bd.notSynchronized
  have hrt := Bd.returns
  have hml : c.maxLocals = 1 := hml0
  have hown : s.vm.findClass "com/example/hot_pool/hotpool/stats/HotPoolStatistics" = some m.cls := findClass_of_methodNamed Bd.named
  have hnm := (name_of_methodNamed Bd.named Bd.method).1
  have X0 : Stand p l e ({ frames := 2, cells := 0, slots := 0, locals := 26 } : Room) s m #[(.ref r0)] below meth c s₁ [] 0 0 := Stand.of_body Bd
  have e0 : s₁.heap = h0 := by rw [← hh, Bd.state]; rfl
  have N0 := Fr.nil n0
  have K0 := Keep.refl h0 []
  refine own_out (Q := Q20 Z r0 aa ka xs es h0 n0) ?_
  refine own_in (ef_20 m r0) ?_
  show own_Go _ _ _ _ s₁ (mkF m 0 #[.val (.ref r0)] [])
  refine own_st (fun t k => XS.aloadN X0.here hx rfl (hb hby d20_0) rfl rfl k) ?_
  show own_Go _ _ _ _ s₁ (mkF m 1 #[.val (.ref r0)] [(.ref r0)])
  obtain ⟨T1, X1, e1, st1⟩ := getS2 X0 hx hZ hown (host := "") (Or.inl (hw _ (List.mem_of_getElem? (i := 178) rfl))) Via.refl e0 ((own_S5 hG).ext O0.2) (g := (mkF m 1 #[.val (.ref r0)] [(.ref r0)])) rfl (hb hby d20_1)
  refine own_st st1 ?_
  show own_Go _ _ _ _ T1 (mkF m 4 #[.val (.ref r0)] [(.ref (es.getD 5 0)), (.ref r0)])
  obtain ⟨cq2, q2a, q2b⟩ := E_r0.cell
  obtain ⟨ci2, ki2, i2a, i2b, -, i2c, -⟩ := Cond.instantiable_spec (mvT (args := #[]) hZ (hw _ (List.mem_of_getElem? (i := 94) rfl)))
  obtain ⟨_, _, ⟨T2, L2, k2, n2⟩, -, X2, ⟨Lc2, hQ2, l2, y2, z2⟩, st2⟩ := X1.privateBack hx (y := (⟨"com/example/hot_pool/hotpool/stats/HotPoolStatistics", "count", "(Lcom/example/hot_pool/hotpool/stats/PoolEvent;)J"⟩ : MethodName)) hown (mvT hZ (hw _ (List.mem_of_getElem? (i := 120) rfl))) (mvT hZ (hw _ (List.mem_of_getElem? (i := 121) rfl))) (selects_self_of_private i2a i2b (by simp only [Bool.or_eq_false_iff] at i2c; exact i2c.1) (Cond.privateMethod_at (mvP hZ (hw _ (List.mem_of_getElem? (i := 122) rfl)) (args := #[]))) (mvT hZ (hw _ (List.mem_of_getElem? (i := 121) rfl))) (by decide)) (Cond.privateMethod_at (mvP hZ (hw _ (List.mem_of_getElem? (i := 122) rfl)) (args := #[]))) (mvT hZ (hw _ (List.mem_of_getElem? (i := 123) rfl))) (by decide) (backOf (W := 0) (rm11 l Z a0 hw [] r0 (es.getD 5 0) aa (5 : Int32) ka xs  h0 n0 Z0 F_counts_r0 ((own_E5 hG).ext O0.2) ((own_O5 hG).ext O0.2) V_aa ⟨by decide, by decide⟩) hZ (hw _ (List.mem_of_getElem? (i := 123) rfl)) (hw _ (List.mem_of_getElem? (i := 95) rfl)) (by decide) (by decide)) (g := (mkF m 4 #[.val (.ref r0)] [(.ref (es.getD 5 0)), (.ref r0)])) rfl (by rw [hml]; rfl) (Steps.refl _) (a := r0) (by rw [e1]; exact q2a) q2b (argsL := [(.ref (es.getD 5 0))]) (rest := []) (lenOf pd_145725 rfl) rfl (by show 2 * 0 + _ ≤ _; exact Nat.le_of_eq rfl) (hb hby d20_4) (fun _ _ => ⟨rfl, e1, (by decide : 0 + 0 ≤ _), (by decide : 0 + 0 ≤ _)⟩)
  dsimp only [Pt.U, Pt.locs, Pt.cells, Pt.slots] at X2 l2 y2 z2 st2 hQ2
  subst l2 y2 z2
  obtain ⟨rfl, N2q, e2⟩ := hQ2
  obtain ⟨_, X2, N2⟩ := own_hide X2 (Fr.app N0 N2q)
  refine own_tr st2 ?_
  show own_Go _ _ _ _ T2 (mkF m 7 #[.val (.ref r0)] [(.long (xs.getD ((5 : Int32)).toNatClampNeg 0))])
  exact own_retJ X2 hx hlk hrt (hb hby d20_7) ⟨rfl, N2, e2⟩ (by decide) (by decide)
/-! body 19: HotPoolStatistics.getRetiredConnections -/
theorem d19_0 : decode prog_64_method_14_code 0 = .ok (.aload_n 0, 1) := by decide +kernel
theorem d19_1 : decode prog_64_method_14_code 1 = .ok (.getstatic 63, 3) := by decide +kernel
theorem d19_4 : decode prog_64_method_14_code 4 = .ok (.invokevirtual 44, 3) := by decide +kernel
theorem d19_7 : decode prog_64_method_14_code 7 = .ok (.lreturn, 1) := by decide +kernel
theorem ef_19 (m : MethodId) (x0 : Addr) : entryFrame m #[(.ref x0)] 1 = mkF m 0 #[.val (.ref x0)] [] := by first | (simp [entryFrame, mkF, argsToLocals, Value.category]; done) | rfl
def Q19 (Z : State) (r0 : Addr) (aa : Addr) (ka : ClassId) (xs : List Int64) (es : List Addr) (h0 : Heap) (n0 : Nat) (v : Option Value) (h : Heap) (L : List Loc) : Prop := v = some (.long (xs.getD ((6 : Int32)).toNatClampNeg 0)) ∧ Fr n0 L ∧ h = h0
set_option maxRecDepth 65536 in
set_option maxHeartbeats 40000000 in
theorem rm19 (l : Launch) (Z : State) (a0 : Array Value) (hw : ∀ d ∈ tables_1, d.before a0 Z = true) (ws : List Jvm.Cond) (r0 : Addr) (aa : Addr) (ka : ClassId) (xs : List Int64) (es : List Addr) (h0 : Heap) (n0 : Nat) (Z0 : n0 ≤ h0.size) (E_r0 : Exa Z h0 r0 "com/example/hot_pool/hotpool/stats/HotPoolStatistics") (F_counts_r0 : Fld Z h0 r0 "com/example/hot_pool/hotpool/stats/HotPoolStatistics" "counts" "[J" (.ref aa)) (V_aa : Arv Z h0 aa ka .long (11 : Int32) (xs.map Value.long) (.long 0)) (hG : own_G Z es) (O0 : Old Z n0 h0) :
    MetFree l (⟨"com/example/hot_pool/hotpool/stats/HotPoolStatistics", "getRetiredConnections", "()J"⟩ : MethodName) (head1 (Jvm.Cond.code (⟨"com/example/hot_pool/hotpool/stats/HotPoolStatistics", "getRetiredConnections", "()J"⟩ : MethodName) prog_64_method_14_code 1 (some .long) :: ws) ({ frames := 2, cells := 0, slots := 0, locals := 26 } : Room)) (fun a U => a = #[(.ref r0)] ∧ Z.Warmed39 U.vm ∧ U.heap = h0) (fun _ _ _ _ _ => True) (fun _ U o U' => ∃ v L, o = .returned v ∧ Q19 Z r0 aa ka xs es h0 n0 v U'.heap L ∧ FrameEnd U o U' L ({ frames := 2, cells := 0, slots := 0, locals := 26 } : Room).cells ({ frames := 2, cells := 0, slots := 0, locals := 26 } : Room).slots) := by
  refine MetFree.of_bodySF (plainFor_of_name pn_com_example_hot_pool_hotpool_stats_HotPoolStatistics) hisR ?_
  intro p e s m args below meth c s₁ Bd hml0 hP hK
  obtain ⟨rfl, hZ, hh⟩ := hP
  have hx := Bd.exec
  have hby := Bd.bytes
  have hlk := Bd.notSynchronized
  have hrt := Bd.returns
  have hml : c.maxLocals = 1 := hml0
  have hown : s.vm.findClass "com/example/hot_pool/hotpool/stats/HotPoolStatistics" = some m.cls := findClass_of_methodNamed Bd.named
  have hnm := (name_of_methodNamed Bd.named Bd.method).1
  have X0 : Stand p l e ({ frames := 2, cells := 0, slots := 0, locals := 26 } : Room) s m #[(.ref r0)] below meth c s₁ [] 0 0 := Stand.of_body Bd
  have e0 : s₁.heap = h0 := by rw [← hh, Bd.state]; rfl
  have N0 := Fr.nil n0
  have K0 := Keep.refl h0 []
  refine own_out (Q := Q19 Z r0 aa ka xs es h0 n0) ?_
  refine own_in (ef_19 m r0) ?_
  show own_Go _ _ _ _ s₁ (mkF m 0 #[.val (.ref r0)] [])
  refine own_st (fun t k => XS.aloadN X0.here hx rfl (hb hby d19_0) rfl rfl k) ?_
  show own_Go _ _ _ _ s₁ (mkF m 1 #[.val (.ref r0)] [(.ref r0)])
  obtain ⟨T1, X1, e1, st1⟩ := getS2 X0 hx hZ hown (host := "") (Or.inl (hw _ (List.mem_of_getElem? (i := 172) rfl))) Via.refl e0 ((own_S6 hG).ext O0.2) (g := (mkF m 1 #[.val (.ref r0)] [(.ref r0)])) rfl (hb hby d19_1)
  refine own_st st1 ?_
  show own_Go _ _ _ _ T1 (mkF m 4 #[.val (.ref r0)] [(.ref (es.getD 6 0)), (.ref r0)])
  obtain ⟨cq2, q2a, q2b⟩ := E_r0.cell
  obtain ⟨ci2, ki2, i2a, i2b, -, i2c, -⟩ := Cond.instantiable_spec (mvT (args := #[]) hZ (hw _ (List.mem_of_getElem? (i := 94) rfl)))
  obtain ⟨_, _, ⟨T2, L2, k2, n2⟩, -, X2, ⟨Lc2, hQ2, l2, y2, z2⟩, st2⟩ := X1.privateBack hx (y := (⟨"com/example/hot_pool/hotpool/stats/HotPoolStatistics", "count", "(Lcom/example/hot_pool/hotpool/stats/PoolEvent;)J"⟩ : MethodName)) hown (mvT hZ (hw _ (List.mem_of_getElem? (i := 120) rfl))) (mvT hZ (hw _ (List.mem_of_getElem? (i := 121) rfl))) (selects_self_of_private i2a i2b (by simp only [Bool.or_eq_false_iff] at i2c; exact i2c.1) (Cond.privateMethod_at (mvP hZ (hw _ (List.mem_of_getElem? (i := 122) rfl)) (args := #[]))) (mvT hZ (hw _ (List.mem_of_getElem? (i := 121) rfl))) (by decide)) (Cond.privateMethod_at (mvP hZ (hw _ (List.mem_of_getElem? (i := 122) rfl)) (args := #[]))) (mvT hZ (hw _ (List.mem_of_getElem? (i := 123) rfl))) (by decide) (backOf (W := 0) (rm11 l Z a0 hw [] r0 (es.getD 6 0) aa (6 : Int32) ka xs  h0 n0 Z0 F_counts_r0 ((own_E6 hG).ext O0.2) ((own_O6 hG).ext O0.2) V_aa ⟨by decide, by decide⟩) hZ (hw _ (List.mem_of_getElem? (i := 123) rfl)) (hw _ (List.mem_of_getElem? (i := 95) rfl)) (by decide) (by decide)) (g := (mkF m 4 #[.val (.ref r0)] [(.ref (es.getD 6 0)), (.ref r0)])) rfl (by rw [hml]; rfl) (Steps.refl _) (a := r0) (by rw [e1]; exact q2a) q2b (argsL := [(.ref (es.getD 6 0))]) (rest := []) (lenOf pd_145725 rfl) rfl (by show 2 * 0 + _ ≤ _; exact Nat.le_of_eq rfl) (hb hby d19_4) (fun _ _ => ⟨rfl, e1, (by decide : 0 + 0 ≤ _), (by decide : 0 + 0 ≤ _)⟩)
  dsimp only [Pt.U, Pt.locs, Pt.cells, Pt.slots] at X2 l2 y2 z2 st2 hQ2
  subst l2 y2 z2
  obtain ⟨rfl, N2q, e2⟩ := hQ2
  obtain ⟨_, X2, N2⟩ := own_hide X2 (Fr.app N0 N2q)
  refine own_tr st2 ?_
  show own_Go _ _ _ _ T2 (mkF m 7 #[.val (.ref r0)] [(.long (xs.getD ((6 : Int32)).toNatClampNeg 0))])
  exact own_retJ X2 hx hlk hrt (hb hby d19_7) ⟨rfl, N2, e2⟩ (by decide) (by decide)
/-! body 18: HotPoolStatistics.getReclaimedConnections -/
theorem d18_0 : decode prog_64_method_15_code 0 = .ok (.aload_n 0, 1) := by decide +kernel
theorem d18_1 : decode prog_64_method_15_code 1 = .ok (.getstatic 66, 3) := by decide +kernel
theorem d18_4 : decode prog_64_method_15_code 4 = .ok (.invokevirtual 44, 3) := by decide +kernel
theorem d18_7 : decode prog_64_method_15_code 7 = .ok (.lreturn, 1) := by decide +kernel
theorem ef_18 (m : MethodId) (x0 : Addr) : entryFrame m #[(.ref x0)] 1 = mkF m 0 #[.val (.ref x0)] [] := by first | (simp [entryFrame, mkF, argsToLocals, Value.category]; done) | rfl
def Q18 (Z : State) (r0 : Addr) (aa : Addr) (ka : ClassId) (xs : List Int64) (es : List Addr) (h0 : Heap) (n0 : Nat) (v : Option Value) (h : Heap) (L : List Loc) : Prop := v = some (.long (xs.getD ((7 : Int32)).toNatClampNeg 0)) ∧ Fr n0 L ∧ h = h0
set_option maxRecDepth 65536 in
set_option maxHeartbeats 40000000 in
theorem rm18 (l : Launch) (Z : State) (a0 : Array Value) (hw : ∀ d ∈ tables_1, d.before a0 Z = true) (ws : List Jvm.Cond) (r0 : Addr) (aa : Addr) (ka : ClassId) (xs : List Int64) (es : List Addr) (h0 : Heap) (n0 : Nat) (Z0 : n0 ≤ h0.size) (E_r0 : Exa Z h0 r0 "com/example/hot_pool/hotpool/stats/HotPoolStatistics") (F_counts_r0 : Fld Z h0 r0 "com/example/hot_pool/hotpool/stats/HotPoolStatistics" "counts" "[J" (.ref aa)) (V_aa : Arv Z h0 aa ka .long (11 : Int32) (xs.map Value.long) (.long 0)) (hG : own_G Z es) (O0 : Old Z n0 h0) :
    MetFree l (⟨"com/example/hot_pool/hotpool/stats/HotPoolStatistics", "getReclaimedConnections", "()J"⟩ : MethodName) (head1 (Jvm.Cond.code (⟨"com/example/hot_pool/hotpool/stats/HotPoolStatistics", "getReclaimedConnections", "()J"⟩ : MethodName) prog_64_method_15_code 1 (some .long) :: ws) ({ frames := 2, cells := 0, slots := 0, locals := 26 } : Room)) (fun a U => a = #[(.ref r0)] ∧ Z.Warmed39 U.vm ∧ U.heap = h0) (fun _ _ _ _ _ => True) (fun _ U o U' => ∃ v L, o = .returned v ∧ Q18 Z r0 aa ka xs es h0 n0 v U'.heap L ∧ FrameEnd U o U' L ({ frames := 2, cells := 0, slots := 0, locals := 26 } : Room).cells ({ frames := 2, cells := 0, slots := 0, locals := 26 } : Room).slots) := by
  refine MetFree.of_bodySF (plainFor_of_name pn_com_example_hot_pool_hotpool_stats_HotPoolStatistics) hisR ?_
  intro p e s m args below meth c s₁ Bd hml0 hP hK
  obtain ⟨rfl, hZ, hh⟩ := hP
  have hx := Bd.exec
  have hby := Bd.bytes
  have hlk := Bd.notSynchronized
  have hrt := Bd.returns
  have hml : c.maxLocals = 1 := hml0
  have hown : s.vm.findClass "com/example/hot_pool/hotpool/stats/HotPoolStatistics" = some m.cls := findClass_of_methodNamed Bd.named
  have hnm := (name_of_methodNamed Bd.named Bd.method).1
  have X0 : Stand p l e ({ frames := 2, cells := 0, slots := 0, locals := 26 } : Room) s m #[(.ref r0)] below meth c s₁ [] 0 0 := Stand.of_body Bd
  have e0 : s₁.heap = h0 := by rw [← hh, Bd.state]; rfl
  have N0 := Fr.nil n0
  have K0 := Keep.refl h0 []
  refine own_out (Q := Q18 Z r0 aa ka xs es h0 n0) ?_
  refine own_in (ef_18 m r0) ?_
  show own_Go _ _ _ _ s₁ (mkF m 0 #[.val (.ref r0)] [])
  refine own_st (fun t k => XS.aloadN X0.here hx rfl (hb hby d18_0) rfl rfl k) ?_
  show own_Go _ _ _ _ s₁ (mkF m 1 #[.val (.ref r0)] [(.ref r0)])
  obtain ⟨T1, X1, e1, st1⟩ := getS2 X0 hx hZ hown (host := "") (Or.inl (hw _ (List.mem_of_getElem? (i := 166) rfl))) Via.refl e0 ((own_S7 hG).ext O0.2) (g := (mkF m 1 #[.val (.ref r0)] [(.ref r0)])) rfl (hb hby d18_1)
  refine own_st st1 ?_
  show own_Go _ _ _ _ T1 (mkF m 4 #[.val (.ref r0)] [(.ref (es.getD 7 0)), (.ref r0)])
  obtain ⟨cq2, q2a, q2b⟩ := E_r0.cell
  obtain ⟨ci2, ki2, i2a, i2b, -, i2c, -⟩ := Cond.instantiable_spec (mvT (args := #[]) hZ (hw _ (List.mem_of_getElem? (i := 94) rfl)))
  obtain ⟨_, _, ⟨T2, L2, k2, n2⟩, -, X2, ⟨Lc2, hQ2, l2, y2, z2⟩, st2⟩ := X1.privateBack hx (y := (⟨"com/example/hot_pool/hotpool/stats/HotPoolStatistics", "count", "(Lcom/example/hot_pool/hotpool/stats/PoolEvent;)J"⟩ : MethodName)) hown (mvT hZ (hw _ (List.mem_of_getElem? (i := 120) rfl))) (mvT hZ (hw _ (List.mem_of_getElem? (i := 121) rfl))) (selects_self_of_private i2a i2b (by simp only [Bool.or_eq_false_iff] at i2c; exact i2c.1) (Cond.privateMethod_at (mvP hZ (hw _ (List.mem_of_getElem? (i := 122) rfl)) (args := #[]))) (mvT hZ (hw _ (List.mem_of_getElem? (i := 121) rfl))) (by decide)) (Cond.privateMethod_at (mvP hZ (hw _ (List.mem_of_getElem? (i := 122) rfl)) (args := #[]))) (mvT hZ (hw _ (List.mem_of_getElem? (i := 123) rfl))) (by decide) (backOf (W := 0) (rm11 l Z a0 hw [] r0 (es.getD 7 0) aa (7 : Int32) ka xs  h0 n0 Z0 F_counts_r0 ((own_E7 hG).ext O0.2) ((own_O7 hG).ext O0.2) V_aa ⟨by decide, by decide⟩) hZ (hw _ (List.mem_of_getElem? (i := 123) rfl)) (hw _ (List.mem_of_getElem? (i := 95) rfl)) (by decide) (by decide)) (g := (mkF m 4 #[.val (.ref r0)] [(.ref (es.getD 7 0)), (.ref r0)])) rfl (by rw [hml]; rfl) (Steps.refl _) (a := r0) (by rw [e1]; exact q2a) q2b (argsL := [(.ref (es.getD 7 0))]) (rest := []) (lenOf pd_145725 rfl) rfl (by show 2 * 0 + _ ≤ _; exact Nat.le_of_eq rfl) (hb hby d18_4) (fun _ _ => ⟨rfl, e1, (by decide : 0 + 0 ≤ _), (by decide : 0 + 0 ≤ _)⟩)
  dsimp only [Pt.U, Pt.locs, Pt.cells, Pt.slots] at X2 l2 y2 z2 st2 hQ2
  subst l2 y2 z2
  obtain ⟨rfl, N2q, e2⟩ := hQ2
  obtain ⟨_, X2, N2⟩ := own_hide X2 (Fr.app N0 N2q)
  refine own_tr st2 ?_
  show own_Go _ _ _ _ T2 (mkF m 7 #[.val (.ref r0)] [(.long (xs.getD ((7 : Int32)).toNatClampNeg 0))])
  exact own_retJ X2 hx hlk hrt (hb hby d18_7) ⟨rfl, N2, e2⟩ (by decide) (by decide)
/-! body 12: HotPoolStatistics.getStatementCacheHits -/
theorem d12_0 : decode prog_64_method_16_code 0 = .ok (.aload_n 0, 1) := by decide +kernel
theorem d12_1 : decode prog_64_method_16_code 1 = .ok (.getstatic 69, 3) := by decide +kernel
theorem d12_4 : decode prog_64_method_16_code 4 = .ok (.invokevirtual 44, 3) := by decide +kernel
theorem d12_7 : decode prog_64_method_16_code 7 = .ok (.lreturn, 1) := by decide +kernel
theorem ef_12 (m : MethodId) (x0 : Addr) : entryFrame m #[(.ref x0)] 1 = mkF m 0 #[.val (.ref x0)] [] := by first | (simp [entryFrame, mkF, argsToLocals, Value.category]; done) | rfl
def Q12 (Z : State) (r0 : Addr) (aa : Addr) (ka : ClassId) (xs : List Int64) (es : List Addr) (h0 : Heap) (n0 : Nat) (v : Option Value) (h : Heap) (L : List Loc) : Prop := v = some (.long (xs.getD ((8 : Int32)).toNatClampNeg 0)) ∧ Fr n0 L ∧ h = h0
set_option maxRecDepth 65536 in
set_option maxHeartbeats 40000000 in
theorem rm12 (l : Launch) (Z : State) (a0 : Array Value) (hw : ∀ d ∈ tables_1, d.before a0 Z = true) (ws : List Jvm.Cond) (r0 : Addr) (aa : Addr) (ka : ClassId) (xs : List Int64) (es : List Addr) (h0 : Heap) (n0 : Nat) (Z0 : n0 ≤ h0.size) (E_r0 : Exa Z h0 r0 "com/example/hot_pool/hotpool/stats/HotPoolStatistics") (F_counts_r0 : Fld Z h0 r0 "com/example/hot_pool/hotpool/stats/HotPoolStatistics" "counts" "[J" (.ref aa)) (V_aa : Arv Z h0 aa ka .long (11 : Int32) (xs.map Value.long) (.long 0)) (hG : own_G Z es) (O0 : Old Z n0 h0) :
    MetFree l (⟨"com/example/hot_pool/hotpool/stats/HotPoolStatistics", "getStatementCacheHits", "()J"⟩ : MethodName) (head1 (Jvm.Cond.code (⟨"com/example/hot_pool/hotpool/stats/HotPoolStatistics", "getStatementCacheHits", "()J"⟩ : MethodName) prog_64_method_16_code 1 (some .long) :: ws) ({ frames := 2, cells := 0, slots := 0, locals := 26 } : Room)) (fun a U => a = #[(.ref r0)] ∧ Z.Warmed39 U.vm ∧ U.heap = h0) (fun _ _ _ _ _ => True) (fun _ U o U' => ∃ v L, o = .returned v ∧ Q12 Z r0 aa ka xs es h0 n0 v U'.heap L ∧ FrameEnd U o U' L ({ frames := 2, cells := 0, slots := 0, locals := 26 } : Room).cells ({ frames := 2, cells := 0, slots := 0, locals := 26 } : Room).slots) := by
  refine MetFree.of_bodySF (plainFor_of_name pn_com_example_hot_pool_hotpool_stats_HotPoolStatistics) hisR ?_
  intro p e s m args below meth c s₁ Bd hml0 hP hK
  obtain ⟨rfl, hZ, hh⟩ := hP
  have hx := Bd.exec
  have hby := Bd.bytes
  have hlk := Bd.notSynchronized
  have hrt := Bd.returns
  have hml : c.maxLocals = 1 := hml0
  have hown : s.vm.findClass "com/example/hot_pool/hotpool/stats/HotPoolStatistics" = some m.cls := findClass_of_methodNamed Bd.named
  have hnm := (name_of_methodNamed Bd.named Bd.method).1
  have X0 : Stand p l e ({ frames := 2, cells := 0, slots := 0, locals := 26 } : Room) s m #[(.ref r0)] below meth c s₁ [] 0 0 := Stand.of_body Bd
  have e0 : s₁.heap = h0 := by rw [← hh, Bd.state]; rfl
  have N0 := Fr.nil n0
  have K0 := Keep.refl h0 []
  refine own_out (Q := Q12 Z r0 aa ka xs es h0 n0) ?_
  refine own_in (ef_12 m r0) ?_
  show own_Go _ _ _ _ s₁ (mkF m 0 #[.val (.ref r0)] [])
  refine own_st (fun t k => XS.aloadN X0.here hx rfl (hb hby d12_0) rfl rfl k) ?_
  show own_Go _ _ _ _ s₁ (mkF m 1 #[.val (.ref r0)] [(.ref r0)])
  obtain ⟨T1, X1, e1, st1⟩ := getS2 X0 hx hZ hown (host := "") (Or.inl (hw _ (List.mem_of_getElem? (i := 130) rfl))) Via.refl e0 ((own_S8 hG).ext O0.2) (g := (mkF m 1 #[.val (.ref r0)] [(.ref r0)])) rfl (hb hby d12_1)
  refine own_st st1 ?_
  show own_Go _ _ _ _ T1 (mkF m 4 #[.val (.ref r0)] [(.ref (es.getD 8 0)), (.ref r0)])
  obtain ⟨cq2, q2a, q2b⟩ := E_r0.cell
  obtain ⟨ci2, ki2, i2a, i2b, -, i2c, -⟩ := Cond.instantiable_spec (mvT (args := #[]) hZ (hw _ (List.mem_of_getElem? (i := 94) rfl)))
  obtain ⟨_, _, ⟨T2, L2, k2, n2⟩, -, X2, ⟨Lc2, hQ2, l2, y2, z2⟩, st2⟩ := X1.privateBack hx (y := (⟨"com/example/hot_pool/hotpool/stats/HotPoolStatistics", "count", "(Lcom/example/hot_pool/hotpool/stats/PoolEvent;)J"⟩ : MethodName)) hown (mvT hZ (hw _ (List.mem_of_getElem? (i := 120) rfl))) (mvT hZ (hw _ (List.mem_of_getElem? (i := 121) rfl))) (selects_self_of_private i2a i2b (by simp only [Bool.or_eq_false_iff] at i2c; exact i2c.1) (Cond.privateMethod_at (mvP hZ (hw _ (List.mem_of_getElem? (i := 122) rfl)) (args := #[]))) (mvT hZ (hw _ (List.mem_of_getElem? (i := 121) rfl))) (by decide)) (Cond.privateMethod_at (mvP hZ (hw _ (List.mem_of_getElem? (i := 122) rfl)) (args := #[]))) (mvT hZ (hw _ (List.mem_of_getElem? (i := 123) rfl))) (by decide) (backOf (W := 0) (rm11 l Z a0 hw [] r0 (es.getD 8 0) aa (8 : Int32) ka xs  h0 n0 Z0 F_counts_r0 ((own_E8 hG).ext O0.2) ((own_O8 hG).ext O0.2) V_aa ⟨by decide, by decide⟩) hZ (hw _ (List.mem_of_getElem? (i := 123) rfl)) (hw _ (List.mem_of_getElem? (i := 95) rfl)) (by decide) (by decide)) (g := (mkF m 4 #[.val (.ref r0)] [(.ref (es.getD 8 0)), (.ref r0)])) rfl (by rw [hml]; rfl) (Steps.refl _) (a := r0) (by rw [e1]; exact q2a) q2b (argsL := [(.ref (es.getD 8 0))]) (rest := []) (lenOf pd_145725 rfl) rfl (by show 2 * 0 + _ ≤ _; exact Nat.le_of_eq rfl) (hb hby d12_4) (fun _ _ => ⟨rfl, e1, (by decide : 0 + 0 ≤ _), (by decide : 0 + 0 ≤ _)⟩)
  dsimp only [Pt.U, Pt.locs, Pt.cells, Pt.slots] at X2 l2 y2 z2 st2 hQ2
  subst l2 y2 z2
  obtain ⟨rfl, N2q, e2⟩ := hQ2
  obtain ⟨_, X2, N2⟩ := own_hide X2 (Fr.app N0 N2q)
  refine own_tr st2 ?_
  show own_Go _ _ _ _ T2 (mkF m 7 #[.val (.ref r0)] [(.long (xs.getD ((8 : Int32)).toNatClampNeg 0))])
  exact own_retJ X2 hx hlk hrt (hb hby d12_7) ⟨rfl, N2, e2⟩ (by decide) (by decide)
/-! body 17: HotPoolStatistics.getStatementCacheMisses -/
theorem d17_0 : decode prog_64_method_17_code 0 = .ok (.aload_n 0, 1) := by decide +kernel
theorem d17_1 : decode prog_64_method_17_code 1 = .ok (.getstatic 72, 3) := by decide +kernel
theorem d17_4 : decode prog_64_method_17_code 4 = .ok (.invokevirtual 44, 3) := by decide +kernel
theorem d17_7 : decode prog_64_method_17_code 7 = .ok (.lreturn, 1) := by decide +kernel
theorem ef_17 (m : MethodId) (x0 : Addr) : entryFrame m #[(.ref x0)] 1 = mkF m 0 #[.val (.ref x0)] [] := by first | (simp [entryFrame, mkF, argsToLocals, Value.category]; done) | rfl
def Q17 (Z : State) (r0 : Addr) (aa : Addr) (ka : ClassId) (xs : List Int64) (es : List Addr) (h0 : Heap) (n0 : Nat) (v : Option Value) (h : Heap) (L : List Loc) : Prop := v = some (.long (xs.getD ((9 : Int32)).toNatClampNeg 0)) ∧ Fr n0 L ∧ h = h0
set_option maxRecDepth 65536 in
set_option maxHeartbeats 40000000 in
theorem rm17 (l : Launch) (Z : State) (a0 : Array Value) (hw : ∀ d ∈ tables_1, d.before a0 Z = true) (ws : List Jvm.Cond) (r0 : Addr) (aa : Addr) (ka : ClassId) (xs : List Int64) (es : List Addr) (h0 : Heap) (n0 : Nat) (Z0 : n0 ≤ h0.size) (E_r0 : Exa Z h0 r0 "com/example/hot_pool/hotpool/stats/HotPoolStatistics") (F_counts_r0 : Fld Z h0 r0 "com/example/hot_pool/hotpool/stats/HotPoolStatistics" "counts" "[J" (.ref aa)) (V_aa : Arv Z h0 aa ka .long (11 : Int32) (xs.map Value.long) (.long 0)) (hG : own_G Z es) (O0 : Old Z n0 h0) :
    MetFree l (⟨"com/example/hot_pool/hotpool/stats/HotPoolStatistics", "getStatementCacheMisses", "()J"⟩ : MethodName) (head1 (Jvm.Cond.code (⟨"com/example/hot_pool/hotpool/stats/HotPoolStatistics", "getStatementCacheMisses", "()J"⟩ : MethodName) prog_64_method_17_code 1 (some .long) :: ws) ({ frames := 2, cells := 0, slots := 0, locals := 26 } : Room)) (fun a U => a = #[(.ref r0)] ∧ Z.Warmed39 U.vm ∧ U.heap = h0) (fun _ _ _ _ _ => True) (fun _ U o U' => ∃ v L, o = .returned v ∧ Q17 Z r0 aa ka xs es h0 n0 v U'.heap L ∧ FrameEnd U o U' L ({ frames := 2, cells := 0, slots := 0, locals := 26 } : Room).cells ({ frames := 2, cells := 0, slots := 0, locals := 26 } : Room).slots) := by
  refine MetFree.of_bodySF (plainFor_of_name pn_com_example_hot_pool_hotpool_stats_HotPoolStatistics) hisR ?_
  intro p e s m args below meth c s₁ Bd hml0 hP hK
  obtain ⟨rfl, hZ, hh⟩ := hP
  have hx := Bd.exec
  have hby := Bd.bytes
  have hlk := Bd.notSynchronized
  have hrt := Bd.returns
  have hml : c.maxLocals = 1 := hml0
  have hown : s.vm.findClass "com/example/hot_pool/hotpool/stats/HotPoolStatistics" = some m.cls := findClass_of_methodNamed Bd.named
  have hnm := (name_of_methodNamed Bd.named Bd.method).1
  have X0 : Stand p l e ({ frames := 2, cells := 0, slots := 0, locals := 26 } : Room) s m #[(.ref r0)] below meth c s₁ [] 0 0 := Stand.of_body Bd
  have e0 : s₁.heap = h0 := by rw [← hh, Bd.state]; rfl
  have N0 := Fr.nil n0
  have K0 := Keep.refl h0 []
  refine own_out (Q := Q17 Z r0 aa ka xs es h0 n0) ?_
  refine own_in (ef_17 m r0) ?_
  show own_Go _ _ _ _ s₁ (mkF m 0 #[.val (.ref r0)] [])
  refine own_st (fun t k => XS.aloadN X0.here hx rfl (hb hby d17_0) rfl rfl k) ?_
  show own_Go _ _ _ _ s₁ (mkF m 1 #[.val (.ref r0)] [(.ref r0)])
  obtain ⟨T1, X1, e1, st1⟩ := getS2 X0 hx hZ hown (host := "") (Or.inl (hw _ (List.mem_of_getElem? (i := 160) rfl))) Via.refl e0 ((own_S9 hG).ext O0.2) (g := (mkF m 1 #[.val (.ref r0)] [(.ref r0)])) rfl (hb hby d17_1)
  refine own_st st1 ?_
  show own_Go _ _ _ _ T1 (mkF m 4 #[.val (.ref r0)] [(.ref (es.getD 9 0)), (.ref r0)])
  obtain ⟨cq2, q2a, q2b⟩ := E_r0.cell
  obtain ⟨ci2, ki2, i2a, i2b, -, i2c, -⟩ := Cond.instantiable_spec (mvT (args := #[]) hZ (hw _ (List.mem_of_getElem? (i := 94) rfl)))
  obtain ⟨_, _, ⟨T2, L2, k2, n2⟩, -, X2, ⟨Lc2, hQ2, l2, y2, z2⟩, st2⟩ := X1.privateBack hx (y := (⟨"com/example/hot_pool/hotpool/stats/HotPoolStatistics", "count", "(Lcom/example/hot_pool/hotpool/stats/PoolEvent;)J"⟩ : MethodName)) hown (mvT hZ (hw _ (List.mem_of_getElem? (i := 120) rfl))) (mvT hZ (hw _ (List.mem_of_getElem? (i := 121) rfl))) (selects_self_of_private i2a i2b (by simp only [Bool.or_eq_false_iff] at i2c; exact i2c.1) (Cond.privateMethod_at (mvP hZ (hw _ (List.mem_of_getElem? (i := 122) rfl)) (args := #[]))) (mvT hZ (hw _ (List.mem_of_getElem? (i := 121) rfl))) (by decide)) (Cond.privateMethod_at (mvP hZ (hw _ (List.mem_of_getElem? (i := 122) rfl)) (args := #[]))) (mvT hZ (hw _ (List.mem_of_getElem? (i := 123) rfl))) (by decide) (backOf (W := 0) (rm11 l Z a0 hw [] r0 (es.getD 9 0) aa (9 : Int32) ka xs  h0 n0 Z0 F_counts_r0 ((own_E9 hG).ext O0.2) ((own_O9 hG).ext O0.2) V_aa ⟨by decide, by decide⟩) hZ (hw _ (List.mem_of_getElem? (i := 123) rfl)) (hw _ (List.mem_of_getElem? (i := 95) rfl)) (by decide) (by decide)) (g := (mkF m 4 #[.val (.ref r0)] [(.ref (es.getD 9 0)), (.ref r0)])) rfl (by rw [hml]; rfl) (Steps.refl _) (a := r0) (by rw [e1]; exact q2a) q2b (argsL := [(.ref (es.getD 9 0))]) (rest := []) (lenOf pd_145725 rfl) rfl (by show 2 * 0 + _ ≤ _; exact Nat.le_of_eq rfl) (hb hby d17_4) (fun _ _ => ⟨rfl, e1, (by decide : 0 + 0 ≤ _), (by decide : 0 + 0 ≤ _)⟩)
  dsimp only [Pt.U, Pt.locs, Pt.cells, Pt.slots] at X2 l2 y2 z2 st2 hQ2
  subst l2 y2 z2
  obtain ⟨rfl, N2q, e2⟩ := hQ2
  obtain ⟨_, X2, N2⟩ := own_hide X2 (Fr.app N0 N2q)
  refine own_tr st2 ?_
  show own_Go _ _ _ _ T2 (mkF m 7 #[.val (.ref r0)] [(.long (xs.getD ((9 : Int32)).toNatClampNeg 0))])
  exact own_retJ X2 hx hlk hrt (hb hby d17_7) ⟨rfl, N2, e2⟩ (by decide) (by decide)
/-! body 21: HotPoolStatistics.getStatementCacheEvictions -/
theorem d21_0 : decode prog_64_method_18_code 0 = .ok (.aload_n 0, 1) := by decide +kernel
theorem d21_1 : decode prog_64_method_18_code 1 = .ok (.getstatic 75, 3) := by decide +kernel
theorem d21_4 : decode prog_64_method_18_code 4 = .ok (.invokevirtual 44, 3) := by decide +kernel
theorem d21_7 : decode prog_64_method_18_code 7 = .ok (.lreturn, 1) := by decide +kernel
theorem ef_21 (m : MethodId) (x0 : Addr) : entryFrame m #[(.ref x0)] 1 = mkF m 0 #[.val (.ref x0)] [] := by first | (simp [entryFrame, mkF, argsToLocals, Value.category]; done) | rfl
def Q21 (Z : State) (r0 : Addr) (aa : Addr) (ka : ClassId) (xs : List Int64) (es : List Addr) (h0 : Heap) (n0 : Nat) (v : Option Value) (h : Heap) (L : List Loc) : Prop := v = some (.long (xs.getD ((10 : Int32)).toNatClampNeg 0)) ∧ Fr n0 L ∧ h = h0
set_option maxRecDepth 65536 in
set_option maxHeartbeats 40000000 in
theorem rm21 (l : Launch) (Z : State) (a0 : Array Value) (hw : ∀ d ∈ tables_1, d.before a0 Z = true) (ws : List Jvm.Cond) (r0 : Addr) (aa : Addr) (ka : ClassId) (xs : List Int64) (es : List Addr) (h0 : Heap) (n0 : Nat) (Z0 : n0 ≤ h0.size) (E_r0 : Exa Z h0 r0 "com/example/hot_pool/hotpool/stats/HotPoolStatistics") (F_counts_r0 : Fld Z h0 r0 "com/example/hot_pool/hotpool/stats/HotPoolStatistics" "counts" "[J" (.ref aa)) (V_aa : Arv Z h0 aa ka .long (11 : Int32) (xs.map Value.long) (.long 0)) (hG : own_G Z es) (O0 : Old Z n0 h0) :
    MetFree l (⟨"com/example/hot_pool/hotpool/stats/HotPoolStatistics", "getStatementCacheEvictions", "()J"⟩ : MethodName) (head1 (Jvm.Cond.code (⟨"com/example/hot_pool/hotpool/stats/HotPoolStatistics", "getStatementCacheEvictions", "()J"⟩ : MethodName) prog_64_method_18_code 1 (some .long) :: ws) ({ frames := 2, cells := 0, slots := 0, locals := 26 } : Room)) (fun a U => a = #[(.ref r0)] ∧ Z.Warmed39 U.vm ∧ U.heap = h0) (fun _ _ _ _ _ => True) (fun _ U o U' => ∃ v L, o = .returned v ∧ Q21 Z r0 aa ka xs es h0 n0 v U'.heap L ∧ FrameEnd U o U' L ({ frames := 2, cells := 0, slots := 0, locals := 26 } : Room).cells ({ frames := 2, cells := 0, slots := 0, locals := 26 } : Room).slots) := by
  refine MetFree.of_bodySF (plainFor_of_name pn_com_example_hot_pool_hotpool_stats_HotPoolStatistics) hisR ?_
  intro p e s m args below meth c s₁ Bd hml0 hP hK
  obtain ⟨rfl, hZ, hh⟩ := hP
  have hx := Bd.exec
  have hby := Bd.bytes
  have hlk := Bd.notSynchronized
  have hrt := Bd.returns
  have hml : c.maxLocals = 1 := hml0
  have hown : s.vm.findClass "com/example/hot_pool/hotpool/stats/HotPoolStatistics" = some m.cls := findClass_of_methodNamed Bd.named
  have hnm := (name_of_methodNamed Bd.named Bd.method).1
  have X0 : Stand p l e ({ frames := 2, cells := 0, slots := 0, locals := 26 } : Room) s m #[(.ref r0)] below meth c s₁ [] 0 0 := Stand.of_body Bd
  have e0 : s₁.heap = h0 := by rw [← hh, Bd.state]; rfl
  have N0 := Fr.nil n0
  have K0 := Keep.refl h0 []
  refine own_out (Q := Q21 Z r0 aa ka xs es h0 n0) ?_
  refine own_in (ef_21 m r0) ?_
  show own_Go _ _ _ _ s₁ (mkF m 0 #[.val (.ref r0)] [])
  refine own_st (fun t k => XS.aloadN X0.here hx rfl (hb hby d21_0) rfl rfl k) ?_
  show own_Go _ _ _ _ s₁ (mkF m 1 #[.val (.ref r0)] [(.ref r0)])
  obtain ⟨T1, X1, e1, st1⟩ := getS2 X0 hx hZ hown (host := "") (Or.inl (hw _ (List.mem_of_getElem? (i := 184) rfl))) Via.refl e0 ((own_S10 hG).ext O0.2) (g := (mkF m 1 #[.val (.ref r0)] [(.ref r0)])) rfl (hb hby d21_1)
  refine own_st st1 ?_
  show own_Go _ _ _ _ T1 (mkF m 4 #[.val (.ref r0)] [(.ref (es.getD 10 0)), (.ref r0)])
  obtain ⟨cq2, q2a, q2b⟩ := E_r0.cell
  obtain ⟨ci2, ki2, i2a, i2b, -, i2c, -⟩ := Cond.instantiable_spec (mvT (args := #[]) hZ (hw _ (List.mem_of_getElem? (i := 94) rfl)))
  obtain ⟨_, _, ⟨T2, L2, k2, n2⟩, -, X2, ⟨Lc2, hQ2, l2, y2, z2⟩, st2⟩ := X1.privateBack hx (y := (⟨"com/example/hot_pool/hotpool/stats/HotPoolStatistics", "count", "(Lcom/example/hot_pool/hotpool/stats/PoolEvent;)J"⟩ : MethodName)) hown (mvT hZ (hw _ (List.mem_of_getElem? (i := 120) rfl))) (mvT hZ (hw _ (List.mem_of_getElem? (i := 121) rfl))) (selects_self_of_private i2a i2b (by simp only [Bool.or_eq_false_iff] at i2c; exact i2c.1) (Cond.privateMethod_at (mvP hZ (hw _ (List.mem_of_getElem? (i := 122) rfl)) (args := #[]))) (mvT hZ (hw _ (List.mem_of_getElem? (i := 121) rfl))) (by decide)) (Cond.privateMethod_at (mvP hZ (hw _ (List.mem_of_getElem? (i := 122) rfl)) (args := #[]))) (mvT hZ (hw _ (List.mem_of_getElem? (i := 123) rfl))) (by decide) (backOf (W := 0) (rm11 l Z a0 hw [] r0 (es.getD 10 0) aa (10 : Int32) ka xs  h0 n0 Z0 F_counts_r0 ((own_E10 hG).ext O0.2) ((own_O10 hG).ext O0.2) V_aa ⟨by decide, by decide⟩) hZ (hw _ (List.mem_of_getElem? (i := 123) rfl)) (hw _ (List.mem_of_getElem? (i := 95) rfl)) (by decide) (by decide)) (g := (mkF m 4 #[.val (.ref r0)] [(.ref (es.getD 10 0)), (.ref r0)])) rfl (by rw [hml]; rfl) (Steps.refl _) (a := r0) (by rw [e1]; exact q2a) q2b (argsL := [(.ref (es.getD 10 0))]) (rest := []) (lenOf pd_145725 rfl) rfl (by show 2 * 0 + _ ≤ _; exact Nat.le_of_eq rfl) (hb hby d21_4) (fun _ _ => ⟨rfl, e1, (by decide : 0 + 0 ≤ _), (by decide : 0 + 0 ≤ _)⟩)
  dsimp only [Pt.U, Pt.locs, Pt.cells, Pt.slots] at X2 l2 y2 z2 st2 hQ2
  subst l2 y2 z2
  obtain ⟨rfl, N2q, e2⟩ := hQ2
  obtain ⟨_, X2, N2⟩ := own_hide X2 (Fr.app N0 N2q)
  refine own_tr st2 ?_
  show own_Go _ _ _ _ T2 (mkF m 7 #[.val (.ref r0)] [(.long (xs.getD ((10 : Int32)).toNatClampNeg 0))])
  exact own_retJ X2 hx hlk hrt (hb hby d21_7) ⟨rfl, N2, e2⟩ (by decide) (by decide)
theorem own_ten {i : Int32} (h : ¬ i < 0 ∧ i < 11) (n0 : ¬ i = (0 : Int32)) (n1 : ¬ i = (1 : Int32)) (n2 : ¬ i = (2 : Int32)) (n3 : ¬ i = (3 : Int32)) (n4 : ¬ i = (4 : Int32)) (n5 : ¬ i = (5 : Int32)) (n6 : ¬ i = (6 : Int32)) (n7 : ¬ i = (7 : Int32)) (n8 : ¬ i = (8 : Int32)) (n9 : ¬ i = (9 : Int32)) : i = 10 := by
  have h1 := h.1; have h2 := h.2
  rw [Int32.lt_iff_toInt_lt] at h1 h2
  rw [← Int32.toInt_inj] at *
  simp only [Int32.reduceToInt] at *
  omega
theorem pd__28_29J : parseMethodDescriptor "()J" = some ⟨[], some .long⟩ := by decide +kernel
/-! body 9: PoolCountsAddPinLaw.read -/
theorem d9_0 : decode method_2_code 0 = .ok (.iload_n 1, 1) := by decide +kernel
theorem d9_1 : decode method_2_code 1 = .ok (.ifCond .ne 8, 3) := by decide +kernel
theorem d9_4 : decode method_2_code 4 = .ok (.aload_n 0, 1) := by decide +kernel
theorem d9_5 : decode method_2_code 5 = .ok (.invokevirtual 7, 3) := by decide +kernel
theorem d9_8 : decode method_2_code 8 = .ok (.lreturn, 1) := by decide +kernel
theorem d9_9 : decode method_2_code 9 = .ok (.iload_n 1, 1) := by decide +kernel
theorem d9_10 : decode method_2_code 10 = .ok (.iconst 1, 1) := by decide +kernel
theorem d9_11 : decode method_2_code 11 = .ok (.if_icmp .ne 8, 3) := by decide +kernel
theorem d9_14 : decode method_2_code 14 = .ok (.aload_n 0, 1) := by decide +kernel
theorem d9_15 : decode method_2_code 15 = .ok (.invokevirtual 13, 3) := by decide +kernel
theorem d9_18 : decode method_2_code 18 = .ok (.lreturn, 1) := by decide +kernel
theorem d9_19 : decode method_2_code 19 = .ok (.iload_n 1, 1) := by decide +kernel
theorem d9_20 : decode method_2_code 20 = .ok (.iconst 2, 1) := by decide +kernel
theorem d9_21 : decode method_2_code 21 = .ok (.if_icmp .ne 8, 3) := by decide +kernel
theorem d9_24 : decode method_2_code 24 = .ok (.aload_n 0, 1) := by decide +kernel
theorem d9_25 : decode method_2_code 25 = .ok (.invokevirtual 16, 3) := by decide +kernel
theorem d9_28 : decode method_2_code 28 = .ok (.lreturn, 1) := by decide +kernel
theorem d9_29 : decode method_2_code 29 = .ok (.iload_n 1, 1) := by decide +kernel
theorem d9_30 : decode method_2_code 30 = .ok (.iconst 3, 1) := by decide +kernel
theorem d9_31 : decode method_2_code 31 = .ok (.if_icmp .ne 8, 3) := by decide +kernel
theorem d9_34 : decode method_2_code 34 = .ok (.aload_n 0, 1) := by decide +kernel
theorem d9_35 : decode method_2_code 35 = .ok (.invokevirtual 19, 3) := by decide +kernel
theorem d9_38 : decode method_2_code 38 = .ok (.lreturn, 1) := by decide +kernel
theorem d9_39 : decode method_2_code 39 = .ok (.iload_n 1, 1) := by decide +kernel
theorem d9_40 : decode method_2_code 40 = .ok (.iconst 4, 1) := by decide +kernel
theorem d9_41 : decode method_2_code 41 = .ok (.if_icmp .ne 8, 3) := by decide +kernel
theorem d9_44 : decode method_2_code 44 = .ok (.aload_n 0, 1) := by decide +kernel
theorem d9_45 : decode method_2_code 45 = .ok (.invokevirtual 22, 3) := by decide +kernel
theorem d9_48 : decode method_2_code 48 = .ok (.lreturn, 1) := by decide +kernel
theorem d9_49 : decode method_2_code 49 = .ok (.iload_n 1, 1) := by decide +kernel
theorem d9_50 : decode method_2_code 50 = .ok (.iconst 5, 1) := by decide +kernel
theorem d9_51 : decode method_2_code 51 = .ok (.if_icmp .ne 8, 3) := by decide +kernel
theorem d9_54 : decode method_2_code 54 = .ok (.aload_n 0, 1) := by decide +kernel
theorem d9_55 : decode method_2_code 55 = .ok (.invokevirtual 25, 3) := by decide +kernel
theorem d9_58 : decode method_2_code 58 = .ok (.lreturn, 1) := by decide +kernel
theorem d9_59 : decode method_2_code 59 = .ok (.iload_n 1, 1) := by decide +kernel
theorem d9_60 : decode method_2_code 60 = .ok (.bipush 6, 2) := by decide +kernel
theorem d9_62 : decode method_2_code 62 = .ok (.if_icmp .ne 8, 3) := by decide +kernel
theorem d9_65 : decode method_2_code 65 = .ok (.aload_n 0, 1) := by decide +kernel
theorem d9_66 : decode method_2_code 66 = .ok (.invokevirtual 28, 3) := by decide +kernel
theorem d9_69 : decode method_2_code 69 = .ok (.lreturn, 1) := by decide +kernel
theorem d9_70 : decode method_2_code 70 = .ok (.iload_n 1, 1) := by decide +kernel
theorem d9_71 : decode method_2_code 71 = .ok (.bipush 7, 2) := by decide +kernel
theorem d9_73 : decode method_2_code 73 = .ok (.if_icmp .ne 8, 3) := by decide +kernel
theorem d9_76 : decode method_2_code 76 = .ok (.aload_n 0, 1) := by decide +kernel
theorem d9_77 : decode method_2_code 77 = .ok (.invokevirtual 31, 3) := by decide +kernel
theorem d9_80 : decode method_2_code 80 = .ok (.lreturn, 1) := by decide +kernel
theorem d9_81 : decode method_2_code 81 = .ok (.iload_n 1, 1) := by decide +kernel
theorem d9_82 : decode method_2_code 82 = .ok (.bipush 8, 2) := by decide +kernel
theorem d9_84 : decode method_2_code 84 = .ok (.if_icmp .ne 8, 3) := by decide +kernel
theorem d9_87 : decode method_2_code 87 = .ok (.aload_n 0, 1) := by decide +kernel
theorem d9_88 : decode method_2_code 88 = .ok (.invokevirtual 34, 3) := by decide +kernel
theorem d9_91 : decode method_2_code 91 = .ok (.lreturn, 1) := by decide +kernel
theorem d9_92 : decode method_2_code 92 = .ok (.iload_n 1, 1) := by decide +kernel
theorem d9_93 : decode method_2_code 93 = .ok (.bipush 9, 2) := by decide +kernel
theorem d9_95 : decode method_2_code 95 = .ok (.if_icmp .ne 8, 3) := by decide +kernel
theorem d9_98 : decode method_2_code 98 = .ok (.aload_n 0, 1) := by decide +kernel
theorem d9_99 : decode method_2_code 99 = .ok (.invokevirtual 37, 3) := by decide +kernel
theorem d9_102 : decode method_2_code 102 = .ok (.lreturn, 1) := by decide +kernel
theorem d9_103 : decode method_2_code 103 = .ok (.aload_n 0, 1) := by decide +kernel
theorem d9_104 : decode method_2_code 104 = .ok (.invokevirtual 40, 3) := by decide +kernel
theorem d9_107 : decode method_2_code 107 = .ok (.lreturn, 1) := by decide +kernel
theorem pn_com_example_hot_pool_hotpool_stats_PoolCountsAddPinLaw : plainName "com/example/hot_pool/hotpool/stats/PoolCountsAddPinLaw" = true := by first | (simp [plainName, overriddenIn]; done) | decide +kernel
theorem ef_9 (m : MethodId) (x0 : Addr) (x1 : Int32) : entryFrame m #[(.ref x0), (.int x1)] 2 = mkF m 0 #[.val (.ref x0), .val (.int x1)] [] := by first | (simp [entryFrame, mkF, argsToLocals, Value.category]; done) | rfl
def Q9 (Z : State) (r0 : Addr) (p1 : Int32) (aa : Addr) (ka : ClassId) (xs : List Int64) (es : List Addr) (h0 : Heap) (n0 : Nat) (v : Option Value) (h : Heap) (L : List Loc) : Prop := v = some (.long (xs.getD (p1).toNatClampNeg 0)) ∧ Fr n0 L ∧ h = h0
set_option maxRecDepth 65536 in
set_option maxHeartbeats 40000000 in
theorem rm9 (l : Launch) (Z : State) (a0 : Array Value) (hw : ∀ d ∈ tables_1, d.before a0 Z = true) (ws : List Jvm.Cond) (r0 : Addr) (p1 : Int32) (aa : Addr) (ka : ClassId) (xs : List Int64) (es : List Addr) (h0 : Heap) (n0 : Nat) (Z0 : n0 ≤ h0.size) (E_r0 : Exa Z h0 r0 "com/example/hot_pool/hotpool/stats/HotPoolStatistics") (F_counts_r0 : Fld Z h0 r0 "com/example/hot_pool/hotpool/stats/HotPoolStatistics" "counts" "[J" (.ref aa)) (V_aa : Arv Z h0 aa ka .long (11 : Int32) (xs.map Value.long) (.long 0)) (hG : own_G Z es) (O0 : Old Z n0 h0) (hq : ¬ p1 < 0 ∧ p1 < 11) :
    MetFree l (⟨"com/example/hot_pool/hotpool/stats/PoolCountsAddPinLaw", "read", "(Lcom/example/hot_pool/hotpool/stats/HotPoolStatistics;I)J"⟩ : MethodName) (head1 (Jvm.Cond.code (⟨"com/example/hot_pool/hotpool/stats/PoolCountsAddPinLaw", "read", "(Lcom/example/hot_pool/hotpool/stats/HotPoolStatistics;I)J"⟩ : MethodName) method_2_code 2 (some .long) :: ws) ({ frames := 3, cells := 0, slots := 0, locals := 38 } : Room)) (fun a U => a = #[(.ref r0), (.int p1)] ∧ Z.Warmed39 U.vm ∧ U.heap = h0) (fun _ _ _ _ _ => True) (fun _ U o U' => ∃ v L, o = .returned v ∧ Q9 Z r0 p1 aa ka xs es h0 n0 v U'.heap L ∧ FrameEnd U o U' L ({ frames := 3, cells := 0, slots := 0, locals := 38 } : Room).cells ({ frames := 3, cells := 0, slots := 0, locals := 38 } : Room).slots) := by
  refine MetFree.of_bodySF (plainFor_of_name pn_com_example_hot_pool_hotpool_stats_PoolCountsAddPinLaw) hisR ?_
  intro p e s m args below meth c s₁ Bd hml0 hP hK
  obtain ⟨rfl, hZ, hh⟩ := hP
  have hx := Bd.exec
  have hby := Bd.bytes
  have hlk := Bd.notSynchronized
  have hrt := Bd.returns
  have hml : c.maxLocals = 2 := hml0
  have hown : s.vm.findClass "com/example/hot_pool/hotpool/stats/PoolCountsAddPinLaw" = some m.cls := findClass_of_methodNamed Bd.named
  have hnm := (name_of_methodNamed Bd.named Bd.method).1
  have X0 : Stand p l e ({ frames := 3, cells := 0, slots := 0, locals := 38 } : Room) s m #[(.ref r0), (.int p1)] below meth c s₁ [] 0 0 := Stand.of_body Bd
  have e0 : s₁.heap = h0 := by rw [← hh, Bd.state]; rfl
  have N0 := Fr.nil n0
  have K0 := Keep.refl h0 []
  refine own_out (Q := Q9 Z r0 p1 aa ka xs es h0 n0) ?_
  refine own_in (ef_9 m r0 p1) ?_
  show own_Go _ _ _ _ s₁ (mkF m 0 #[.val (.ref r0), .val (.int p1)] [])
  refine own_st (fun t k => XS.iloadN X0.here hx rfl (hb hby d9_0) rfl k) ?_
  show own_Go _ _ _ _ s₁ (mkF m 1 #[.val (.ref r0), .val (.int p1)] [(.int p1)])
  by_cases c1_1 : p1 = (0 : Int32)
  ·
    refine own_st (fun t k => XS.ifNo X0.here hx rfl (hb hby d9_1) rfl ((if0 _ _).trans (teq c1_1).2) k) ?_
    show own_Go _ _ _ _ s₁ (mkF m 4 #[.val (.ref r0), .val (.int p1)] [])
    refine own_st (fun t k => XS.aloadN X0.here hx rfl (hb hby d9_4) rfl rfl k) ?_
    show own_Go _ _ _ _ s₁ (mkF m 5 #[.val (.ref r0), .val (.int p1)] [(.ref r0)])
    obtain ⟨cq2, kq2, q2a, q2b, q2c⟩ := isOf hZ e0 E_r0
    obtain ⟨_, _, ⟨T2, L2, k2, n2⟩, -, X2, ⟨Lc2, hQ2, l2, y2, z2⟩, st2⟩ := X0.virtualBack hx (y := (⟨"com/example/hot_pool/hotpool/stats/HotPoolStatistics", "getConnectionsCreated", "()J"⟩ : MethodName)) (z := (⟨"com/example/hot_pool/hotpool/stats/HotPoolStatistics", "getConnectionsCreated", "()J"⟩ : MethodName)) hown (mvT hZ (hw _ (List.mem_of_getElem? (i := 149) rfl))) (mvT hZ (hw _ (List.mem_of_getElem? (i := 150) rfl))) (notFace_of_selects (args := #[]) (mvT hZ (hw _ (List.mem_of_getElem? (i := 152) rfl)))) (mvT hZ (hw _ (List.mem_of_getElem? (i := 152) rfl))) (mvT hZ (hw _ (List.mem_of_getElem? (i := 151) rfl))) (by decide) (backOf (W := 0) (rm16 l Z a0 hw [] r0 aa ka xs es  h0 n0 Z0 E_r0 F_counts_r0 V_aa hG O0) hZ (hw _ (List.mem_of_getElem? (i := 153) rfl)) (hw _ (List.mem_of_getElem? (i := 95) rfl)) (by decide) (by decide)) q2a q2c (g := (mkF m 5 #[.val (.ref r0), .val (.int p1)] [(.ref r0)])) rfl (by rw [hml]; rfl) (Steps.refl _) (argsL := []) (rest := []) (lenOf pd__28_29J rfl) rfl (by show 2 * 0 + _ ≤ _; exact Nat.le_of_eq rfl) (hb hby d9_5) (fun _ _ => ⟨rfl, e0, (by decide : 0 + 0 ≤ _), (by decide : 0 + 0 ≤ _)⟩)
    dsimp only [Pt.U, Pt.locs, Pt.cells, Pt.slots] at X2 l2 y2 z2 st2 hQ2
    subst l2 y2 z2
    obtain ⟨rfl, N2q, e2⟩ := hQ2
    obtain ⟨_, X2, N2⟩ := own_hide X2 (Fr.app N0 N2q)
    refine own_tr st2 ?_
    show own_Go _ _ _ _ T2 (mkF m 8 #[.val (.ref r0), .val (.int p1)] [(.long (xs.getD ((0 : Int32)).toNatClampNeg 0))])
    exact own_retJ X2 hx hlk hrt (hb hby d9_8) ⟨(by rw [c1_1]), N2, e2⟩ (by decide) (by decide)
  ·
    refine own_st (fun t k => XS.ifYes X0.here hx rfl (pc0 := 1) (pc' := 9) rfl (hb hby d9_1) rfl ((if0 _ _).trans (feq c1_1).2) (by decide) (by decide) k) ?_
    show own_Go _ _ _ _ s₁ (mkF m 9 #[.val (.ref r0), .val (.int p1)] [])
    refine own_st (fun t k => XS.iloadN X0.here hx rfl (hb hby d9_9) rfl k) ?_
    show own_Go _ _ _ _ s₁ (mkF m 10 #[.val (.ref r0), .val (.int p1)] [(.int p1)])
    refine own_st (fun t k => XS.iconst X0.here hx rfl (hb hby d9_10) k) ?_
    show own_Go _ _ _ _ s₁ (mkF m 11 #[.val (.ref r0), .val (.int p1)] [(.int (1 : Int32)), (.int p1)])
    by_cases c11_3 : p1 = (1 : Int32)
    ·
      refine own_st (fun t k => XS.icmpNo X0.here hx rfl (hb hby d9_11) rfl (teq c11_3).2 k) ?_
      show own_Go _ _ _ _ s₁ (mkF m 14 #[.val (.ref r0), .val (.int p1)] [])
      refine own_st (fun t k => XS.aloadN X0.here hx rfl (hb hby d9_14) rfl rfl k) ?_
      show own_Go _ _ _ _ s₁ (mkF m 15 #[.val (.ref r0), .val (.int p1)] [(.ref r0)])
      obtain ⟨cq4, kq4, q4a, q4b, q4c⟩ := isOf hZ e0 E_r0
      obtain ⟨_, _, ⟨T4, L4, k4, n4⟩, -, X4, ⟨Lc4, hQ4, l4, y4, z4⟩, st4⟩ := X0.virtualBack hx (y := (⟨"com/example/hot_pool/hotpool/stats/HotPoolStatistics", "getConnectionsClosed", "()J"⟩ : MethodName)) (z := (⟨"com/example/hot_pool/hotpool/stats/HotPoolStatistics", "getConnectionsClosed", "()J"⟩ : MethodName)) hown (mvT hZ (hw _ (List.mem_of_getElem? (i := 114) rfl))) (mvT hZ (hw _ (List.mem_of_getElem? (i := 115) rfl))) (notFace_of_selects (args := #[]) (mvT hZ (hw _ (List.mem_of_getElem? (i := 117) rfl)))) (mvT hZ (hw _ (List.mem_of_getElem? (i := 117) rfl))) (mvT hZ (hw _ (List.mem_of_getElem? (i := 116) rfl))) (by decide) (backOf (W := 0) (rm10 l Z a0 hw [] r0 aa ka xs es  h0 n0 Z0 E_r0 F_counts_r0 V_aa hG O0) hZ (hw _ (List.mem_of_getElem? (i := 118) rfl)) (hw _ (List.mem_of_getElem? (i := 95) rfl)) (by decide) (by decide)) q4a q4c (g := (mkF m 15 #[.val (.ref r0), .val (.int p1)] [(.ref r0)])) rfl (by rw [hml]; rfl) (Steps.refl _) (argsL := []) (rest := []) (lenOf pd__28_29J rfl) rfl (by show 2 * 0 + _ ≤ _; exact Nat.le_of_eq rfl) (hb hby d9_15) (fun _ _ => ⟨rfl, e0, (by decide : 0 + 0 ≤ _), (by decide : 0 + 0 ≤ _)⟩)
      dsimp only [Pt.U, Pt.locs, Pt.cells, Pt.slots] at X4 l4 y4 z4 st4 hQ4
      subst l4 y4 z4
      obtain ⟨rfl, N4q, e4⟩ := hQ4
      obtain ⟨_, X4, N4⟩ := own_hide X4 (Fr.app N0 N4q)
      refine own_tr st4 ?_
      show own_Go _ _ _ _ T4 (mkF m 18 #[.val (.ref r0), .val (.int p1)] [(.long (xs.getD ((1 : Int32)).toNatClampNeg 0))])
      exact own_retJ X4 hx hlk hrt (hb hby d9_18) ⟨(by rw [c11_3]), N4, e4⟩ (by decide) (by decide)
    ·
      refine own_st (fun t k => XS.icmpYes X0.here hx rfl (pc0 := 11) (pc' := 19) rfl (hb hby d9_11) rfl (feq c11_3).2 (by decide) (by decide) k) ?_
      show own_Go _ _ _ _ s₁ (mkF m 19 #[.val (.ref r0), .val (.int p1)] [])
      refine own_st (fun t k => XS.iloadN X0.here hx rfl (hb hby d9_19) rfl k) ?_
      show own_Go _ _ _ _ s₁ (mkF m 20 #[.val (.ref r0), .val (.int p1)] [(.int p1)])
      refine own_st (fun t k => XS.iconst X0.here hx rfl (hb hby d9_20) k) ?_
      show own_Go _ _ _ _ s₁ (mkF m 21 #[.val (.ref r0), .val (.int p1)] [(.int (2 : Int32)), (.int p1)])
      by_cases c21_5 : p1 = (2 : Int32)
      ·
        refine own_st (fun t k => XS.icmpNo X0.here hx rfl (hb hby d9_21) rfl (teq c21_5).2 k) ?_
        show own_Go _ _ _ _ s₁ (mkF m 24 #[.val (.ref r0), .val (.int p1)] [])
        refine own_st (fun t k => XS.aloadN X0.here hx rfl (hb hby d9_24) rfl rfl k) ?_
        show own_Go _ _ _ _ s₁ (mkF m 25 #[.val (.ref r0), .val (.int p1)] [(.ref r0)])
        obtain ⟨cq6, kq6, q6a, q6b, q6c⟩ := isOf hZ e0 E_r0
        obtain ⟨_, _, ⟨T6, L6, k6, n6⟩, -, X6, ⟨Lc6, hQ6, l6, y6, z6⟩, st6⟩ := X0.virtualBack hx (y := (⟨"com/example/hot_pool/hotpool/stats/HotPoolStatistics", "getBorrows", "()J"⟩ : MethodName)) (z := (⟨"com/example/hot_pool/hotpool/stats/HotPoolStatistics", "getBorrows", "()J"⟩ : MethodName)) hown (mvT hZ (hw _ (List.mem_of_getElem? (i := 131) rfl))) (mvT hZ (hw _ (List.mem_of_getElem? (i := 132) rfl))) (notFace_of_selects (args := #[]) (mvT hZ (hw _ (List.mem_of_getElem? (i := 134) rfl)))) (mvT hZ (hw _ (List.mem_of_getElem? (i := 134) rfl))) (mvT hZ (hw _ (List.mem_of_getElem? (i := 133) rfl))) (by decide) (backOf (W := 0) (rm13 l Z a0 hw [] r0 aa ka xs es  h0 n0 Z0 E_r0 F_counts_r0 V_aa hG O0) hZ (hw _ (List.mem_of_getElem? (i := 135) rfl)) (hw _ (List.mem_of_getElem? (i := 95) rfl)) (by decide) (by decide)) q6a q6c (g := (mkF m 25 #[.val (.ref r0), .val (.int p1)] [(.ref r0)])) rfl (by rw [hml]; rfl) (Steps.refl _) (argsL := []) (rest := []) (lenOf pd__28_29J rfl) rfl (by show 2 * 0 + _ ≤ _; exact Nat.le_of_eq rfl) (hb hby d9_25) (fun _ _ => ⟨rfl, e0, (by decide : 0 + 0 ≤ _), (by decide : 0 + 0 ≤ _)⟩)
        dsimp only [Pt.U, Pt.locs, Pt.cells, Pt.slots] at X6 l6 y6 z6 st6 hQ6
        subst l6 y6 z6
        obtain ⟨rfl, N6q, e6⟩ := hQ6
        obtain ⟨_, X6, N6⟩ := own_hide X6 (Fr.app N0 N6q)
        refine own_tr st6 ?_
        show own_Go _ _ _ _ T6 (mkF m 28 #[.val (.ref r0), .val (.int p1)] [(.long (xs.getD ((2 : Int32)).toNatClampNeg 0))])
        exact own_retJ X6 hx hlk hrt (hb hby d9_28) ⟨(by rw [c21_5]), N6, e6⟩ (by decide) (by decide)
      ·
        refine own_st (fun t k => XS.icmpYes X0.here hx rfl (pc0 := 21) (pc' := 29) rfl (hb hby d9_21) rfl (feq c21_5).2 (by decide) (by decide) k) ?_
        show own_Go _ _ _ _ s₁ (mkF m 29 #[.val (.ref r0), .val (.int p1)] [])
        refine own_st (fun t k => XS.iloadN X0.here hx rfl (hb hby d9_29) rfl k) ?_
        show own_Go _ _ _ _ s₁ (mkF m 30 #[.val (.ref r0), .val (.int p1)] [(.int p1)])
        refine own_st (fun t k => XS.iconst X0.here hx rfl (hb hby d9_30) k) ?_
        show own_Go _ _ _ _ s₁ (mkF m 31 #[.val (.ref r0), .val (.int p1)] [(.int (3 : Int32)), (.int p1)])
        by_cases c31_7 : p1 = (3 : Int32)
        ·
          refine own_st (fun t k => XS.icmpNo X0.here hx rfl (hb hby d9_31) rfl (teq c31_7).2 k) ?_
          show own_Go _ _ _ _ s₁ (mkF m 34 #[.val (.ref r0), .val (.int p1)] [])
          refine own_st (fun t k => XS.aloadN X0.here hx rfl (hb hby d9_34) rfl rfl k) ?_
          show own_Go _ _ _ _ s₁ (mkF m 35 #[.val (.ref r0), .val (.int p1)] [(.ref r0)])
          obtain ⟨cq8, kq8, q8a, q8b, q8c⟩ := isOf hZ e0 E_r0
          obtain ⟨_, _, ⟨T8, L8, k8, n8⟩, -, X8, ⟨Lc8, hQ8, l8, y8, z8⟩, st8⟩ := X0.virtualBack hx (y := (⟨"com/example/hot_pool/hotpool/stats/HotPoolStatistics", "getWaitTimeouts", "()J"⟩ : MethodName)) (z := (⟨"com/example/hot_pool/hotpool/stats/HotPoolStatistics", "getWaitTimeouts", "()J"⟩ : MethodName)) hown (mvT hZ (hw _ (List.mem_of_getElem? (i := 143) rfl))) (mvT hZ (hw _ (List.mem_of_getElem? (i := 144) rfl))) (notFace_of_selects (args := #[]) (mvT hZ (hw _ (List.mem_of_getElem? (i := 146) rfl)))) (mvT hZ (hw _ (List.mem_of_getElem? (i := 146) rfl))) (mvT hZ (hw _ (List.mem_of_getElem? (i := 145) rfl))) (by decide) (backOf (W := 0) (rm15 l Z a0 hw [] r0 aa ka xs es  h0 n0 Z0 E_r0 F_counts_r0 V_aa hG O0) hZ (hw _ (List.mem_of_getElem? (i := 147) rfl)) (hw _ (List.mem_of_getElem? (i := 95) rfl)) (by decide) (by decide)) q8a q8c (g := (mkF m 35 #[.val (.ref r0), .val (.int p1)] [(.ref r0)])) rfl (by rw [hml]; rfl) (Steps.refl _) (argsL := []) (rest := []) (lenOf pd__28_29J rfl) rfl (by show 2 * 0 + _ ≤ _; exact Nat.le_of_eq rfl) (hb hby d9_35) (fun _ _ => ⟨rfl, e0, (by decide : 0 + 0 ≤ _), (by decide : 0 + 0 ≤ _)⟩)
          dsimp only [Pt.U, Pt.locs, Pt.cells, Pt.slots] at X8 l8 y8 z8 st8 hQ8
          subst l8 y8 z8
          obtain ⟨rfl, N8q, e8⟩ := hQ8
          obtain ⟨_, X8, N8⟩ := own_hide X8 (Fr.app N0 N8q)
          refine own_tr st8 ?_
          show own_Go _ _ _ _ T8 (mkF m 38 #[.val (.ref r0), .val (.int p1)] [(.long (xs.getD ((3 : Int32)).toNatClampNeg 0))])
          exact own_retJ X8 hx hlk hrt (hb hby d9_38) ⟨(by rw [c31_7]), N8, e8⟩ (by decide) (by decide)
        ·
          refine own_st (fun t k => XS.icmpYes X0.here hx rfl (pc0 := 31) (pc' := 39) rfl (hb hby d9_31) rfl (feq c31_7).2 (by decide) (by decide) k) ?_
          show own_Go _ _ _ _ s₁ (mkF m 39 #[.val (.ref r0), .val (.int p1)] [])
          refine own_st (fun t k => XS.iloadN X0.here hx rfl (hb hby d9_39) rfl k) ?_
          show own_Go _ _ _ _ s₁ (mkF m 40 #[.val (.ref r0), .val (.int p1)] [(.int p1)])
          refine own_st (fun t k => XS.iconst X0.here hx rfl (hb hby d9_40) k) ?_
          show own_Go _ _ _ _ s₁ (mkF m 41 #[.val (.ref r0), .val (.int p1)] [(.int (4 : Int32)), (.int p1)])
          by_cases c41_9 : p1 = (4 : Int32)
          ·
            refine own_st (fun t k => XS.icmpNo X0.here hx rfl (hb hby d9_41) rfl (teq c41_9).2 k) ?_
            show own_Go _ _ _ _ s₁ (mkF m 44 #[.val (.ref r0), .val (.int p1)] [])
            refine own_st (fun t k => XS.aloadN X0.here hx rfl (hb hby d9_44) rfl rfl k) ?_
            show own_Go _ _ _ _ s₁ (mkF m 45 #[.val (.ref r0), .val (.int p1)] [(.ref r0)])
            obtain ⟨cq10, kq10, q10a, q10b, q10c⟩ := isOf hZ e0 E_r0
            obtain ⟨_, _, ⟨T10, L10, k10, n10⟩, -, X10, ⟨Lc10, hQ10, l10, y10, z10⟩, st10⟩ := X0.virtualBack hx (y := (⟨"com/example/hot_pool/hotpool/stats/HotPoolStatistics", "getValidations", "()J"⟩ : MethodName)) (z := (⟨"com/example/hot_pool/hotpool/stats/HotPoolStatistics", "getValidations", "()J"⟩ : MethodName)) hown (mvT hZ (hw _ (List.mem_of_getElem? (i := 137) rfl))) (mvT hZ (hw _ (List.mem_of_getElem? (i := 138) rfl))) (notFace_of_selects (args := #[]) (mvT hZ (hw _ (List.mem_of_getElem? (i := 140) rfl)))) (mvT hZ (hw _ (List.mem_of_getElem? (i := 140) rfl))) (mvT hZ (hw _ (List.mem_of_getElem? (i := 139) rfl))) (by decide) (backOf (W := 0) (rm14 l Z a0 hw [] r0 aa ka xs es  h0 n0 Z0 E_r0 F_counts_r0 V_aa hG O0) hZ (hw _ (List.mem_of_getElem? (i := 141) rfl)) (hw _ (List.mem_of_getElem? (i := 95) rfl)) (by decide) (by decide)) q10a q10c (g := (mkF m 45 #[.val (.ref r0), .val (.int p1)] [(.ref r0)])) rfl (by rw [hml]; rfl) (Steps.refl _) (argsL := []) (rest := []) (lenOf pd__28_29J rfl) rfl (by show 2 * 0 + _ ≤ _; exact Nat.le_of_eq rfl) (hb hby d9_45) (fun _ _ => ⟨rfl, e0, (by decide : 0 + 0 ≤ _), (by decide : 0 + 0 ≤ _)⟩)
            dsimp only [Pt.U, Pt.locs, Pt.cells, Pt.slots] at X10 l10 y10 z10 st10 hQ10
            subst l10 y10 z10
            obtain ⟨rfl, N10q, e10⟩ := hQ10
            obtain ⟨_, X10, N10⟩ := own_hide X10 (Fr.app N0 N10q)
            refine own_tr st10 ?_
            show own_Go _ _ _ _ T10 (mkF m 48 #[.val (.ref r0), .val (.int p1)] [(.long (xs.getD ((4 : Int32)).toNatClampNeg 0))])
            exact own_retJ X10 hx hlk hrt (hb hby d9_48) ⟨(by rw [c41_9]), N10, e10⟩ (by decide) (by decide)
          ·
            refine own_st (fun t k => XS.icmpYes X0.here hx rfl (pc0 := 41) (pc' := 49) rfl (hb hby d9_41) rfl (feq c41_9).2 (by decide) (by decide) k) ?_
            show own_Go _ _ _ _ s₁ (mkF m 49 #[.val (.ref r0), .val (.int p1)] [])
            refine own_st (fun t k => XS.iloadN X0.here hx rfl (hb hby d9_49) rfl k) ?_
            show own_Go _ _ _ _ s₁ (mkF m 50 #[.val (.ref r0), .val (.int p1)] [(.int p1)])
            refine own_st (fun t k => XS.iconst X0.here hx rfl (hb hby d9_50) k) ?_
            show own_Go _ _ _ _ s₁ (mkF m 51 #[.val (.ref r0), .val (.int p1)] [(.int (5 : Int32)), (.int p1)])
            by_cases c51_11 : p1 = (5 : Int32)
            ·
              refine own_st (fun t k => XS.icmpNo X0.here hx rfl (hb hby d9_51) rfl (teq c51_11).2 k) ?_
              show own_Go _ _ _ _ s₁ (mkF m 54 #[.val (.ref r0), .val (.int p1)] [])
              refine own_st (fun t k => XS.aloadN X0.here hx rfl (hb hby d9_54) rfl rfl k) ?_
              show own_Go _ _ _ _ s₁ (mkF m 55 #[.val (.ref r0), .val (.int p1)] [(.ref r0)])
              obtain ⟨cq12, kq12, q12a, q12b, q12c⟩ := isOf hZ e0 E_r0
              obtain ⟨_, _, ⟨T12, L12, k12, n12⟩, -, X12, ⟨Lc12, hQ12, l12, y12, z12⟩, st12⟩ := X0.virtualBack hx (y := (⟨"com/example/hot_pool/hotpool/stats/HotPoolStatistics", "getFailedValidations", "()J"⟩ : MethodName)) (z := (⟨"com/example/hot_pool/hotpool/stats/HotPoolStatistics", "getFailedValidations", "()J"⟩ : MethodName)) hown (mvT hZ (hw _ (List.mem_of_getElem? (i := 173) rfl))) (mvT hZ (hw _ (List.mem_of_getElem? (i := 174) rfl))) (notFace_of_selects (args := #[]) (mvT hZ (hw _ (List.mem_of_getElem? (i := 176) rfl)))) (mvT hZ (hw _ (List.mem_of_getElem? (i := 176) rfl))) (mvT hZ (hw _ (List.mem_of_getElem? (i := 175) rfl))) (by decide) (backOf (W := 0) (rm20 l Z a0 hw [] r0 aa ka xs es  h0 n0 Z0 E_r0 F_counts_r0 V_aa hG O0) hZ (hw _ (List.mem_of_getElem? (i := 177) rfl)) (hw _ (List.mem_of_getElem? (i := 95) rfl)) (by decide) (by decide)) q12a q12c (g := (mkF m 55 #[.val (.ref r0), .val (.int p1)] [(.ref r0)])) rfl (by rw [hml]; rfl) (Steps.refl _) (argsL := []) (rest := []) (lenOf pd__28_29J rfl) rfl (by show 2 * 0 + _ ≤ _; exact Nat.le_of_eq rfl) (hb hby d9_55) (fun _ _ => ⟨rfl, e0, (by decide : 0 + 0 ≤ _), (by decide : 0 + 0 ≤ _)⟩)
              dsimp only [Pt.U, Pt.locs, Pt.cells, Pt.slots] at X12 l12 y12 z12 st12 hQ12
              subst l12 y12 z12
              obtain ⟨rfl, N12q, e12⟩ := hQ12
              obtain ⟨_, X12, N12⟩ := own_hide X12 (Fr.app N0 N12q)
              refine own_tr st12 ?_
              show own_Go _ _ _ _ T12 (mkF m 58 #[.val (.ref r0), .val (.int p1)] [(.long (xs.getD ((5 : Int32)).toNatClampNeg 0))])
              exact own_retJ X12 hx hlk hrt (hb hby d9_58) ⟨(by rw [c51_11]), N12, e12⟩ (by decide) (by decide)
            ·
              refine own_st (fun t k => XS.icmpYes X0.here hx rfl (pc0 := 51) (pc' := 59) rfl (hb hby d9_51) rfl (feq c51_11).2 (by decide) (by decide) k) ?_
              show own_Go _ _ _ _ s₁ (mkF m 59 #[.val (.ref r0), .val (.int p1)] [])
              refine own_st (fun t k => XS.iloadN X0.here hx rfl (hb hby d9_59) rfl k) ?_
              show own_Go _ _ _ _ s₁ (mkF m 60 #[.val (.ref r0), .val (.int p1)] [(.int p1)])
              refine own_st (fun t k => XS.bipush X0.here hx rfl (hb hby d9_60) k) ?_
              show own_Go _ _ _ _ s₁ (mkF m 62 #[.val (.ref r0), .val (.int p1)] [(.int (6 : Int32)), (.int p1)])
              by_cases c62_13 : p1 = (6 : Int32)
              ·
                refine own_st (fun t k => XS.icmpNo X0.here hx rfl (hb hby d9_62) rfl (teq c62_13).2 k) ?_
                show own_Go _ _ _ _ s₁ (mkF m 65 #[.val (.ref r0), .val (.int p1)] [])
                refine own_st (fun t k => XS.aloadN X0.here hx rfl (hb hby d9_65) rfl rfl k) ?_
                show own_Go _ _ _ _ s₁ (mkF m 66 #[.val (.ref r0), .val (.int p1)] [(.ref r0)])
                obtain ⟨cq14, kq14, q14a, q14b, q14c⟩ := isOf hZ e0 E_r0
                obtain ⟨_, _, ⟨T14, L14, k14, n14⟩, -, X14, ⟨Lc14, hQ14, l14, y14, z14⟩, st14⟩ := X0.virtualBack hx (y := (⟨"com/example/hot_pool/hotpool/stats/HotPoolStatistics", "getRetiredConnections", "()J"⟩ : MethodName)) (z := (⟨"com/example/hot_pool/hotpool/stats/HotPoolStatistics", "getRetiredConnections", "()J"⟩ : MethodName)) hown (mvT hZ (hw _ (List.mem_of_getElem? (i := 167) rfl))) (mvT hZ (hw _ (List.mem_of_getElem? (i := 168) rfl))) (notFace_of_selects (args := #[]) (mvT hZ (hw _ (List.mem_of_getElem? (i := 170) rfl)))) (mvT hZ (hw _ (List.mem_of_getElem? (i := 170) rfl))) (mvT hZ (hw _ (List.mem_of_getElem? (i := 169) rfl))) (by decide) (backOf (W := 0) (rm19 l Z a0 hw [] r0 aa ka xs es  h0 n0 Z0 E_r0 F_counts_r0 V_aa hG O0) hZ (hw _ (List.mem_of_getElem? (i := 171) rfl)) (hw _ (List.mem_of_getElem? (i := 95) rfl)) (by decide) (by decide)) q14a q14c (g := (mkF m 66 #[.val (.ref r0), .val (.int p1)] [(.ref r0)])) rfl (by rw [hml]; rfl) (Steps.refl _) (argsL := []) (rest := []) (lenOf pd__28_29J rfl) rfl (by show 2 * 0 + _ ≤ _; exact Nat.le_of_eq rfl) (hb hby d9_66) (fun _ _ => ⟨rfl, e0, (by decide : 0 + 0 ≤ _), (by decide : 0 + 0 ≤ _)⟩)
                dsimp only [Pt.U, Pt.locs, Pt.cells, Pt.slots] at X14 l14 y14 z14 st14 hQ14
                subst l14 y14 z14
                obtain ⟨rfl, N14q, e14⟩ := hQ14
                obtain ⟨_, X14, N14⟩ := own_hide X14 (Fr.app N0 N14q)
                refine own_tr st14 ?_
                show own_Go _ _ _ _ T14 (mkF m 69 #[.val (.ref r0), .val (.int p1)] [(.long (xs.getD ((6 : Int32)).toNatClampNeg 0))])
                exact own_retJ X14 hx hlk hrt (hb hby d9_69) ⟨(by rw [c62_13]), N14, e14⟩ (by decide) (by decide)
              ·
                refine own_st (fun t k => XS.icmpYes X0.here hx rfl (pc0 := 62) (pc' := 70) rfl (hb hby d9_62) rfl (feq c62_13).2 (by decide) (by decide) k) ?_
                show own_Go _ _ _ _ s₁ (mkF m 70 #[.val (.ref r0), .val (.int p1)] [])
                refine own_st (fun t k => XS.iloadN X0.here hx rfl (hb hby d9_70) rfl k) ?_
                show own_Go _ _ _ _ s₁ (mkF m 71 #[.val (.ref r0), .val (.int p1)] [(.int p1)])
                refine own_st (fun t k => XS.bipush X0.here hx rfl (hb hby d9_71) k) ?_
                show own_Go _ _ _ _ s₁ (mkF m 73 #[.val (.ref r0), .val (.int p1)] [(.int (7 : Int32)), (.int p1)])
                by_cases c73_15 : p1 = (7 : Int32)
                ·
                  refine own_st (fun t k => XS.icmpNo X0.here hx rfl (hb hby d9_73) rfl (teq c73_15).2 k) ?_
                  show own_Go _ _ _ _ s₁ (mkF m 76 #[.val (.ref r0), .val (.int p1)] [])
                  refine own_st (fun t k => XS.aloadN X0.here hx rfl (hb hby d9_76) rfl rfl k) ?_
                  show own_Go _ _ _ _ s₁ (mkF m 77 #[.val (.ref r0), .val (.int p1)] [(.ref r0)])
                  obtain ⟨cq16, kq16, q16a, q16b, q16c⟩ := isOf hZ e0 E_r0
                  obtain ⟨_, _, ⟨T16, L16, k16, n16⟩, -, X16, ⟨Lc16, hQ16, l16, y16, z16⟩, st16⟩ := X0.virtualBack hx (y := (⟨"com/example/hot_pool/hotpool/stats/HotPoolStatistics", "getReclaimedConnections", "()J"⟩ : MethodName)) (z := (⟨"com/example/hot_pool/hotpool/stats/HotPoolStatistics", "getReclaimedConnections", "()J"⟩ : MethodName)) hown (mvT hZ (hw _ (List.mem_of_getElem? (i := 161) rfl))) (mvT hZ (hw _ (List.mem_of_getElem? (i := 162) rfl))) (notFace_of_selects (args := #[]) (mvT hZ (hw _ (List.mem_of_getElem? (i := 164) rfl)))) (mvT hZ (hw _ (List.mem_of_getElem? (i := 164) rfl))) (mvT hZ (hw _ (List.mem_of_getElem? (i := 163) rfl))) (by decide) (backOf (W := 0) (rm18 l Z a0 hw [] r0 aa ka xs es  h0 n0 Z0 E_r0 F_counts_r0 V_aa hG O0) hZ (hw _ (List.mem_of_getElem? (i := 165) rfl)) (hw _ (List.mem_of_getElem? (i := 95) rfl)) (by decide) (by decide)) q16a q16c (g := (mkF m 77 #[.val (.ref r0), .val (.int p1)] [(.ref r0)])) rfl (by rw [hml]; rfl) (Steps.refl _) (argsL := []) (rest := []) (lenOf pd__28_29J rfl) rfl (by show 2 * 0 + _ ≤ _; exact Nat.le_of_eq rfl) (hb hby d9_77) (fun _ _ => ⟨rfl, e0, (by decide : 0 + 0 ≤ _), (by decide : 0 + 0 ≤ _)⟩)
                  dsimp only [Pt.U, Pt.locs, Pt.cells, Pt.slots] at X16 l16 y16 z16 st16 hQ16
                  subst l16 y16 z16
                  obtain ⟨rfl, N16q, e16⟩ := hQ16
                  obtain ⟨_, X16, N16⟩ := own_hide X16 (Fr.app N0 N16q)
                  refine own_tr st16 ?_
                  show own_Go _ _ _ _ T16 (mkF m 80 #[.val (.ref r0), .val (.int p1)] [(.long (xs.getD ((7 : Int32)).toNatClampNeg 0))])
                  exact own_retJ X16 hx hlk hrt (hb hby d9_80) ⟨(by rw [c73_15]), N16, e16⟩ (by decide) (by decide)
                ·
                  refine own_st (fun t k => XS.icmpYes X0.here hx rfl (pc0 := 73) (pc' := 81) rfl (hb hby d9_73) rfl (feq c73_15).2 (by decide) (by decide) k) ?_
                  show own_Go _ _ _ _ s₁ (mkF m 81 #[.val (.ref r0), .val (.int p1)] [])
                  refine own_st (fun t k => XS.iloadN X0.here hx rfl (hb hby d9_81) rfl k) ?_
                  show own_Go _ _ _ _ s₁ (mkF m 82 #[.val (.ref r0), .val (.int p1)] [(.int p1)])
                  refine own_st (fun t k => XS.bipush X0.here hx rfl (hb hby d9_82) k) ?_
                  show own_Go _ _ _ _ s₁ (mkF m 84 #[.val (.ref r0), .val (.int p1)] [(.int (8 : Int32)), (.int p1)])
                  by_cases c84_17 : p1 = (8 : Int32)
                  ·
                    refine own_st (fun t k => XS.icmpNo X0.here hx rfl (hb hby d9_84) rfl (teq c84_17).2 k) ?_
                    show own_Go _ _ _ _ s₁ (mkF m 87 #[.val (.ref r0), .val (.int p1)] [])
                    refine own_st (fun t k => XS.aloadN X0.here hx rfl (hb hby d9_87) rfl rfl k) ?_
                    show own_Go _ _ _ _ s₁ (mkF m 88 #[.val (.ref r0), .val (.int p1)] [(.ref r0)])
                    obtain ⟨cq18, kq18, q18a, q18b, q18c⟩ := isOf hZ e0 E_r0
                    obtain ⟨_, _, ⟨T18, L18, k18, n18⟩, -, X18, ⟨Lc18, hQ18, l18, y18, z18⟩, st18⟩ := X0.virtualBack hx (y := (⟨"com/example/hot_pool/hotpool/stats/HotPoolStatistics", "getStatementCacheHits", "()J"⟩ : MethodName)) (z := (⟨"com/example/hot_pool/hotpool/stats/HotPoolStatistics", "getStatementCacheHits", "()J"⟩ : MethodName)) hown (mvT hZ (hw _ (List.mem_of_getElem? (i := 125) rfl))) (mvT hZ (hw _ (List.mem_of_getElem? (i := 126) rfl))) (notFace_of_selects (args := #[]) (mvT hZ (hw _ (List.mem_of_getElem? (i := 128) rfl)))) (mvT hZ (hw _ (List.mem_of_getElem? (i := 128) rfl))) (mvT hZ (hw _ (List.mem_of_getElem? (i := 127) rfl))) (by decide) (backOf (W := 0) (rm12 l Z a0 hw [] r0 aa ka xs es  h0 n0 Z0 E_r0 F_counts_r0 V_aa hG O0) hZ (hw _ (List.mem_of_getElem? (i := 129) rfl)) (hw _ (List.mem_of_getElem? (i := 95) rfl)) (by decide) (by decide)) q18a q18c (g := (mkF m 88 #[.val (.ref r0), .val (.int p1)] [(.ref r0)])) rfl (by rw [hml]; rfl) (Steps.refl _) (argsL := []) (rest := []) (lenOf pd__28_29J rfl) rfl (by show 2 * 0 + _ ≤ _; exact Nat.le_of_eq rfl) (hb hby d9_88) (fun _ _ => ⟨rfl, e0, (by decide : 0 + 0 ≤ _), (by decide : 0 + 0 ≤ _)⟩)
                    dsimp only [Pt.U, Pt.locs, Pt.cells, Pt.slots] at X18 l18 y18 z18 st18 hQ18
                    subst l18 y18 z18
                    obtain ⟨rfl, N18q, e18⟩ := hQ18
                    obtain ⟨_, X18, N18⟩ := own_hide X18 (Fr.app N0 N18q)
                    refine own_tr st18 ?_
                    show own_Go _ _ _ _ T18 (mkF m 91 #[.val (.ref r0), .val (.int p1)] [(.long (xs.getD ((8 : Int32)).toNatClampNeg 0))])
                    exact own_retJ X18 hx hlk hrt (hb hby d9_91) ⟨(by rw [c84_17]), N18, e18⟩ (by decide) (by decide)
                  ·
                    refine own_st (fun t k => XS.icmpYes X0.here hx rfl (pc0 := 84) (pc' := 92) rfl (hb hby d9_84) rfl (feq c84_17).2 (by decide) (by decide) k) ?_
                    show own_Go _ _ _ _ s₁ (mkF m 92 #[.val (.ref r0), .val (.int p1)] [])
                    refine own_st (fun t k => XS.iloadN X0.here hx rfl (hb hby d9_92) rfl k) ?_
                    show own_Go _ _ _ _ s₁ (mkF m 93 #[.val (.ref r0), .val (.int p1)] [(.int p1)])
                    refine own_st (fun t k => XS.bipush X0.here hx rfl (hb hby d9_93) k) ?_
                    show own_Go _ _ _ _ s₁ (mkF m 95 #[.val (.ref r0), .val (.int p1)] [(.int (9 : Int32)), (.int p1)])
                    by_cases c95_19 : p1 = (9 : Int32)
                    ·
                      refine own_st (fun t k => XS.icmpNo X0.here hx rfl (hb hby d9_95) rfl (teq c95_19).2 k) ?_
                      show own_Go _ _ _ _ s₁ (mkF m 98 #[.val (.ref r0), .val (.int p1)] [])
                      refine own_st (fun t k => XS.aloadN X0.here hx rfl (hb hby d9_98) rfl rfl k) ?_
                      show own_Go _ _ _ _ s₁ (mkF m 99 #[.val (.ref r0), .val (.int p1)] [(.ref r0)])
                      obtain ⟨cq20, kq20, q20a, q20b, q20c⟩ := isOf hZ e0 E_r0
                      obtain ⟨_, _, ⟨T20, L20, k20, n20⟩, -, X20, ⟨Lc20, hQ20, l20, y20, z20⟩, st20⟩ := X0.virtualBack hx (y := (⟨"com/example/hot_pool/hotpool/stats/HotPoolStatistics", "getStatementCacheMisses", "()J"⟩ : MethodName)) (z := (⟨"com/example/hot_pool/hotpool/stats/HotPoolStatistics", "getStatementCacheMisses", "()J"⟩ : MethodName)) hown (mvT hZ (hw _ (List.mem_of_getElem? (i := 155) rfl))) (mvT hZ (hw _ (List.mem_of_getElem? (i := 156) rfl))) (notFace_of_selects (args := #[]) (mvT hZ (hw _ (List.mem_of_getElem? (i := 158) rfl)))) (mvT hZ (hw _ (List.mem_of_getElem? (i := 158) rfl))) (mvT hZ (hw _ (List.mem_of_getElem? (i := 157) rfl))) (by decide) (backOf (W := 0) (rm17 l Z a0 hw [] r0 aa ka xs es  h0 n0 Z0 E_r0 F_counts_r0 V_aa hG O0) hZ (hw _ (List.mem_of_getElem? (i := 159) rfl)) (hw _ (List.mem_of_getElem? (i := 95) rfl)) (by decide) (by decide)) q20a q20c (g := (mkF m 99 #[.val (.ref r0), .val (.int p1)] [(.ref r0)])) rfl (by rw [hml]; rfl) (Steps.refl _) (argsL := []) (rest := []) (lenOf pd__28_29J rfl) rfl (by show 2 * 0 + _ ≤ _; exact Nat.le_of_eq rfl) (hb hby d9_99) (fun _ _ => ⟨rfl, e0, (by decide : 0 + 0 ≤ _), (by decide : 0 + 0 ≤ _)⟩)
                      dsimp only [Pt.U, Pt.locs, Pt.cells, Pt.slots] at X20 l20 y20 z20 st20 hQ20
                      subst l20 y20 z20
                      obtain ⟨rfl, N20q, e20⟩ := hQ20
                      obtain ⟨_, X20, N20⟩ := own_hide X20 (Fr.app N0 N20q)
                      refine own_tr st20 ?_
                      show own_Go _ _ _ _ T20 (mkF m 102 #[.val (.ref r0), .val (.int p1)] [(.long (xs.getD ((9 : Int32)).toNatClampNeg 0))])
                      exact own_retJ X20 hx hlk hrt (hb hby d9_102) ⟨(by rw [c95_19]), N20, e20⟩ (by decide) (by decide)
                    ·
                      refine own_st (fun t k => XS.icmpYes X0.here hx rfl (pc0 := 95) (pc' := 103) rfl (hb hby d9_95) rfl (feq c95_19).2 (by decide) (by decide) k) ?_
                      show own_Go _ _ _ _ s₁ (mkF m 103 #[.val (.ref r0), .val (.int p1)] [])
                      refine own_st (fun t k => XS.aloadN X0.here hx rfl (hb hby d9_103) rfl rfl k) ?_
                      show own_Go _ _ _ _ s₁ (mkF m 104 #[.val (.ref r0), .val (.int p1)] [(.ref r0)])
                      obtain ⟨cq21, kq21, q21a, q21b, q21c⟩ := isOf hZ e0 E_r0
                      obtain ⟨_, _, ⟨T21, L21, k21, n21⟩, -, X21, ⟨Lc21, hQ21, l21, y21, z21⟩, st21⟩ := X0.virtualBack hx (y := (⟨"com/example/hot_pool/hotpool/stats/HotPoolStatistics", "getStatementCacheEvictions", "()J"⟩ : MethodName)) (z := (⟨"com/example/hot_pool/hotpool/stats/HotPoolStatistics", "getStatementCacheEvictions", "()J"⟩ : MethodName)) hown (mvT hZ (hw _ (List.mem_of_getElem? (i := 179) rfl))) (mvT hZ (hw _ (List.mem_of_getElem? (i := 180) rfl))) (notFace_of_selects (args := #[]) (mvT hZ (hw _ (List.mem_of_getElem? (i := 182) rfl)))) (mvT hZ (hw _ (List.mem_of_getElem? (i := 182) rfl))) (mvT hZ (hw _ (List.mem_of_getElem? (i := 181) rfl))) (by decide) (backOf (W := 0) (rm21 l Z a0 hw [] r0 aa ka xs es  h0 n0 Z0 E_r0 F_counts_r0 V_aa hG O0) hZ (hw _ (List.mem_of_getElem? (i := 183) rfl)) (hw _ (List.mem_of_getElem? (i := 95) rfl)) (by decide) (by decide)) q21a q21c (g := (mkF m 104 #[.val (.ref r0), .val (.int p1)] [(.ref r0)])) rfl (by rw [hml]; rfl) (Steps.refl _) (argsL := []) (rest := []) (lenOf pd__28_29J rfl) rfl (by show 2 * 0 + _ ≤ _; exact Nat.le_of_eq rfl) (hb hby d9_104) (fun _ _ => ⟨rfl, e0, (by decide : 0 + 0 ≤ _), (by decide : 0 + 0 ≤ _)⟩)
                      dsimp only [Pt.U, Pt.locs, Pt.cells, Pt.slots] at X21 l21 y21 z21 st21 hQ21
                      subst l21 y21 z21
                      obtain ⟨rfl, N21q, e21⟩ := hQ21
                      obtain ⟨_, X21, N21⟩ := own_hide X21 (Fr.app N0 N21q)
                      refine own_tr st21 ?_
                      show own_Go _ _ _ _ T21 (mkF m 107 #[.val (.ref r0), .val (.int p1)] [(.long (xs.getD ((10 : Int32)).toNatClampNeg 0))])
                      exact own_retJ X21 hx hlk hrt (hb hby d9_107) ⟨(by rw [own_ten hq c1_1 c11_3 c21_5 c31_7 c41_9 c51_11 c62_13 c73_15 c84_17 c95_19]), N21, e21⟩ (by decide) (by decide)
theorem own_gs (xs : List Int64) (i j : Nat) (v : Int64) (hi : i < xs.length) : (xs.set i v).getD j 0 = if i = j then v else xs.getD j 0 := by
  simp only [List.getD_eq_getElem?_getD, List.getElem?_set]
  by_cases q : i = j
  · subst q; simp [hi]
  · simp [q]
theorem own_fin (i0 i1 i2 q : Int32) (b : Int64) (h0 : ¬ i0 < 0 ∧ i0 < 11) (h1 : ¬ i1 < 0 ∧ i1 < 11) (h2 : ¬ i2 < 0 ∧ i2 < 11) (hq : ¬ q < 0 ∧ q < 11) (x1 x2 x3 : List Int64)
    (e1 : x1 = own_z11.set i0.toNatClampNeg (own_z11.getD i0.toNatClampNeg 0 + b)) (e2 : x2 = x1.set i1.toNatClampNeg (x1.getD i1.toNatClampNeg 0 + 1)) (e3 : x3 = x2.set i2.toNatClampNeg (x2.getD i2.toNatClampNeg 0 + 1)) :
    x3.getD q.toNatClampNeg 0 = (let y0 := if q = i0 then (0 : Int64) + b else 0; let y1 := if q = i1 then y0 + 1 else y0; if q = i2 then y1 + 1 else y1) := by
  have n0 := (own_nat h0).1; have n1 := (own_nat h1).1; have n2 := (own_nat h2).1
  have l1 : x1.length = 11 := by rw [e1, List.length_set]; rfl
  have l2 : x2.length = 11 := by rw [e2, List.length_set]; exact l1
  have iff0 : ∀ {i : Int32}, (¬ i < 0 ∧ i < 11) → (i.toNatClampNeg = q.toNatClampNeg ↔ q = i) := fun {i} h => ⟨fun z => (own_inj h hq z).symm, fun z => by rw [z]⟩
  have s1 : ∀ j, x1.getD j 0 = if i0.toNatClampNeg = j then (0 : Int64) + b else 0 := fun j => by rw [e1, own_gs _ _ _ _ n0, own_zg, own_zg]
  have s2 : ∀ j, x2.getD j 0 = if i1.toNatClampNeg = j then x1.getD j 0 + 1 else x1.getD j 0 := fun j => by
    rw [e2, own_gs _ _ _ _ (by rw [l1]; exact n1)]
    split
    · rename_i z; rw [z]
    · rfl
  have s3 : x3.getD q.toNatClampNeg 0 = if i2.toNatClampNeg = q.toNatClampNeg then x2.getD q.toNatClampNeg 0 + 1 else x2.getD q.toNatClampNeg 0 := by
    rw [e3, own_gs _ _ _ _ (by rw [l2]; exact n2)]
    split
    · rename_i z; rw [z]
    · rfl
  rw [s3, s2, s1]
  simp only [iff0 h0, iff0 h1, iff0 h2]

theorem pd__28_29V : parseMethodDescriptor "()V" = some ⟨[], none⟩ := by decide +kernel
theorem pd_146385 : parseMethodDescriptor "(Lcom/example/hot_pool/hotpool/stats/PoolEvent;)V" = some ⟨[(.object "com/example/hot_pool/hotpool/stats/PoolEvent")], none⟩ := by decide +kernel
theorem own_sA {a0 : Array Value} {Z : State} (hw : ∀ d ∈ tables_1, d.before a0 Z = true) : ∀ a ∈ Bundle.stringAtoms, a.before a0 Z = true := by
  intro a ha
  simp only [Bundle.stringAtoms, List.mem_cons, List.not_mem_nil, or_false] at ha
  rcases ha with rfl | rfl | rfl | rfl | rfl | rfl | rfl
  · exact (hw _ (List.mem_of_getElem? (i := 75) rfl))
  · exact (hw _ (List.mem_of_getElem? (i := 76) rfl))
  · exact (hw _ (List.mem_of_getElem? (i := 77) rfl))
  · exact (hw _ (List.mem_of_getElem? (i := 78) rfl))
  · exact (hw _ (List.mem_of_getElem? (i := 79) rfl))
  · exact (hw _ (List.mem_of_getElem? (i := 80) rfl))
  · exact (hw _ (List.mem_of_getElem? (i := 81) rfl))
theorem pd_843233 : parseMethodDescriptor "(Ljava/lang/String;ZJJLcom/example/hot_pool/hotpool/stats/PoolCounts;)Lcom/example/hot_pool/hotpool/stats/HotPoolStatistics;" = some ⟨[(.object "java/lang/String"), .boolean, .long, .long, (.object "com/example/hot_pool/hotpool/stats/PoolCounts")], some (.object "com/example/hot_pool/hotpool/stats/HotPoolStatistics")⟩ := by decide +kernel
theorem pd_200029 : parseMethodDescriptor "(Lcom/example/hot_pool/hotpool/stats/HotPoolStatistics;I)J" = some ⟨[(.object "com/example/hot_pool/hotpool/stats/HotPoolStatistics"), .int], some .long⟩ := by decide +kernel
/-! body 0: PoolCountsAddPinLaw.law -/
theorem ef_0 (m : MethodId) (x0 : Int32) (x1 : Int32) (x2 : Int32) (x3 : Int32) (x4 : Int64) : entryFrame m #[(.int x0), (.int x1), (.int x2), (.int x3), (.long x4)] maxLocals = mkF m 0 #[.val (.int x0), .val (.int x1), .val (.int x2), .val (.int x3), .val (.long x4), .second, .unset, .unset, .unset, .unset, .unset, .unset, .unset, .unset, .unset, .unset] [] := by first | (simp [entryFrame, mkF, argsToLocals, Value.category, maxLocals]; done) | rfl
def Q0 (Z : State) (p0 : Int32) (p1 : Int32) (p2 : Int32) (p3 : Int32) (q4 : Int64) (va : Addr) (cv : Cell) (es : List Addr) (h0 : Heap) (n0 : Nat) (v : Option Value) (h : Heap) (L : List Loc) : Prop := v = some (.int (1 : Int32)) ∧ Fr n0 L
set_option maxRecDepth 65536 in
set_option maxHeartbeats 40000000 in
theorem rm0 (l : Launch) (Z : State) (a0 : Array Value) (hw : ∀ d ∈ tables_1, d.before a0 Z = true) (ws : List Jvm.Cond) (p0 : Int32) (p1 : Int32) (p2 : Int32) (p3 : Int32) (q4 : Int64) (va : Addr) (cv : Cell) (es : List Addr) (h0 : Heap) (n0 : Nat) (Z0 : n0 ≤ h0.size) (hV : own_V Z va cv) (hG : own_G Z es) (O0 : Old Z n0 h0) :
    MetFree l x (head1 (Jvm.Cond.code x code maxLocals ret :: ws) room_1) (fun a U => a = #[(.int p0), (.int p1), (.int p2), (.int p3), (.long q4)] ∧ Z.Warmed39 U.vm ∧ U.heap = h0) (fun _ _ _ _ _ => True) (fun _ U o U' => ∃ v L, o = .returned v ∧ Q0 Z p0 p1 p2 p3 q4 va cv es h0 n0 v U'.heap L ∧ ReturnedEndW U o U' L 11 81) := by
  refine MetFree.of_bodySF (plainFor_of_name pn_com_example_hot_pool_hotpool_stats_PoolCountsAddPinLaw) hisR ?_
  intro p e s m args below meth c s₁ Bd hml0 hP hK
  obtain ⟨rfl, hZ, hh⟩ := hP
  have hx := Bd.exec
  have hby := Bd.bytes
  have hlk := Bd.notSynchronized
  have hrt := Bd.returns
  have hml : c.maxLocals = 16 := hml0
  have hown : s.vm.findClass "com/example/hot_pool/hotpool/stats/PoolCountsAddPinLaw" = some m.cls := findClass_of_methodNamed Bd.named
  have hnm := (name_of_methodNamed Bd.named Bd.method).1
  have X0 : Stand p l e room_1 (s.setVm s.vm) m #[(.int p0), (.int p1), (.int p2), (.int p3), (.long q4)] below meth c s₁ [] 0 0 := Stand.of_body Bd
  have e0 : s₁.heap = h0 := by rw [← hh, Bd.state]; rfl
  have N0 := Fr.nil n0
  have K0 := Keep.refl h0 []
  have hS0 : s.Since s.vm 0 := (State.WarmedH.refl s).since 0
  have hk0 : 0 ≤ h0.size := Nat.zero_le _
  refine own_outW (Q := Q0 Z p0 p1 p2 p3 q4 va cv es h0 n0) ?_
  refine own_in (ef_0 m p0 p1 p2 p3 q4) ?_
  show own_Go _ _ _ _ s₁ (mkF m 0 #[.val (.int p0), .val (.int p1), .val (.int p2), .val (.int p3), .val (.long q4), .second, .unset, .unset, .unset, .unset, .unset, .unset, .unset, .unset, .unset, .unset] [])
  refine own_st (fun t k => XS.bipush X0.here hx rfl (hb hby at_0) k) ?_
  show own_Go _ _ _ _ s₁ (mkF m 2 #[.val (.int p0), .val (.int p1), .val (.int p2), .val (.int p3), .val (.long q4), .second, .unset, .unset, .unset, .unset, .unset, .unset, .unset, .unset, .unset, .unset] [(.int (11 : Int32))])
  obtain ⟨T1, h1, k1, X1, e1, E1, A1, O1, st1⟩ := newR X0 hx hZ hown (hw _ (List.mem_of_getElem? (i := 0) rfl)) (hw _ (List.mem_of_getElem? (i := 1) rfl)) e0 (g := (mkF m 2 #[.val (.int p0), .val (.int p1), .val (.int p2), .val (.int p3), .val (.long q4), .second, .unset, .unset, .unset, .unset, .unset, .unset, .unset, .unset, .unset, .unset] [(.int (11 : Int32))])) rfl (hb hby at_2) rfl (by decide) (cap := 11) (by decide) (by decide) (by decide) (by decide)
  obtain ⟨b1, g1⟩ : ∃ z, z = h0.size := ⟨_, rfl⟩
  rw [← g1] at A1 st1
  have sz_b1 : h0.size ≤ b1 := Nat.le_trans K0.1 (Nat.le_of_eq g1.symm)
  have g_b1 : n0 ≤ b1 := Nat.le_trans Z0 sz_b1
  have V1 : Arv Z h1 b1 k1 (.object "com/example/hot_pool/hotpool/stats/PoolEvent") (11 : Int32) [.null, .null, .null, .null, .null, .null, .null, .null, .null, .null, .null] .null := (Arv.new A1 (by decide)).pad (pad_rep [] .null 11)
  refine own_st st1 ?_
  show own_Go _ _ _ _ T1 (mkF m 5 #[.val (.int p0), .val (.int p1), .val (.int p2), .val (.int p3), .val (.long q4), .second, .unset, .unset, .unset, .unset, .unset, .unset, .unset, .unset, .unset, .unset] [(.ref b1)])
  refine own_st (fun t k => XS.dup X1.here hx rfl (hb hby at_5) rfl rfl k) ?_
  show own_Go _ _ _ _ T1 (mkF m 6 #[.val (.int p0), .val (.int p1), .val (.int p2), .val (.int p3), .val (.long q4), .second, .unset, .unset, .unset, .unset, .unset, .unset, .unset, .unset, .unset, .unset] [(.ref b1), (.ref b1)])
  refine own_st (fun t k => XS.iconst X1.here hx rfl (hb hby at_6) k) ?_
  show own_Go _ _ _ _ T1 (mkF m 7 #[.val (.int p0), .val (.int p1), .val (.int p2), .val (.int p3), .val (.long q4), .second, .unset, .unset, .unset, .unset, .unset, .unset, .unset, .unset, .unset, .unset] [(.int (0 : Int32)), (.ref b1), (.ref b1)])
  have O0_2 := (O0.ext E1)
  obtain ⟨T3, X3, e3, st3⟩ := getS2 X1 hx hZ hown (host := "") (Or.inl (hw _ (List.mem_of_getElem? (i := 2) rfl))) Via.refl e1 ((own_S0 hG).ext O0_2.2) (g := (mkF m 7 #[.val (.int p0), .val (.int p1), .val (.int p2), .val (.int p3), .val (.long q4), .second, .unset, .unset, .unset, .unset, .unset, .unset, .unset, .unset, .unset, .unset] [(.int (0 : Int32)), (.ref b1), (.ref b1)])) rfl (hb hby at_7)
  refine own_st st3 ?_
  show own_Go _ _ _ _ T3 (mkF m 10 #[.val (.int p0), .val (.int p1), .val (.int p2), .val (.int p3), .val (.long q4), .second, .unset, .unset, .unset, .unset, .unset, .unset, .unset, .unset, .unset, .unset] [(.ref (es.getD 0 0)), (.int (0 : Int32)), (.ref b1), (.ref b1)])
  have K0_4 := (K0.ext E1)
  obtain ⟨cl5, Ar5, qk5, Sz5, Nn5, Hs5, Gf5⟩ := id V1
  have hin5 : ¬ ((0 : Int32) < 0 ∨ cl5.slots.size ≤ ((0 : Int32)).toNatClampNeg) := inb_of Sz5 ⟨by decide, by decide⟩
  obtain ⟨T6, h6, X6, e6, W6, st6⟩ := stR X3 hx hZ e3 Ar5 (j := (0 : Int32)) hin5 rfl (Sto.ofV Ar5 qk5 O1 (Ins.self ((own_E0 hG).ext O0_2.2))) (g := (mkF m 10 #[.val (.int p0), .val (.int p1), .val (.int p2), .val (.int p3), .val (.long q4), .second, .unset, .unset, .unset, .unset, .unset, .unset, .unset, .unset, .unset, .unset] [(.ref (es.getD 0 0)), (.int (0 : Int32)), (.ref b1), (.ref b1)])) rfl rfl (hb hby at_10)
  have V6 : Arv Z h6 b1 k1 (.object "com/example/hot_pool/hotpool/stats/PoolEvent") (11 : Int32) [(.ref (es.getD 0 0)), .null, .null, .null, .null, .null, .null, .null, .null, .null, .null] .null := Arv.set Ar5 qk5 Sz5 Nn5 Hs5 Gf5 rfl W6 0 rfl (Nat.le_of_ble_eq_true rfl)
  obtain ⟨_, X6, N6⟩ := own_hide X6 (Fr.snoc X6 N0 g_b1)
  refine own_st st6 ?_
  show own_Go _ _ _ _ T6 (mkF m 11 #[.val (.int p0), .val (.int p1), .val (.int p2), .val (.int p3), .val (.long q4), .second, .unset, .unset, .unset, .unset, .unset, .unset, .unset, .unset, .unset, .unset] [(.ref b1)])
  refine own_st (fun t k => XS.dup X6.here hx rfl (hb hby at_11) rfl rfl k) ?_
  show own_Go _ _ _ _ T6 (mkF m 12 #[.val (.int p0), .val (.int p1), .val (.int p2), .val (.int p3), .val (.long q4), .second, .unset, .unset, .unset, .unset, .unset, .unset, .unset, .unset, .unset, .unset] [(.ref b1), (.ref b1)])
  refine own_st (fun t k => XS.iconst X6.here hx rfl (hb hby at_12) k) ?_
  show own_Go _ _ _ _ T6 (mkF m 13 #[.val (.int p0), .val (.int p1), .val (.int p2), .val (.int p3), .val (.long q4), .second, .unset, .unset, .unset, .unset, .unset, .unset, .unset, .unset, .unset, .unset] [(.int (1 : Int32)), (.ref b1), (.ref b1)])
  have O0_7 := (O0_2.wr W6 g_b1)
  obtain ⟨T8, X8, e8, st8⟩ := getS2 X6 hx hZ hown (host := "") (Or.inl (hw _ (List.mem_of_getElem? (i := 6) rfl))) Via.refl e6 ((own_S1 hG).ext O0_7.2) (g := (mkF m 13 #[.val (.int p0), .val (.int p1), .val (.int p2), .val (.int p3), .val (.long q4), .second, .unset, .unset, .unset, .unset, .unset, .unset, .unset, .unset, .unset, .unset] [(.int (1 : Int32)), (.ref b1), (.ref b1)])) rfl (hb hby at_13)
  refine own_st st8 ?_
  show own_Go _ _ _ _ T8 (mkF m 16 #[.val (.int p0), .val (.int p1), .val (.int p2), .val (.int p3), .val (.long q4), .second, .unset, .unset, .unset, .unset, .unset, .unset, .unset, .unset, .unset, .unset] [(.ref (es.getD 1 0)), (.int (1 : Int32)), (.ref b1), (.ref b1)])
  have K0_9 := (K0_4.wr W6 (Or.inr sz_b1))
  obtain ⟨cl10, Ar10, qk10, Sz10, Nn10, Hs10, Gf10⟩ := id V6
  have hin10 : ¬ ((1 : Int32) < 0 ∨ cl10.slots.size ≤ ((1 : Int32)).toNatClampNeg) := inb_of Sz10 ⟨by decide, by decide⟩
  obtain ⟨T11, h11, X11, e11, W11, st11⟩ := stR X8 hx hZ e8 Ar10 (j := (1 : Int32)) hin10 rfl (Sto.ofV Ar10 qk10 O1 (Ins.self ((own_E1 hG).ext O0_7.2))) (g := (mkF m 16 #[.val (.int p0), .val (.int p1), .val (.int p2), .val (.int p3), .val (.long q4), .second, .unset, .unset, .unset, .unset, .unset, .unset, .unset, .unset, .unset, .unset] [(.ref (es.getD 1 0)), (.int (1 : Int32)), (.ref b1), (.ref b1)])) rfl rfl (hb hby at_16)
  have V11 : Arv Z h11 b1 k1 (.object "com/example/hot_pool/hotpool/stats/PoolEvent") (11 : Int32) [(.ref (es.getD 0 0)), (.ref (es.getD 1 0)), .null, .null, .null, .null, .null, .null, .null, .null, .null] .null := Arv.set Ar10 qk10 Sz10 Nn10 Hs10 Gf10 rfl W11 1 rfl (Nat.le_of_ble_eq_true rfl)
  obtain ⟨_, X11, N11⟩ := own_hide X11 (Fr.snoc X11 N6 g_b1)
  refine own_st st11 ?_
  show own_Go _ _ _ _ T11 (mkF m 17 #[.val (.int p0), .val (.int p1), .val (.int p2), .val (.int p3), .val (.long q4), .second, .unset, .unset, .unset, .unset, .unset, .unset, .unset, .unset, .unset, .unset] [(.ref b1)])
  refine own_st (fun t k => XS.dup X11.here hx rfl (hb hby at_17) rfl rfl k) ?_
  show own_Go _ _ _ _ T11 (mkF m 18 #[.val (.int p0), .val (.int p1), .val (.int p2), .val (.int p3), .val (.long q4), .second, .unset, .unset, .unset, .unset, .unset, .unset, .unset, .unset, .unset, .unset] [(.ref b1), (.ref b1)])
  refine own_st (fun t k => XS.iconst X11.here hx rfl (hb hby at_18) k) ?_
  show own_Go _ _ _ _ T11 (mkF m 19 #[.val (.int p0), .val (.int p1), .val (.int p2), .val (.int p3), .val (.long q4), .second, .unset, .unset, .unset, .unset, .unset, .unset, .unset, .unset, .unset, .unset] [(.int (2 : Int32)), (.ref b1), (.ref b1)])
  have O0_12 := (O0_7.wr W11 g_b1)
  obtain ⟨T13, X13, e13, st13⟩ := getS2 X11 hx hZ hown (host := "") (Or.inl (hw _ (List.mem_of_getElem? (i := 8) rfl))) Via.refl e11 ((own_S2 hG).ext O0_12.2) (g := (mkF m 19 #[.val (.int p0), .val (.int p1), .val (.int p2), .val (.int p3), .val (.long q4), .second, .unset, .unset, .unset, .unset, .unset, .unset, .unset, .unset, .unset, .unset] [(.int (2 : Int32)), (.ref b1), (.ref b1)])) rfl (hb hby at_19)
  refine own_st st13 ?_
  show own_Go _ _ _ _ T13 (mkF m 22 #[.val (.int p0), .val (.int p1), .val (.int p2), .val (.int p3), .val (.long q4), .second, .unset, .unset, .unset, .unset, .unset, .unset, .unset, .unset, .unset, .unset] [(.ref (es.getD 2 0)), (.int (2 : Int32)), (.ref b1), (.ref b1)])
  have K0_14 := (K0_9.wr W11 (Or.inr sz_b1))
  obtain ⟨cl15, Ar15, qk15, Sz15, Nn15, Hs15, Gf15⟩ := id V11
  have hin15 : ¬ ((2 : Int32) < 0 ∨ cl15.slots.size ≤ ((2 : Int32)).toNatClampNeg) := inb_of Sz15 ⟨by decide, by decide⟩
  obtain ⟨T16, h16, X16, e16, W16, st16⟩ := stR X13 hx hZ e13 Ar15 (j := (2 : Int32)) hin15 rfl (Sto.ofV Ar15 qk15 O1 (Ins.self ((own_E2 hG).ext O0_12.2))) (g := (mkF m 22 #[.val (.int p0), .val (.int p1), .val (.int p2), .val (.int p3), .val (.long q4), .second, .unset, .unset, .unset, .unset, .unset, .unset, .unset, .unset, .unset, .unset] [(.ref (es.getD 2 0)), (.int (2 : Int32)), (.ref b1), (.ref b1)])) rfl rfl (hb hby at_22)
  have V16 : Arv Z h16 b1 k1 (.object "com/example/hot_pool/hotpool/stats/PoolEvent") (11 : Int32) [(.ref (es.getD 0 0)), (.ref (es.getD 1 0)), (.ref (es.getD 2 0)), .null, .null, .null, .null, .null, .null, .null, .null] .null := Arv.set Ar15 qk15 Sz15 Nn15 Hs15 Gf15 rfl W16 2 rfl (Nat.le_of_ble_eq_true rfl)
  obtain ⟨_, X16, N16⟩ := own_hide X16 (Fr.snoc X16 N11 g_b1)
  refine own_st st16 ?_
  show own_Go _ _ _ _ T16 (mkF m 23 #[.val (.int p0), .val (.int p1), .val (.int p2), .val (.int p3), .val (.long q4), .second, .unset, .unset, .unset, .unset, .unset, .unset, .unset, .unset, .unset, .unset] [(.ref b1)])
  refine own_st (fun t k => XS.dup X16.here hx rfl (hb hby at_23) rfl rfl k) ?_
  show own_Go _ _ _ _ T16 (mkF m 24 #[.val (.int p0), .val (.int p1), .val (.int p2), .val (.int p3), .val (.long q4), .second, .unset, .unset, .unset, .unset, .unset, .unset, .unset, .unset, .unset, .unset] [(.ref b1), (.ref b1)])
  refine own_st (fun t k => XS.iconst X16.here hx rfl (hb hby at_24) k) ?_
  show own_Go _ _ _ _ T16 (mkF m 25 #[.val (.int p0), .val (.int p1), .val (.int p2), .val (.int p3), .val (.long q4), .second, .unset, .unset, .unset, .unset, .unset, .unset, .unset, .unset, .unset, .unset] [(.int (3 : Int32)), (.ref b1), (.ref b1)])
  have O0_17 := (O0_12.wr W16 g_b1)
  obtain ⟨T18, X18, e18, st18⟩ := getS2 X16 hx hZ hown (host := "") (Or.inl (hw _ (List.mem_of_getElem? (i := 10) rfl))) Via.refl e16 ((own_S3 hG).ext O0_17.2) (g := (mkF m 25 #[.val (.int p0), .val (.int p1), .val (.int p2), .val (.int p3), .val (.long q4), .second, .unset, .unset, .unset, .unset, .unset, .unset, .unset, .unset, .unset, .unset] [(.int (3 : Int32)), (.ref b1), (.ref b1)])) rfl (hb hby at_25)
  refine own_st st18 ?_
  show own_Go _ _ _ _ T18 (mkF m 28 #[.val (.int p0), .val (.int p1), .val (.int p2), .val (.int p3), .val (.long q4), .second, .unset, .unset, .unset, .unset, .unset, .unset, .unset, .unset, .unset, .unset] [(.ref (es.getD 3 0)), (.int (3 : Int32)), (.ref b1), (.ref b1)])
  have K0_19 := (K0_14.wr W16 (Or.inr sz_b1))
  obtain ⟨cl20, Ar20, qk20, Sz20, Nn20, Hs20, Gf20⟩ := id V16
  have hin20 : ¬ ((3 : Int32) < 0 ∨ cl20.slots.size ≤ ((3 : Int32)).toNatClampNeg) := inb_of Sz20 ⟨by decide, by decide⟩
  obtain ⟨T21, h21, X21, e21, W21, st21⟩ := stR X18 hx hZ e18 Ar20 (j := (3 : Int32)) hin20 rfl (Sto.ofV Ar20 qk20 O1 (Ins.self ((own_E3 hG).ext O0_17.2))) (g := (mkF m 28 #[.val (.int p0), .val (.int p1), .val (.int p2), .val (.int p3), .val (.long q4), .second, .unset, .unset, .unset, .unset, .unset, .unset, .unset, .unset, .unset, .unset] [(.ref (es.getD 3 0)), (.int (3 : Int32)), (.ref b1), (.ref b1)])) rfl rfl (hb hby at_28)
  have V21 : Arv Z h21 b1 k1 (.object "com/example/hot_pool/hotpool/stats/PoolEvent") (11 : Int32) [(.ref (es.getD 0 0)), (.ref (es.getD 1 0)), (.ref (es.getD 2 0)), (.ref (es.getD 3 0)), .null, .null, .null, .null, .null, .null, .null] .null := Arv.set Ar20 qk20 Sz20 Nn20 Hs20 Gf20 rfl W21 3 rfl (Nat.le_of_ble_eq_true rfl)
  obtain ⟨_, X21, N21⟩ := own_hide X21 (Fr.snoc X21 N16 g_b1)
  refine own_st st21 ?_
  show own_Go _ _ _ _ T21 (mkF m 29 #[.val (.int p0), .val (.int p1), .val (.int p2), .val (.int p3), .val (.long q4), .second, .unset, .unset, .unset, .unset, .unset, .unset, .unset, .unset, .unset, .unset] [(.ref b1)])
  refine own_st (fun t k => XS.dup X21.here hx rfl (hb hby at_29) rfl rfl k) ?_
  show own_Go _ _ _ _ T21 (mkF m 30 #[.val (.int p0), .val (.int p1), .val (.int p2), .val (.int p3), .val (.long q4), .second, .unset, .unset, .unset, .unset, .unset, .unset, .unset, .unset, .unset, .unset] [(.ref b1), (.ref b1)])
  refine own_st (fun t k => XS.iconst X21.here hx rfl (hb hby at_30) k) ?_
  show own_Go _ _ _ _ T21 (mkF m 31 #[.val (.int p0), .val (.int p1), .val (.int p2), .val (.int p3), .val (.long q4), .second, .unset, .unset, .unset, .unset, .unset, .unset, .unset, .unset, .unset, .unset] [(.int (4 : Int32)), (.ref b1), (.ref b1)])
  have O0_22 := (O0_17.wr W21 g_b1)
  obtain ⟨T23, X23, e23, st23⟩ := getS2 X21 hx hZ hown (host := "") (Or.inl (hw _ (List.mem_of_getElem? (i := 12) rfl))) Via.refl e21 ((own_S4 hG).ext O0_22.2) (g := (mkF m 31 #[.val (.int p0), .val (.int p1), .val (.int p2), .val (.int p3), .val (.long q4), .second, .unset, .unset, .unset, .unset, .unset, .unset, .unset, .unset, .unset, .unset] [(.int (4 : Int32)), (.ref b1), (.ref b1)])) rfl (hb hby at_31)
  refine own_st st23 ?_
  show own_Go _ _ _ _ T23 (mkF m 34 #[.val (.int p0), .val (.int p1), .val (.int p2), .val (.int p3), .val (.long q4), .second, .unset, .unset, .unset, .unset, .unset, .unset, .unset, .unset, .unset, .unset] [(.ref (es.getD 4 0)), (.int (4 : Int32)), (.ref b1), (.ref b1)])
  have K0_24 := (K0_19.wr W21 (Or.inr sz_b1))
  obtain ⟨cl25, Ar25, qk25, Sz25, Nn25, Hs25, Gf25⟩ := id V21
  have hin25 : ¬ ((4 : Int32) < 0 ∨ cl25.slots.size ≤ ((4 : Int32)).toNatClampNeg) := inb_of Sz25 ⟨by decide, by decide⟩
  obtain ⟨T26, h26, X26, e26, W26, st26⟩ := stR X23 hx hZ e23 Ar25 (j := (4 : Int32)) hin25 rfl (Sto.ofV Ar25 qk25 O1 (Ins.self ((own_E4 hG).ext O0_22.2))) (g := (mkF m 34 #[.val (.int p0), .val (.int p1), .val (.int p2), .val (.int p3), .val (.long q4), .second, .unset, .unset, .unset, .unset, .unset, .unset, .unset, .unset, .unset, .unset] [(.ref (es.getD 4 0)), (.int (4 : Int32)), (.ref b1), (.ref b1)])) rfl rfl (hb hby at_34)
  have V26 : Arv Z h26 b1 k1 (.object "com/example/hot_pool/hotpool/stats/PoolEvent") (11 : Int32) [(.ref (es.getD 0 0)), (.ref (es.getD 1 0)), (.ref (es.getD 2 0)), (.ref (es.getD 3 0)), (.ref (es.getD 4 0)), .null, .null, .null, .null, .null, .null] .null := Arv.set Ar25 qk25 Sz25 Nn25 Hs25 Gf25 rfl W26 4 rfl (Nat.le_of_ble_eq_true rfl)
  obtain ⟨_, X26, N26⟩ := own_hide X26 (Fr.snoc X26 N21 g_b1)
  refine own_st st26 ?_
  show own_Go _ _ _ _ T26 (mkF m 35 #[.val (.int p0), .val (.int p1), .val (.int p2), .val (.int p3), .val (.long q4), .second, .unset, .unset, .unset, .unset, .unset, .unset, .unset, .unset, .unset, .unset] [(.ref b1)])
  refine own_st (fun t k => XS.dup X26.here hx rfl (hb hby at_35) rfl rfl k) ?_
  show own_Go _ _ _ _ T26 (mkF m 36 #[.val (.int p0), .val (.int p1), .val (.int p2), .val (.int p3), .val (.long q4), .second, .unset, .unset, .unset, .unset, .unset, .unset, .unset, .unset, .unset, .unset] [(.ref b1), (.ref b1)])
  refine own_st (fun t k => XS.iconst X26.here hx rfl (hb hby at_36) k) ?_
  show own_Go _ _ _ _ T26 (mkF m 37 #[.val (.int p0), .val (.int p1), .val (.int p2), .val (.int p3), .val (.long q4), .second, .unset, .unset, .unset, .unset, .unset, .unset, .unset, .unset, .unset, .unset] [(.int (5 : Int32)), (.ref b1), (.ref b1)])
  have O0_27 := (O0_22.wr W26 g_b1)
  obtain ⟨T28, X28, e28, st28⟩ := getS2 X26 hx hZ hown (host := "") (Or.inl (hw _ (List.mem_of_getElem? (i := 14) rfl))) Via.refl e26 ((own_S5 hG).ext O0_27.2) (g := (mkF m 37 #[.val (.int p0), .val (.int p1), .val (.int p2), .val (.int p3), .val (.long q4), .second, .unset, .unset, .unset, .unset, .unset, .unset, .unset, .unset, .unset, .unset] [(.int (5 : Int32)), (.ref b1), (.ref b1)])) rfl (hb hby at_37)
  refine own_st st28 ?_
  show own_Go _ _ _ _ T28 (mkF m 40 #[.val (.int p0), .val (.int p1), .val (.int p2), .val (.int p3), .val (.long q4), .second, .unset, .unset, .unset, .unset, .unset, .unset, .unset, .unset, .unset, .unset] [(.ref (es.getD 5 0)), (.int (5 : Int32)), (.ref b1), (.ref b1)])
  have K0_29 := (K0_24.wr W26 (Or.inr sz_b1))
  obtain ⟨cl30, Ar30, qk30, Sz30, Nn30, Hs30, Gf30⟩ := id V26
  have hin30 : ¬ ((5 : Int32) < 0 ∨ cl30.slots.size ≤ ((5 : Int32)).toNatClampNeg) := inb_of Sz30 ⟨by decide, by decide⟩
  obtain ⟨T31, h31, X31, e31, W31, st31⟩ := stR X28 hx hZ e28 Ar30 (j := (5 : Int32)) hin30 rfl (Sto.ofV Ar30 qk30 O1 (Ins.self ((own_E5 hG).ext O0_27.2))) (g := (mkF m 40 #[.val (.int p0), .val (.int p1), .val (.int p2), .val (.int p3), .val (.long q4), .second, .unset, .unset, .unset, .unset, .unset, .unset, .unset, .unset, .unset, .unset] [(.ref (es.getD 5 0)), (.int (5 : Int32)), (.ref b1), (.ref b1)])) rfl rfl (hb hby at_40)
  have V31 : Arv Z h31 b1 k1 (.object "com/example/hot_pool/hotpool/stats/PoolEvent") (11 : Int32) [(.ref (es.getD 0 0)), (.ref (es.getD 1 0)), (.ref (es.getD 2 0)), (.ref (es.getD 3 0)), (.ref (es.getD 4 0)), (.ref (es.getD 5 0)), .null, .null, .null, .null, .null] .null := Arv.set Ar30 qk30 Sz30 Nn30 Hs30 Gf30 rfl W31 5 rfl (Nat.le_of_ble_eq_true rfl)
  obtain ⟨_, X31, N31⟩ := own_hide X31 (Fr.snoc X31 N26 g_b1)
  refine own_st st31 ?_
  show own_Go _ _ _ _ T31 (mkF m 41 #[.val (.int p0), .val (.int p1), .val (.int p2), .val (.int p3), .val (.long q4), .second, .unset, .unset, .unset, .unset, .unset, .unset, .unset, .unset, .unset, .unset] [(.ref b1)])
  refine own_st (fun t k => XS.dup X31.here hx rfl (hb hby at_41) rfl rfl k) ?_
  show own_Go _ _ _ _ T31 (mkF m 42 #[.val (.int p0), .val (.int p1), .val (.int p2), .val (.int p3), .val (.long q4), .second, .unset, .unset, .unset, .unset, .unset, .unset, .unset, .unset, .unset, .unset] [(.ref b1), (.ref b1)])
  refine own_st (fun t k => XS.bipush X31.here hx rfl (hb hby at_42) k) ?_
  show own_Go _ _ _ _ T31 (mkF m 44 #[.val (.int p0), .val (.int p1), .val (.int p2), .val (.int p3), .val (.long q4), .second, .unset, .unset, .unset, .unset, .unset, .unset, .unset, .unset, .unset, .unset] [(.int (6 : Int32)), (.ref b1), (.ref b1)])
  have O0_32 := (O0_27.wr W31 g_b1)
  obtain ⟨T33, X33, e33, st33⟩ := getS2 X31 hx hZ hown (host := "") (Or.inl (hw _ (List.mem_of_getElem? (i := 16) rfl))) Via.refl e31 ((own_S6 hG).ext O0_32.2) (g := (mkF m 44 #[.val (.int p0), .val (.int p1), .val (.int p2), .val (.int p3), .val (.long q4), .second, .unset, .unset, .unset, .unset, .unset, .unset, .unset, .unset, .unset, .unset] [(.int (6 : Int32)), (.ref b1), (.ref b1)])) rfl (hb hby at_44)
  refine own_st st33 ?_
  show own_Go _ _ _ _ T33 (mkF m 47 #[.val (.int p0), .val (.int p1), .val (.int p2), .val (.int p3), .val (.long q4), .second, .unset, .unset, .unset, .unset, .unset, .unset, .unset, .unset, .unset, .unset] [(.ref (es.getD 6 0)), (.int (6 : Int32)), (.ref b1), (.ref b1)])
  have K0_34 := (K0_29.wr W31 (Or.inr sz_b1))
  obtain ⟨cl35, Ar35, qk35, Sz35, Nn35, Hs35, Gf35⟩ := id V31
  have hin35 : ¬ ((6 : Int32) < 0 ∨ cl35.slots.size ≤ ((6 : Int32)).toNatClampNeg) := inb_of Sz35 ⟨by decide, by decide⟩
  obtain ⟨T36, h36, X36, e36, W36, st36⟩ := stR X33 hx hZ e33 Ar35 (j := (6 : Int32)) hin35 rfl (Sto.ofV Ar35 qk35 O1 (Ins.self ((own_E6 hG).ext O0_32.2))) (g := (mkF m 47 #[.val (.int p0), .val (.int p1), .val (.int p2), .val (.int p3), .val (.long q4), .second, .unset, .unset, .unset, .unset, .unset, .unset, .unset, .unset, .unset, .unset] [(.ref (es.getD 6 0)), (.int (6 : Int32)), (.ref b1), (.ref b1)])) rfl rfl (hb hby at_47)
  have V36 : Arv Z h36 b1 k1 (.object "com/example/hot_pool/hotpool/stats/PoolEvent") (11 : Int32) [(.ref (es.getD 0 0)), (.ref (es.getD 1 0)), (.ref (es.getD 2 0)), (.ref (es.getD 3 0)), (.ref (es.getD 4 0)), (.ref (es.getD 5 0)), (.ref (es.getD 6 0)), .null, .null, .null, .null] .null := Arv.set Ar35 qk35 Sz35 Nn35 Hs35 Gf35 rfl W36 6 rfl (Nat.le_of_ble_eq_true rfl)
  obtain ⟨_, X36, N36⟩ := own_hide X36 (Fr.snoc X36 N31 g_b1)
  refine own_st st36 ?_
  show own_Go _ _ _ _ T36 (mkF m 48 #[.val (.int p0), .val (.int p1), .val (.int p2), .val (.int p3), .val (.long q4), .second, .unset, .unset, .unset, .unset, .unset, .unset, .unset, .unset, .unset, .unset] [(.ref b1)])
  refine own_st (fun t k => XS.dup X36.here hx rfl (hb hby at_48) rfl rfl k) ?_
  show own_Go _ _ _ _ T36 (mkF m 49 #[.val (.int p0), .val (.int p1), .val (.int p2), .val (.int p3), .val (.long q4), .second, .unset, .unset, .unset, .unset, .unset, .unset, .unset, .unset, .unset, .unset] [(.ref b1), (.ref b1)])
  refine own_st (fun t k => XS.bipush X36.here hx rfl (hb hby at_49) k) ?_
  show own_Go _ _ _ _ T36 (mkF m 51 #[.val (.int p0), .val (.int p1), .val (.int p2), .val (.int p3), .val (.long q4), .second, .unset, .unset, .unset, .unset, .unset, .unset, .unset, .unset, .unset, .unset] [(.int (7 : Int32)), (.ref b1), (.ref b1)])
  have O0_37 := (O0_32.wr W36 g_b1)
  obtain ⟨T38, X38, e38, st38⟩ := getS2 X36 hx hZ hown (host := "") (Or.inl (hw _ (List.mem_of_getElem? (i := 18) rfl))) Via.refl e36 ((own_S7 hG).ext O0_37.2) (g := (mkF m 51 #[.val (.int p0), .val (.int p1), .val (.int p2), .val (.int p3), .val (.long q4), .second, .unset, .unset, .unset, .unset, .unset, .unset, .unset, .unset, .unset, .unset] [(.int (7 : Int32)), (.ref b1), (.ref b1)])) rfl (hb hby at_51)
  refine own_st st38 ?_
  show own_Go _ _ _ _ T38 (mkF m 54 #[.val (.int p0), .val (.int p1), .val (.int p2), .val (.int p3), .val (.long q4), .second, .unset, .unset, .unset, .unset, .unset, .unset, .unset, .unset, .unset, .unset] [(.ref (es.getD 7 0)), (.int (7 : Int32)), (.ref b1), (.ref b1)])
  have K0_39 := (K0_34.wr W36 (Or.inr sz_b1))
  obtain ⟨cl40, Ar40, qk40, Sz40, Nn40, Hs40, Gf40⟩ := id V36
  have hin40 : ¬ ((7 : Int32) < 0 ∨ cl40.slots.size ≤ ((7 : Int32)).toNatClampNeg) := inb_of Sz40 ⟨by decide, by decide⟩
  obtain ⟨T41, h41, X41, e41, W41, st41⟩ := stR X38 hx hZ e38 Ar40 (j := (7 : Int32)) hin40 rfl (Sto.ofV Ar40 qk40 O1 (Ins.self ((own_E7 hG).ext O0_37.2))) (g := (mkF m 54 #[.val (.int p0), .val (.int p1), .val (.int p2), .val (.int p3), .val (.long q4), .second, .unset, .unset, .unset, .unset, .unset, .unset, .unset, .unset, .unset, .unset] [(.ref (es.getD 7 0)), (.int (7 : Int32)), (.ref b1), (.ref b1)])) rfl rfl (hb hby at_54)
  have V41 : Arv Z h41 b1 k1 (.object "com/example/hot_pool/hotpool/stats/PoolEvent") (11 : Int32) [(.ref (es.getD 0 0)), (.ref (es.getD 1 0)), (.ref (es.getD 2 0)), (.ref (es.getD 3 0)), (.ref (es.getD 4 0)), (.ref (es.getD 5 0)), (.ref (es.getD 6 0)), (.ref (es.getD 7 0)), .null, .null, .null] .null := Arv.set Ar40 qk40 Sz40 Nn40 Hs40 Gf40 rfl W41 7 rfl (Nat.le_of_ble_eq_true rfl)
  obtain ⟨_, X41, N41⟩ := own_hide X41 (Fr.snoc X41 N36 g_b1)
  refine own_st st41 ?_
  show own_Go _ _ _ _ T41 (mkF m 55 #[.val (.int p0), .val (.int p1), .val (.int p2), .val (.int p3), .val (.long q4), .second, .unset, .unset, .unset, .unset, .unset, .unset, .unset, .unset, .unset, .unset] [(.ref b1)])
  refine own_st (fun t k => XS.dup X41.here hx rfl (hb hby at_55) rfl rfl k) ?_
  show own_Go _ _ _ _ T41 (mkF m 56 #[.val (.int p0), .val (.int p1), .val (.int p2), .val (.int p3), .val (.long q4), .second, .unset, .unset, .unset, .unset, .unset, .unset, .unset, .unset, .unset, .unset] [(.ref b1), (.ref b1)])
  refine own_st (fun t k => XS.bipush X41.here hx rfl (hb hby at_56) k) ?_
  show own_Go _ _ _ _ T41 (mkF m 58 #[.val (.int p0), .val (.int p1), .val (.int p2), .val (.int p3), .val (.long q4), .second, .unset, .unset, .unset, .unset, .unset, .unset, .unset, .unset, .unset, .unset] [(.int (8 : Int32)), (.ref b1), (.ref b1)])
  have O0_42 := (O0_37.wr W41 g_b1)
  obtain ⟨T43, X43, e43, st43⟩ := getS2 X41 hx hZ hown (host := "") (Or.inl (hw _ (List.mem_of_getElem? (i := 20) rfl))) Via.refl e41 ((own_S8 hG).ext O0_42.2) (g := (mkF m 58 #[.val (.int p0), .val (.int p1), .val (.int p2), .val (.int p3), .val (.long q4), .second, .unset, .unset, .unset, .unset, .unset, .unset, .unset, .unset, .unset, .unset] [(.int (8 : Int32)), (.ref b1), (.ref b1)])) rfl (hb hby at_58)
  refine own_st st43 ?_
  show own_Go _ _ _ _ T43 (mkF m 61 #[.val (.int p0), .val (.int p1), .val (.int p2), .val (.int p3), .val (.long q4), .second, .unset, .unset, .unset, .unset, .unset, .unset, .unset, .unset, .unset, .unset] [(.ref (es.getD 8 0)), (.int (8 : Int32)), (.ref b1), (.ref b1)])
  have K0_44 := (K0_39.wr W41 (Or.inr sz_b1))
  obtain ⟨cl45, Ar45, qk45, Sz45, Nn45, Hs45, Gf45⟩ := id V41
  have hin45 : ¬ ((8 : Int32) < 0 ∨ cl45.slots.size ≤ ((8 : Int32)).toNatClampNeg) := inb_of Sz45 ⟨by decide, by decide⟩
  obtain ⟨T46, h46, X46, e46, W46, st46⟩ := stR X43 hx hZ e43 Ar45 (j := (8 : Int32)) hin45 rfl (Sto.ofV Ar45 qk45 O1 (Ins.self ((own_E8 hG).ext O0_42.2))) (g := (mkF m 61 #[.val (.int p0), .val (.int p1), .val (.int p2), .val (.int p3), .val (.long q4), .second, .unset, .unset, .unset, .unset, .unset, .unset, .unset, .unset, .unset, .unset] [(.ref (es.getD 8 0)), (.int (8 : Int32)), (.ref b1), (.ref b1)])) rfl rfl (hb hby at_61)
  have V46 : Arv Z h46 b1 k1 (.object "com/example/hot_pool/hotpool/stats/PoolEvent") (11 : Int32) [(.ref (es.getD 0 0)), (.ref (es.getD 1 0)), (.ref (es.getD 2 0)), (.ref (es.getD 3 0)), (.ref (es.getD 4 0)), (.ref (es.getD 5 0)), (.ref (es.getD 6 0)), (.ref (es.getD 7 0)), (.ref (es.getD 8 0)), .null, .null] .null := Arv.set Ar45 qk45 Sz45 Nn45 Hs45 Gf45 rfl W46 8 rfl (Nat.le_of_ble_eq_true rfl)
  obtain ⟨_, X46, N46⟩ := own_hide X46 (Fr.snoc X46 N41 g_b1)
  refine own_st st46 ?_
  show own_Go _ _ _ _ T46 (mkF m 62 #[.val (.int p0), .val (.int p1), .val (.int p2), .val (.int p3), .val (.long q4), .second, .unset, .unset, .unset, .unset, .unset, .unset, .unset, .unset, .unset, .unset] [(.ref b1)])
  refine own_st (fun t k => XS.dup X46.here hx rfl (hb hby at_62) rfl rfl k) ?_
  show own_Go _ _ _ _ T46 (mkF m 63 #[.val (.int p0), .val (.int p1), .val (.int p2), .val (.int p3), .val (.long q4), .second, .unset, .unset, .unset, .unset, .unset, .unset, .unset, .unset, .unset, .unset] [(.ref b1), (.ref b1)])
  refine own_st (fun t k => XS.bipush X46.here hx rfl (hb hby at_63) k) ?_
  show own_Go _ _ _ _ T46 (mkF m 65 #[.val (.int p0), .val (.int p1), .val (.int p2), .val (.int p3), .val (.long q4), .second, .unset, .unset, .unset, .unset, .unset, .unset, .unset, .unset, .unset, .unset] [(.int (9 : Int32)), (.ref b1), (.ref b1)])
  have O0_47 := (O0_42.wr W46 g_b1)
  obtain ⟨T48, X48, e48, st48⟩ := getS2 X46 hx hZ hown (host := "") (Or.inl (hw _ (List.mem_of_getElem? (i := 22) rfl))) Via.refl e46 ((own_S9 hG).ext O0_47.2) (g := (mkF m 65 #[.val (.int p0), .val (.int p1), .val (.int p2), .val (.int p3), .val (.long q4), .second, .unset, .unset, .unset, .unset, .unset, .unset, .unset, .unset, .unset, .unset] [(.int (9 : Int32)), (.ref b1), (.ref b1)])) rfl (hb hby at_65)
  refine own_st st48 ?_
  show own_Go _ _ _ _ T48 (mkF m 68 #[.val (.int p0), .val (.int p1), .val (.int p2), .val (.int p3), .val (.long q4), .second, .unset, .unset, .unset, .unset, .unset, .unset, .unset, .unset, .unset, .unset] [(.ref (es.getD 9 0)), (.int (9 : Int32)), (.ref b1), (.ref b1)])
  have K0_49 := (K0_44.wr W46 (Or.inr sz_b1))
  obtain ⟨cl50, Ar50, qk50, Sz50, Nn50, Hs50, Gf50⟩ := id V46
  have hin50 : ¬ ((9 : Int32) < 0 ∨ cl50.slots.size ≤ ((9 : Int32)).toNatClampNeg) := inb_of Sz50 ⟨by decide, by decide⟩
  obtain ⟨T51, h51, X51, e51, W51, st51⟩ := stR X48 hx hZ e48 Ar50 (j := (9 : Int32)) hin50 rfl (Sto.ofV Ar50 qk50 O1 (Ins.self ((own_E9 hG).ext O0_47.2))) (g := (mkF m 68 #[.val (.int p0), .val (.int p1), .val (.int p2), .val (.int p3), .val (.long q4), .second, .unset, .unset, .unset, .unset, .unset, .unset, .unset, .unset, .unset, .unset] [(.ref (es.getD 9 0)), (.int (9 : Int32)), (.ref b1), (.ref b1)])) rfl rfl (hb hby at_68)
  have V51 : Arv Z h51 b1 k1 (.object "com/example/hot_pool/hotpool/stats/PoolEvent") (11 : Int32) [(.ref (es.getD 0 0)), (.ref (es.getD 1 0)), (.ref (es.getD 2 0)), (.ref (es.getD 3 0)), (.ref (es.getD 4 0)), (.ref (es.getD 5 0)), (.ref (es.getD 6 0)), (.ref (es.getD 7 0)), (.ref (es.getD 8 0)), (.ref (es.getD 9 0)), .null] .null := Arv.set Ar50 qk50 Sz50 Nn50 Hs50 Gf50 rfl W51 9 rfl (Nat.le_of_ble_eq_true rfl)
  obtain ⟨_, X51, N51⟩ := own_hide X51 (Fr.snoc X51 N46 g_b1)
  refine own_st st51 ?_
  show own_Go _ _ _ _ T51 (mkF m 69 #[.val (.int p0), .val (.int p1), .val (.int p2), .val (.int p3), .val (.long q4), .second, .unset, .unset, .unset, .unset, .unset, .unset, .unset, .unset, .unset, .unset] [(.ref b1)])
  refine own_st (fun t k => XS.dup X51.here hx rfl (hb hby at_69) rfl rfl k) ?_
  show own_Go _ _ _ _ T51 (mkF m 70 #[.val (.int p0), .val (.int p1), .val (.int p2), .val (.int p3), .val (.long q4), .second, .unset, .unset, .unset, .unset, .unset, .unset, .unset, .unset, .unset, .unset] [(.ref b1), (.ref b1)])
  refine own_st (fun t k => XS.bipush X51.here hx rfl (hb hby at_70) k) ?_
  show own_Go _ _ _ _ T51 (mkF m 72 #[.val (.int p0), .val (.int p1), .val (.int p2), .val (.int p3), .val (.long q4), .second, .unset, .unset, .unset, .unset, .unset, .unset, .unset, .unset, .unset, .unset] [(.int (10 : Int32)), (.ref b1), (.ref b1)])
  have O0_52 := (O0_47.wr W51 g_b1)
  obtain ⟨T53, X53, e53, st53⟩ := getS2 X51 hx hZ hown (host := "") (Or.inl (hw _ (List.mem_of_getElem? (i := 24) rfl))) Via.refl e51 ((own_S10 hG).ext O0_52.2) (g := (mkF m 72 #[.val (.int p0), .val (.int p1), .val (.int p2), .val (.int p3), .val (.long q4), .second, .unset, .unset, .unset, .unset, .unset, .unset, .unset, .unset, .unset, .unset] [(.int (10 : Int32)), (.ref b1), (.ref b1)])) rfl (hb hby at_72)
  refine own_st st53 ?_
  show own_Go _ _ _ _ T53 (mkF m 75 #[.val (.int p0), .val (.int p1), .val (.int p2), .val (.int p3), .val (.long q4), .second, .unset, .unset, .unset, .unset, .unset, .unset, .unset, .unset, .unset, .unset] [(.ref (es.getD 10 0)), (.int (10 : Int32)), (.ref b1), (.ref b1)])
  have K0_54 := (K0_49.wr W51 (Or.inr sz_b1))
  obtain ⟨cl55, Ar55, qk55, Sz55, Nn55, Hs55, Gf55⟩ := id V51
  have hin55 : ¬ ((10 : Int32) < 0 ∨ cl55.slots.size ≤ ((10 : Int32)).toNatClampNeg) := inb_of Sz55 ⟨by decide, by decide⟩
  obtain ⟨T56, h56, X56, e56, W56, st56⟩ := stR X53 hx hZ e53 Ar55 (j := (10 : Int32)) hin55 rfl (Sto.ofV Ar55 qk55 O1 (Ins.self ((own_E10 hG).ext O0_52.2))) (g := (mkF m 75 #[.val (.int p0), .val (.int p1), .val (.int p2), .val (.int p3), .val (.long q4), .second, .unset, .unset, .unset, .unset, .unset, .unset, .unset, .unset, .unset, .unset] [(.ref (es.getD 10 0)), (.int (10 : Int32)), (.ref b1), (.ref b1)])) rfl rfl (hb hby at_75)
  have V56 : Arv Z h56 b1 k1 (.object "com/example/hot_pool/hotpool/stats/PoolEvent") (11 : Int32) [(.ref (es.getD 0 0)), (.ref (es.getD 1 0)), (.ref (es.getD 2 0)), (.ref (es.getD 3 0)), (.ref (es.getD 4 0)), (.ref (es.getD 5 0)), (.ref (es.getD 6 0)), (.ref (es.getD 7 0)), (.ref (es.getD 8 0)), (.ref (es.getD 9 0)), (.ref (es.getD 10 0))] .null := Arv.set Ar55 qk55 Sz55 Nn55 Hs55 Gf55 rfl W56 10 rfl (Nat.le_of_ble_eq_true rfl)
  obtain ⟨_, X56, N56⟩ := own_hide X56 (Fr.snoc X56 N51 g_b1)
  refine own_st st56 ?_
  show own_Go _ _ _ _ T56 (mkF m 76 #[.val (.int p0), .val (.int p1), .val (.int p2), .val (.int p3), .val (.long q4), .second, .unset, .unset, .unset, .unset, .unset, .unset, .unset, .unset, .unset, .unset] [(.ref b1)])
  refine own_st (fun t k => XS.astore X56.here hx rfl (hb hby at_76) rfl rfl (l' := #[.val (.int p0), .val (.int p1), .val (.int p2), .val (.int p3), .val (.long q4), .second, .val (.ref b1), .unset, .unset, .unset, .unset, .unset, .unset, .unset, .unset, .unset]) rfl k) ?_
  show own_Go _ _ _ _ T56 (mkF m 78 #[.val (.int p0), .val (.int p1), .val (.int p2), .val (.int p3), .val (.long q4), .second, .val (.ref b1), .unset, .unset, .unset, .unset, .unset, .unset, .unset, .unset, .unset] [])
  refine own_st (fun t k => XS.iloadN X56.here hx rfl (hb hby at_78) rfl k) ?_
  show own_Go _ _ _ _ T56 (mkF m 79 #[.val (.int p0), .val (.int p1), .val (.int p2), .val (.int p3), .val (.long q4), .second, .val (.ref b1), .unset, .unset, .unset, .unset, .unset, .unset, .unset, .unset, .unset] [(.int p0)])
  refine own_st (X56.ldcInt hx hown (mvT hZ (hw _ (List.mem_of_getElem? (i := 26) rfl))) (g := (mkF m 79 #[.val (.int p0), .val (.int p1), .val (.int p2), .val (.int p3), .val (.long q4), .second, .val (.ref b1), .unset, .unset, .unset, .unset, .unset, .unset, .unset, .unset, .unset] [(.int p0)])) rfl (hb hby at_79)) ?_
  show own_Go _ _ _ _ T56 (mkF m 81 #[.val (.int p0), .val (.int p1), .val (.int p2), .val (.int p3), .val (.long q4), .second, .val (.ref b1), .unset, .unset, .unset, .unset, .unset, .unset, .unset, .unset, .unset] [(.int (2147483647 : Int32)), (.int p0)])
  refine own_st (fun t k => XS.iand X56.here hx rfl (hb hby at_81) rfl k) ?_
  show own_Go _ _ _ _ T56 (mkF m 82 #[.val (.int p0), .val (.int p1), .val (.int p2), .val (.int p3), .val (.long q4), .second, .val (.ref b1), .unset, .unset, .unset, .unset, .unset, .unset, .unset, .unset, .unset] [(.int (p0 &&& (2147483647 : Int32)))])
  refine own_st (fun t k => XS.bipush X56.here hx rfl (hb hby at_82) k) ?_
  show own_Go _ _ _ _ T56 (mkF m 84 #[.val (.int p0), .val (.int p1), .val (.int p2), .val (.int p3), .val (.long q4), .second, .val (.ref b1), .unset, .unset, .unset, .unset, .unset, .unset, .unset, .unset, .unset] [(.int (11 : Int32)), (.int (p0 &&& (2147483647 : Int32)))])
  refine own_st (fun t k => iremM X56 hx rfl (hb hby at_84) rfl (by decide) k) ?_
  show own_Go _ _ _ _ T56 (mkF m 85 #[.val (.int p0), .val (.int p1), .val (.int p2), .val (.int p3), .val (.long q4), .second, .val (.ref b1), .unset, .unset, .unset, .unset, .unset, .unset, .unset, .unset, .unset] [(.int ((p0 &&& (2147483647 : Int32)) % (11 : Int32)))])
  refine own_st (fun t k => XS.istore X56.here hx rfl (hb hby at_85) rfl (l' := #[.val (.int p0), .val (.int p1), .val (.int p2), .val (.int p3), .val (.long q4), .second, .val (.ref b1), .val (.int ((p0 &&& (2147483647 : Int32)) % (11 : Int32))), .unset, .unset, .unset, .unset, .unset, .unset, .unset, .unset]) rfl k) ?_
  show own_Go _ _ _ _ T56 (mkF m 87 #[.val (.int p0), .val (.int p1), .val (.int p2), .val (.int p3), .val (.long q4), .second, .val (.ref b1), .val (.int ((p0 &&& (2147483647 : Int32)) % (11 : Int32))), .unset, .unset, .unset, .unset, .unset, .unset, .unset, .unset] [])
  refine own_st (fun t k => XS.iloadN X56.here hx rfl (hb hby at_87) rfl k) ?_
  show own_Go _ _ _ _ T56 (mkF m 88 #[.val (.int p0), .val (.int p1), .val (.int p2), .val (.int p3), .val (.long q4), .second, .val (.ref b1), .val (.int ((p0 &&& (2147483647 : Int32)) % (11 : Int32))), .unset, .unset, .unset, .unset, .unset, .unset, .unset, .unset] [(.int p1)])
  refine own_st (X56.ldcInt hx hown (mvT hZ (hw _ (List.mem_of_getElem? (i := 26) rfl))) (g := (mkF m 88 #[.val (.int p0), .val (.int p1), .val (.int p2), .val (.int p3), .val (.long q4), .second, .val (.ref b1), .val (.int ((p0 &&& (2147483647 : Int32)) % (11 : Int32))), .unset, .unset, .unset, .unset, .unset, .unset, .unset, .unset] [(.int p1)])) rfl (hb hby at_88)) ?_
  show own_Go _ _ _ _ T56 (mkF m 90 #[.val (.int p0), .val (.int p1), .val (.int p2), .val (.int p3), .val (.long q4), .second, .val (.ref b1), .val (.int ((p0 &&& (2147483647 : Int32)) % (11 : Int32))), .unset, .unset, .unset, .unset, .unset, .unset, .unset, .unset] [(.int (2147483647 : Int32)), (.int p1)])
  refine own_st (fun t k => XS.iand X56.here hx rfl (hb hby at_90) rfl k) ?_
  show own_Go _ _ _ _ T56 (mkF m 91 #[.val (.int p0), .val (.int p1), .val (.int p2), .val (.int p3), .val (.long q4), .second, .val (.ref b1), .val (.int ((p0 &&& (2147483647 : Int32)) % (11 : Int32))), .unset, .unset, .unset, .unset, .unset, .unset, .unset, .unset] [(.int (p1 &&& (2147483647 : Int32)))])
  refine own_st (fun t k => XS.bipush X56.here hx rfl (hb hby at_91) k) ?_
  show own_Go _ _ _ _ T56 (mkF m 93 #[.val (.int p0), .val (.int p1), .val (.int p2), .val (.int p3), .val (.long q4), .second, .val (.ref b1), .val (.int ((p0 &&& (2147483647 : Int32)) % (11 : Int32))), .unset, .unset, .unset, .unset, .unset, .unset, .unset, .unset] [(.int (11 : Int32)), (.int (p1 &&& (2147483647 : Int32)))])
  refine own_st (fun t k => iremM X56 hx rfl (hb hby at_93) rfl (by decide) k) ?_
  show own_Go _ _ _ _ T56 (mkF m 94 #[.val (.int p0), .val (.int p1), .val (.int p2), .val (.int p3), .val (.long q4), .second, .val (.ref b1), .val (.int ((p0 &&& (2147483647 : Int32)) % (11 : Int32))), .unset, .unset, .unset, .unset, .unset, .unset, .unset, .unset] [(.int ((p1 &&& (2147483647 : Int32)) % (11 : Int32)))])
  refine own_st (fun t k => XS.istore X56.here hx rfl (hb hby at_94) rfl (l' := #[.val (.int p0), .val (.int p1), .val (.int p2), .val (.int p3), .val (.long q4), .second, .val (.ref b1), .val (.int ((p0 &&& (2147483647 : Int32)) % (11 : Int32))), .val (.int ((p1 &&& (2147483647 : Int32)) % (11 : Int32))), .unset, .unset, .unset, .unset, .unset, .unset, .unset]) rfl k) ?_
  show own_Go _ _ _ _ T56 (mkF m 96 #[.val (.int p0), .val (.int p1), .val (.int p2), .val (.int p3), .val (.long q4), .second, .val (.ref b1), .val (.int ((p0 &&& (2147483647 : Int32)) % (11 : Int32))), .val (.int ((p1 &&& (2147483647 : Int32)) % (11 : Int32))), .unset, .unset, .unset, .unset, .unset, .unset, .unset] [])
  refine own_st (fun t k => XS.iloadN X56.here hx rfl (hb hby at_96) rfl k) ?_
  show own_Go _ _ _ _ T56 (mkF m 97 #[.val (.int p0), .val (.int p1), .val (.int p2), .val (.int p3), .val (.long q4), .second, .val (.ref b1), .val (.int ((p0 &&& (2147483647 : Int32)) % (11 : Int32))), .val (.int ((p1 &&& (2147483647 : Int32)) % (11 : Int32))), .unset, .unset, .unset, .unset, .unset, .unset, .unset] [(.int p2)])
  refine own_st (X56.ldcInt hx hown (mvT hZ (hw _ (List.mem_of_getElem? (i := 26) rfl))) (g := (mkF m 97 #[.val (.int p0), .val (.int p1), .val (.int p2), .val (.int p3), .val (.long q4), .second, .val (.ref b1), .val (.int ((p0 &&& (2147483647 : Int32)) % (11 : Int32))), .val (.int ((p1 &&& (2147483647 : Int32)) % (11 : Int32))), .unset, .unset, .unset, .unset, .unset, .unset, .unset] [(.int p2)])) rfl (hb hby at_97)) ?_
  show own_Go _ _ _ _ T56 (mkF m 99 #[.val (.int p0), .val (.int p1), .val (.int p2), .val (.int p3), .val (.long q4), .second, .val (.ref b1), .val (.int ((p0 &&& (2147483647 : Int32)) % (11 : Int32))), .val (.int ((p1 &&& (2147483647 : Int32)) % (11 : Int32))), .unset, .unset, .unset, .unset, .unset, .unset, .unset] [(.int (2147483647 : Int32)), (.int p2)])
  refine own_st (fun t k => XS.iand X56.here hx rfl (hb hby at_99) rfl k) ?_
  show own_Go _ _ _ _ T56 (mkF m 100 #[.val (.int p0), .val (.int p1), .val (.int p2), .val (.int p3), .val (.long q4), .second, .val (.ref b1), .val (.int ((p0 &&& (2147483647 : Int32)) % (11 : Int32))), .val (.int ((p1 &&& (2147483647 : Int32)) % (11 : Int32))), .unset, .unset, .unset, .unset, .unset, .unset, .unset] [(.int (p2 &&& (2147483647 : Int32)))])
  refine own_st (fun t k => XS.bipush X56.here hx rfl (hb hby at_100) k) ?_
  show own_Go _ _ _ _ T56 (mkF m 102 #[.val (.int p0), .val (.int p1), .val (.int p2), .val (.int p3), .val (.long q4), .second, .val (.ref b1), .val (.int ((p0 &&& (2147483647 : Int32)) % (11 : Int32))), .val (.int ((p1 &&& (2147483647 : Int32)) % (11 : Int32))), .unset, .unset, .unset, .unset, .unset, .unset, .unset] [(.int (11 : Int32)), (.int (p2 &&& (2147483647 : Int32)))])
  refine own_st (fun t k => iremM X56 hx rfl (hb hby at_102) rfl (by decide) k) ?_
  show own_Go _ _ _ _ T56 (mkF m 103 #[.val (.int p0), .val (.int p1), .val (.int p2), .val (.int p3), .val (.long q4), .second, .val (.ref b1), .val (.int ((p0 &&& (2147483647 : Int32)) % (11 : Int32))), .val (.int ((p1 &&& (2147483647 : Int32)) % (11 : Int32))), .unset, .unset, .unset, .unset, .unset, .unset, .unset] [(.int ((p2 &&& (2147483647 : Int32)) % (11 : Int32)))])
  refine own_st (fun t k => XS.istore X56.here hx rfl (hb hby at_103) rfl (l' := #[.val (.int p0), .val (.int p1), .val (.int p2), .val (.int p3), .val (.long q4), .second, .val (.ref b1), .val (.int ((p0 &&& (2147483647 : Int32)) % (11 : Int32))), .val (.int ((p1 &&& (2147483647 : Int32)) % (11 : Int32))), .val (.int ((p2 &&& (2147483647 : Int32)) % (11 : Int32))), .unset, .unset, .unset, .unset, .unset, .unset]) rfl k) ?_
  show own_Go _ _ _ _ T56 (mkF m 105 #[.val (.int p0), .val (.int p1), .val (.int p2), .val (.int p3), .val (.long q4), .second, .val (.ref b1), .val (.int ((p0 &&& (2147483647 : Int32)) % (11 : Int32))), .val (.int ((p1 &&& (2147483647 : Int32)) % (11 : Int32))), .val (.int ((p2 &&& (2147483647 : Int32)) % (11 : Int32))), .unset, .unset, .unset, .unset, .unset, .unset] [])
  refine own_st (fun t k => XS.iloadN X56.here hx rfl (hb hby at_105) rfl k) ?_
  show own_Go _ _ _ _ T56 (mkF m 106 #[.val (.int p0), .val (.int p1), .val (.int p2), .val (.int p3), .val (.long q4), .second, .val (.ref b1), .val (.int ((p0 &&& (2147483647 : Int32)) % (11 : Int32))), .val (.int ((p1 &&& (2147483647 : Int32)) % (11 : Int32))), .val (.int ((p2 &&& (2147483647 : Int32)) % (11 : Int32))), .unset, .unset, .unset, .unset, .unset, .unset] [(.int p3)])
  refine own_st (X56.ldcInt hx hown (mvT hZ (hw _ (List.mem_of_getElem? (i := 26) rfl))) (g := (mkF m 106 #[.val (.int p0), .val (.int p1), .val (.int p2), .val (.int p3), .val (.long q4), .second, .val (.ref b1), .val (.int ((p0 &&& (2147483647 : Int32)) % (11 : Int32))), .val (.int ((p1 &&& (2147483647 : Int32)) % (11 : Int32))), .val (.int ((p2 &&& (2147483647 : Int32)) % (11 : Int32))), .unset, .unset, .unset, .unset, .unset, .unset] [(.int p3)])) rfl (hb hby at_106)) ?_
  show own_Go _ _ _ _ T56 (mkF m 108 #[.val (.int p0), .val (.int p1), .val (.int p2), .val (.int p3), .val (.long q4), .second, .val (.ref b1), .val (.int ((p0 &&& (2147483647 : Int32)) % (11 : Int32))), .val (.int ((p1 &&& (2147483647 : Int32)) % (11 : Int32))), .val (.int ((p2 &&& (2147483647 : Int32)) % (11 : Int32))), .unset, .unset, .unset, .unset, .unset, .unset] [(.int (2147483647 : Int32)), (.int p3)])
  refine own_st (fun t k => XS.iand X56.here hx rfl (hb hby at_108) rfl k) ?_
  show own_Go _ _ _ _ T56 (mkF m 109 #[.val (.int p0), .val (.int p1), .val (.int p2), .val (.int p3), .val (.long q4), .second, .val (.ref b1), .val (.int ((p0 &&& (2147483647 : Int32)) % (11 : Int32))), .val (.int ((p1 &&& (2147483647 : Int32)) % (11 : Int32))), .val (.int ((p2 &&& (2147483647 : Int32)) % (11 : Int32))), .unset, .unset, .unset, .unset, .unset, .unset] [(.int (p3 &&& (2147483647 : Int32)))])
  refine own_st (fun t k => XS.bipush X56.here hx rfl (hb hby at_109) k) ?_
  show own_Go _ _ _ _ T56 (mkF m 111 #[.val (.int p0), .val (.int p1), .val (.int p2), .val (.int p3), .val (.long q4), .second, .val (.ref b1), .val (.int ((p0 &&& (2147483647 : Int32)) % (11 : Int32))), .val (.int ((p1 &&& (2147483647 : Int32)) % (11 : Int32))), .val (.int ((p2 &&& (2147483647 : Int32)) % (11 : Int32))), .unset, .unset, .unset, .unset, .unset, .unset] [(.int (11 : Int32)), (.int (p3 &&& (2147483647 : Int32)))])
  refine own_st (fun t k => iremM X56 hx rfl (hb hby at_111) rfl (by decide) k) ?_
  show own_Go _ _ _ _ T56 (mkF m 112 #[.val (.int p0), .val (.int p1), .val (.int p2), .val (.int p3), .val (.long q4), .second, .val (.ref b1), .val (.int ((p0 &&& (2147483647 : Int32)) % (11 : Int32))), .val (.int ((p1 &&& (2147483647 : Int32)) % (11 : Int32))), .val (.int ((p2 &&& (2147483647 : Int32)) % (11 : Int32))), .unset, .unset, .unset, .unset, .unset, .unset] [(.int ((p3 &&& (2147483647 : Int32)) % (11 : Int32)))])
  refine own_st (fun t k => XS.istore X56.here hx rfl (hb hby at_112) rfl (l' := #[.val (.int p0), .val (.int p1), .val (.int p2), .val (.int p3), .val (.long q4), .second, .val (.ref b1), .val (.int ((p0 &&& (2147483647 : Int32)) % (11 : Int32))), .val (.int ((p1 &&& (2147483647 : Int32)) % (11 : Int32))), .val (.int ((p2 &&& (2147483647 : Int32)) % (11 : Int32))), .val (.int ((p3 &&& (2147483647 : Int32)) % (11 : Int32))), .unset, .unset, .unset, .unset, .unset]) rfl k) ?_
  show own_Go _ _ _ _ T56 (mkF m 114 #[.val (.int p0), .val (.int p1), .val (.int p2), .val (.int p3), .val (.long q4), .second, .val (.ref b1), .val (.int ((p0 &&& (2147483647 : Int32)) % (11 : Int32))), .val (.int ((p1 &&& (2147483647 : Int32)) % (11 : Int32))), .val (.int ((p2 &&& (2147483647 : Int32)) % (11 : Int32))), .val (.int ((p3 &&& (2147483647 : Int32)) % (11 : Int32))), .unset, .unset, .unset, .unset, .unset] [])
  have K0_57 := (K0_54.wr W56 (Or.inr sz_b1))
  obtain ⟨T58, h58, X58, e58, E58, A58, D58, -, st58⟩ := newO X56 hx hZ hown (hw _ (List.mem_of_getElem? (i := 27) rfl)) (hw _ (List.mem_of_getElem? (i := 28) rfl)) (hw _ (List.mem_of_getElem? (i := 29) rfl)) e56 (g := (mkF m 114 #[.val (.int p0), .val (.int p1), .val (.int p2), .val (.int p3), .val (.long q4), .second, .val (.ref b1), .val (.int ((p0 &&& (2147483647 : Int32)) % (11 : Int32))), .val (.int ((p1 &&& (2147483647 : Int32)) % (11 : Int32))), .val (.int ((p2 &&& (2147483647 : Int32)) % (11 : Int32))), .val (.int ((p3 &&& (2147483647 : Int32)) % (11 : Int32))), .unset, .unset, .unset, .unset, .unset] [])) rfl (hb hby at_114) (by decide) (by decide)
  obtain ⟨b58, g58⟩ : ∃ z, z = h56.size := ⟨_, rfl⟩
  rw [← g58] at A58 D58 st58
  have sz_b58 : h0.size ≤ b58 := Nat.le_trans K0_57.1 (Nat.le_of_eq g58.symm)
  have g_b58 : n0 ≤ b58 := Nat.le_trans Z0 sz_b58
  have ne_b1_b58 : b1 ≠ b58 := Nat.ne_of_lt (Nat.lt_of_lt_of_le V56.lt (Nat.le_of_eq g58.symm))
  have F58_counts : Fld Z h58 b58 "com/example/hot_pool/hotpool/stats/PoolCounts" "counts" "[J" .null := D58 (Or.inr (hw _ (List.mem_of_getElem? (i := 53) rfl))) (ty := (.array .long)) (by decide)
  refine own_st st58 ?_
  show own_Go _ _ _ _ T58 (mkF m 117 #[.val (.int p0), .val (.int p1), .val (.int p2), .val (.int p3), .val (.long q4), .second, .val (.ref b1), .val (.int ((p0 &&& (2147483647 : Int32)) % (11 : Int32))), .val (.int ((p1 &&& (2147483647 : Int32)) % (11 : Int32))), .val (.int ((p2 &&& (2147483647 : Int32)) % (11 : Int32))), .val (.int ((p3 &&& (2147483647 : Int32)) % (11 : Int32))), .unset, .unset, .unset, .unset, .unset] [(.ref b58)])
  refine own_st (fun t k => XS.dup X58.here hx rfl (hb hby at_117) rfl rfl k) ?_
  show own_Go _ _ _ _ T58 (mkF m 118 #[.val (.int p0), .val (.int p1), .val (.int p2), .val (.int p3), .val (.long q4), .second, .val (.ref b1), .val (.int ((p0 &&& (2147483647 : Int32)) % (11 : Int32))), .val (.int ((p1 &&& (2147483647 : Int32)) % (11 : Int32))), .val (.int ((p2 &&& (2147483647 : Int32)) % (11 : Int32))), .val (.int ((p3 &&& (2147483647 : Int32)) % (11 : Int32))), .unset, .unset, .unset, .unset, .unset] [(.ref b58), (.ref b58)])
  have O0_59 := ((O0_52.wr W56 g_b1).ext E58)
  have K0_61 := (K0_57.ext E58)
  obtain ⟨_, _, ⟨T60, L60, k60, n60⟩, -, X60, ⟨Lc60, hQ60, l60, y60, z60⟩, st60⟩ := X58.specialBack hx (y := (⟨"com/example/hot_pool/hotpool/stats/PoolCounts", "<init>", "()V"⟩ : MethodName)) rfl hown (mvT hZ (hw _ (List.mem_of_getElem? (i := 30) rfl))) (mvT hZ (hw _ (List.mem_of_getElem? (i := 31) rfl))) (mvT hZ (hw _ (List.mem_of_getElem? (i := 32) rfl))) (by decide) (backOf (W := 1) (rm1 l Z a0 hw [] b58 va cv  h58 n0 (Nat.le_trans Z0 K0_61.1) A58 F58_counts g_b58 hV O0_59) hZ (hw _ (List.mem_of_getElem? (i := 32) rfl)) (hw _ (List.mem_of_getElem? (i := 29) rfl)) (by decide) (by decide)) (g := (mkF m 118 #[.val (.int p0), .val (.int p1), .val (.int p2), .val (.int p3), .val (.long q4), .second, .val (.ref b1), .val (.int ((p0 &&& (2147483647 : Int32)) % (11 : Int32))), .val (.int ((p1 &&& (2147483647 : Int32)) % (11 : Int32))), .val (.int ((p2 &&& (2147483647 : Int32)) % (11 : Int32))), .val (.int ((p3 &&& (2147483647 : Int32)) % (11 : Int32))), .unset, .unset, .unset, .unset, .unset] [(.ref b58), (.ref b58)])) rfl (by rw [hml]; rfl) (Steps.refl _) (a := b58) (argsL := []) (rest := [(.ref b58)]) (lenOf pd__28_29V rfl) rfl (by show 2 * 0 + _ ≤ _; exact Nat.le_of_eq rfl) (hb hby at_118) (fun _ _ => ⟨rfl, e58, (by decide : 2 + 2 ≤ _), (by decide : 12 + 22 ≤ _)⟩)
  dsimp only [Pt.U, Pt.locs, Pt.cells, Pt.slots] at X60 l60 y60 z60 st60 hQ60
  subst l60 y60 z60
  have V56_62 := (V56.ext E58)
  obtain ⟨rfl, N60q, K60, ar60, k60, sy60, F60, Ex60, V60⟩ := hQ60
  have sz_ar60 : h0.size ≤ ar60 := Nat.le_trans K0_61.1 sy60
  have g_ar60 : n0 ≤ ar60 := Nat.le_trans Z0 sz_ar60
  have ne_b1_ar60 : b1 ≠ ar60 := Nat.ne_of_lt (Nat.lt_of_lt_of_le V56_62.lt sy60)
  have ne_b58_ar60 : b58 ≠ ar60 := Nat.ne_of_lt (Nat.lt_of_lt_of_le A58.lt sy60)
  obtain ⟨_, X60, N60⟩ := own_hide X60 (Fr.app N56 N60q)
  refine own_tr st60 ?_
  show own_Go _ _ _ _ T60 (mkF m 121 #[.val (.int p0), .val (.int p1), .val (.int p2), .val (.int p3), .val (.long q4), .second, .val (.ref b1), .val (.int ((p0 &&& (2147483647 : Int32)) % (11 : Int32))), .val (.int ((p1 &&& (2147483647 : Int32)) % (11 : Int32))), .val (.int ((p2 &&& (2147483647 : Int32)) % (11 : Int32))), .val (.int ((p3 &&& (2147483647 : Int32)) % (11 : Int32))), .unset, .unset, .unset, .unset, .unset] [(.ref b58)])
  refine own_st (fun t k => XS.astore X60.here hx rfl (hb hby at_121) rfl rfl (l' := #[.val (.int p0), .val (.int p1), .val (.int p2), .val (.int p3), .val (.long q4), .second, .val (.ref b1), .val (.int ((p0 &&& (2147483647 : Int32)) % (11 : Int32))), .val (.int ((p1 &&& (2147483647 : Int32)) % (11 : Int32))), .val (.int ((p2 &&& (2147483647 : Int32)) % (11 : Int32))), .val (.int ((p3 &&& (2147483647 : Int32)) % (11 : Int32))), .val (.ref b58), .unset, .unset, .unset, .unset]) rfl k) ?_
  show own_Go _ _ _ _ T60 (mkF m 123 #[.val (.int p0), .val (.int p1), .val (.int p2), .val (.int p3), .val (.long q4), .second, .val (.ref b1), .val (.int ((p0 &&& (2147483647 : Int32)) % (11 : Int32))), .val (.int ((p1 &&& (2147483647 : Int32)) % (11 : Int32))), .val (.int ((p2 &&& (2147483647 : Int32)) % (11 : Int32))), .val (.int ((p3 &&& (2147483647 : Int32)) % (11 : Int32))), .val (.ref b58), .unset, .unset, .unset, .unset] [])
  have K0_63 := (K0_61.trans K60 (allS ((Or.inr sz_b58)) all0))
  obtain ⟨T64, h64, X64, e64, E64, A64, D64, -, st64⟩ := newO X60 hx hZ hown (hw _ (List.mem_of_getElem? (i := 27) rfl)) (hw _ (List.mem_of_getElem? (i := 28) rfl)) (hw _ (List.mem_of_getElem? (i := 29) rfl)) rfl (g := (mkF m 123 #[.val (.int p0), .val (.int p1), .val (.int p2), .val (.int p3), .val (.long q4), .second, .val (.ref b1), .val (.int ((p0 &&& (2147483647 : Int32)) % (11 : Int32))), .val (.int ((p1 &&& (2147483647 : Int32)) % (11 : Int32))), .val (.int ((p2 &&& (2147483647 : Int32)) % (11 : Int32))), .val (.int ((p3 &&& (2147483647 : Int32)) % (11 : Int32))), .val (.ref b58), .unset, .unset, .unset, .unset] [])) rfl (hb hby at_123) (by decide) (by decide)
  obtain ⟨b64, g64⟩ : ∃ z, z = T60.heap.size := ⟨_, rfl⟩
  rw [← g64] at A64 D64 st64
  have sz_b64 : h0.size ≤ b64 := Nat.le_trans K0_63.1 (Nat.le_of_eq g64.symm)
  have g_b64 : n0 ≤ b64 := Nat.le_trans Z0 sz_b64
  have V56_65 := (V56_62.keep K60 (ninS ne_b1_b58 nin0))
  have ne_b1_b64 : b1 ≠ b64 := Nat.ne_of_lt (Nat.lt_of_lt_of_le V56_65.lt (Nat.le_of_eq g64.symm))
  have A58_66 := (A58.keep K60)
  have ne_b58_b64 : b58 ≠ b64 := Nat.ne_of_lt (Nat.lt_of_lt_of_le A58_66.lt (Nat.le_of_eq g64.symm))
  have ne_ar60_b64 : ar60 ≠ b64 := Nat.ne_of_lt (Nat.lt_of_lt_of_le Ex60.lt (Nat.le_of_eq g64.symm))
  have F64_counts : Fld Z h64 b64 "com/example/hot_pool/hotpool/stats/PoolCounts" "counts" "[J" .null := D64 (Or.inr (hw _ (List.mem_of_getElem? (i := 53) rfl))) (ty := (.array .long)) (by decide)
  refine own_st st64 ?_
  show own_Go _ _ _ _ T64 (mkF m 126 #[.val (.int p0), .val (.int p1), .val (.int p2), .val (.int p3), .val (.long q4), .second, .val (.ref b1), .val (.int ((p0 &&& (2147483647 : Int32)) % (11 : Int32))), .val (.int ((p1 &&& (2147483647 : Int32)) % (11 : Int32))), .val (.int ((p2 &&& (2147483647 : Int32)) % (11 : Int32))), .val (.int ((p3 &&& (2147483647 : Int32)) % (11 : Int32))), .val (.ref b58), .unset, .unset, .unset, .unset] [(.ref b64)])
  refine own_st (fun t k => XS.dup X64.here hx rfl (hb hby at_126) rfl rfl k) ?_
  show own_Go _ _ _ _ T64 (mkF m 127 #[.val (.int p0), .val (.int p1), .val (.int p2), .val (.int p3), .val (.long q4), .second, .val (.ref b1), .val (.int ((p0 &&& (2147483647 : Int32)) % (11 : Int32))), .val (.int ((p1 &&& (2147483647 : Int32)) % (11 : Int32))), .val (.int ((p2 &&& (2147483647 : Int32)) % (11 : Int32))), .val (.int ((p3 &&& (2147483647 : Int32)) % (11 : Int32))), .val (.ref b58), .unset, .unset, .unset, .unset] [(.ref b64), (.ref b64)])
  have O0_67 := ((O0_59.keep K60 (allS g_b58 all0)).ext E64)
  have K0_69 := (K0_63.ext E64)
  obtain ⟨_, _, ⟨T68, L68, k68, n68⟩, -, X68, ⟨Lc68, hQ68, l68, y68, z68⟩, st68⟩ := X64.specialBack hx (y := (⟨"com/example/hot_pool/hotpool/stats/PoolCounts", "<init>", "()V"⟩ : MethodName)) rfl hown (mvT hZ (hw _ (List.mem_of_getElem? (i := 30) rfl))) (mvT hZ (hw _ (List.mem_of_getElem? (i := 31) rfl))) (mvT hZ (hw _ (List.mem_of_getElem? (i := 32) rfl))) (by decide) (backOf (W := 1) (rm1 l Z a0 hw [] b64 va cv  h64 n0 (Nat.le_trans Z0 K0_69.1) A64 F64_counts g_b64 hV O0_67) hZ (hw _ (List.mem_of_getElem? (i := 32) rfl)) (hw _ (List.mem_of_getElem? (i := 29) rfl)) (by decide) (by decide)) (g := (mkF m 127 #[.val (.int p0), .val (.int p1), .val (.int p2), .val (.int p3), .val (.long q4), .second, .val (.ref b1), .val (.int ((p0 &&& (2147483647 : Int32)) % (11 : Int32))), .val (.int ((p1 &&& (2147483647 : Int32)) % (11 : Int32))), .val (.int ((p2 &&& (2147483647 : Int32)) % (11 : Int32))), .val (.int ((p3 &&& (2147483647 : Int32)) % (11 : Int32))), .val (.ref b58), .unset, .unset, .unset, .unset] [(.ref b64), (.ref b64)])) rfl (by rw [hml]; rfl) (Steps.refl _) (a := b64) (argsL := []) (rest := [(.ref b64)]) (lenOf pd__28_29V rfl) rfl (by show 2 * 0 + _ ≤ _; exact Nat.le_of_eq rfl) (hb hby at_127) (fun _ _ => ⟨rfl, e64, (by decide : 5 + 2 ≤ _), (by decide : 35 + 22 ≤ _)⟩)
  dsimp only [Pt.U, Pt.locs, Pt.cells, Pt.slots] at X68 l68 y68 z68 st68 hQ68
  subst l68 y68 z68
  have V56_70 := (V56_65.ext E64)
  have A58_71 := (A58_66.ext E64)
  have Ex60_72 := (Ex60.ext E64)
  obtain ⟨rfl, N68q, K68, ar68, k68, sy68, F68, Ex68, V68⟩ := hQ68
  have sz_ar68 : h0.size ≤ ar68 := Nat.le_trans K0_69.1 sy68
  have g_ar68 : n0 ≤ ar68 := Nat.le_trans Z0 sz_ar68
  have ne_b1_ar68 : b1 ≠ ar68 := Nat.ne_of_lt (Nat.lt_of_lt_of_le V56_70.lt sy68)
  have ne_b58_ar68 : b58 ≠ ar68 := Nat.ne_of_lt (Nat.lt_of_lt_of_le A58_71.lt sy68)
  have ne_ar60_ar68 : ar60 ≠ ar68 := Nat.ne_of_lt (Nat.lt_of_lt_of_le Ex60_72.lt sy68)
  have ne_b64_ar68 : b64 ≠ ar68 := Nat.ne_of_lt (Nat.lt_of_lt_of_le A64.lt sy68)
  obtain ⟨_, X68, N68⟩ := own_hide X68 (Fr.app N60 N68q)
  refine own_tr st68 ?_
  show own_Go _ _ _ _ T68 (mkF m 130 #[.val (.int p0), .val (.int p1), .val (.int p2), .val (.int p3), .val (.long q4), .second, .val (.ref b1), .val (.int ((p0 &&& (2147483647 : Int32)) % (11 : Int32))), .val (.int ((p1 &&& (2147483647 : Int32)) % (11 : Int32))), .val (.int ((p2 &&& (2147483647 : Int32)) % (11 : Int32))), .val (.int ((p3 &&& (2147483647 : Int32)) % (11 : Int32))), .val (.ref b58), .unset, .unset, .unset, .unset] [(.ref b64)])
  refine own_st (fun t k => XS.astore X68.here hx rfl (hb hby at_130) rfl rfl (l' := #[.val (.int p0), .val (.int p1), .val (.int p2), .val (.int p3), .val (.long q4), .second, .val (.ref b1), .val (.int ((p0 &&& (2147483647 : Int32)) % (11 : Int32))), .val (.int ((p1 &&& (2147483647 : Int32)) % (11 : Int32))), .val (.int ((p2 &&& (2147483647 : Int32)) % (11 : Int32))), .val (.int ((p3 &&& (2147483647 : Int32)) % (11 : Int32))), .val (.ref b58), .val (.ref b64), .unset, .unset, .unset]) rfl k) ?_
  show own_Go _ _ _ _ T68 (mkF m 132 #[.val (.int p0), .val (.int p1), .val (.int p2), .val (.int p3), .val (.long q4), .second, .val (.ref b1), .val (.int ((p0 &&& (2147483647 : Int32)) % (11 : Int32))), .val (.int ((p1 &&& (2147483647 : Int32)) % (11 : Int32))), .val (.int ((p2 &&& (2147483647 : Int32)) % (11 : Int32))), .val (.int ((p3 &&& (2147483647 : Int32)) % (11 : Int32))), .val (.ref b58), .val (.ref b64), .unset, .unset, .unset] [])
  refine own_st (fun t k => XS.aload X68.here hx rfl (hb hby at_132) rfl rfl k) ?_
  show own_Go _ _ _ _ T68 (mkF m 134 #[.val (.int p0), .val (.int p1), .val (.int p2), .val (.int p3), .val (.long q4), .second, .val (.ref b1), .val (.int ((p0 &&& (2147483647 : Int32)) % (11 : Int32))), .val (.int ((p1 &&& (2147483647 : Int32)) % (11 : Int32))), .val (.int ((p2 &&& (2147483647 : Int32)) % (11 : Int32))), .val (.int ((p3 &&& (2147483647 : Int32)) % (11 : Int32))), .val (.ref b58), .val (.ref b64), .unset, .unset, .unset] [(.ref b58)])
  refine own_st (fun t k => XS.aload X68.here hx rfl (hb hby at_134) rfl rfl k) ?_
  show own_Go _ _ _ _ T68 (mkF m 136 #[.val (.int p0), .val (.int p1), .val (.int p2), .val (.int p3), .val (.long q4), .second, .val (.ref b1), .val (.int ((p0 &&& (2147483647 : Int32)) % (11 : Int32))), .val (.int ((p1 &&& (2147483647 : Int32)) % (11 : Int32))), .val (.int ((p2 &&& (2147483647 : Int32)) % (11 : Int32))), .val (.int ((p3 &&& (2147483647 : Int32)) % (11 : Int32))), .val (.ref b58), .val (.ref b64), .unset, .unset, .unset] [(.ref b1), (.ref b58)])
  refine own_st (fun t k => XS.iload X68.here hx rfl (hb hby at_136) rfl k) ?_
  show own_Go _ _ _ _ T68 (mkF m 138 #[.val (.int p0), .val (.int p1), .val (.int p2), .val (.int p3), .val (.long q4), .second, .val (.ref b1), .val (.int ((p0 &&& (2147483647 : Int32)) % (11 : Int32))), .val (.int ((p1 &&& (2147483647 : Int32)) % (11 : Int32))), .val (.int ((p2 &&& (2147483647 : Int32)) % (11 : Int32))), .val (.int ((p3 &&& (2147483647 : Int32)) % (11 : Int32))), .val (.ref b58), .val (.ref b64), .unset, .unset, .unset] [(.int ((p0 &&& (2147483647 : Int32)) % (11 : Int32))), (.ref b1), (.ref b58)])
  have V56_74 := (V56_70.keep K68 (ninS ne_b1_b64 nin0))
  obtain ⟨cl73, Ar73, qk73, Sz73, Nn73, Hs73, Gf73⟩ := id V56_74
  have O0_75 := (O0_67.keep K68 (allS g_b64 all0))
  have hin73 : ¬ (((p0 &&& (2147483647 : Int32)) % (11 : Int32)) < 0 ∨ cl73.slots.size ≤ (((p0 &&& (2147483647 : Int32)) % (11 : Int32))).toNatClampNeg) := inb_of Sz73 (own_rem p0)
  obtain ⟨x73, GE73, GF73, hat73⟩ : ∃ x : Addr, Exa Z Z.heap x "com/example/hot_pool/hotpool/stats/PoolEvent" ∧ Fld Z Z.heap x "java/lang/Enum" "ordinal" "I" (.int ((p0 &&& (2147483647 : Int32)) % (11 : Int32))) ∧ cl73.slots[(((p0 &&& (2147483647 : Int32)) % (11 : Int32))).toNatClampNeg]? = some (.ref x) := ⟨_, (own_Gat hG (own_rem p0)).1, (own_Gat hG (own_rem p0)).2, Has.at Hs73 hin73 (own_evl es _ (own_nat (own_rem p0)).1)⟩
  have E73 := GE73.ext O0_75.2
  have F73 := GF73.ext O0_75.2
  refine own_st (X68.aaload hx (j := ((p0 &&& (2147483647 : Int32)) % (11 : Int32))) (v := (.ref x73)) (id Ar73.1) (State.isArrayOf_alike hZ.alike Ar73.2.1) rfl Ar73.2.2 hin73 hat73 (g := (mkF m 138 #[.val (.int p0), .val (.int p1), .val (.int p2), .val (.int p3), .val (.long q4), .second, .val (.ref b1), .val (.int ((p0 &&& (2147483647 : Int32)) % (11 : Int32))), .val (.int ((p1 &&& (2147483647 : Int32)) % (11 : Int32))), .val (.int ((p2 &&& (2147483647 : Int32)) % (11 : Int32))), .val (.int ((p3 &&& (2147483647 : Int32)) % (11 : Int32))), .val (.ref b58), .val (.ref b64), .unset, .unset, .unset] [(.int ((p0 &&& (2147483647 : Int32)) % (11 : Int32))), (.ref b1), (.ref b58)])) rfl rfl (hb hby at_138)) ?_
  show own_Go _ _ _ _ T68 (mkF m 139 #[.val (.int p0), .val (.int p1), .val (.int p2), .val (.int p3), .val (.long q4), .second, .val (.ref b1), .val (.int ((p0 &&& (2147483647 : Int32)) % (11 : Int32))), .val (.int ((p1 &&& (2147483647 : Int32)) % (11 : Int32))), .val (.int ((p2 &&& (2147483647 : Int32)) % (11 : Int32))), .val (.int ((p3 &&& (2147483647 : Int32)) % (11 : Int32))), .val (.ref b58), .val (.ref b64), .unset, .unset, .unset] [(.ref x73), (.ref b58)])
  refine own_st (fun t k => XS.lload X68.here hx rfl (hb hby at_139) rfl k) ?_
  show own_Go _ _ _ _ T68 (mkF m 141 #[.val (.int p0), .val (.int p1), .val (.int p2), .val (.int p3), .val (.long q4), .second, .val (.ref b1), .val (.int ((p0 &&& (2147483647 : Int32)) % (11 : Int32))), .val (.int ((p1 &&& (2147483647 : Int32)) % (11 : Int32))), .val (.int ((p2 &&& (2147483647 : Int32)) % (11 : Int32))), .val (.int ((p3 &&& (2147483647 : Int32)) % (11 : Int32))), .val (.ref b58), .val (.ref b64), .unset, .unset, .unset] [(.long q4), (.ref x73), (.ref b58)])
  have F60c_76 := ((F60.ext E64).keep K68 (ninS ne_b58_b64 nin0))
  have V60_77 := ((V60.ext E64).keep K68 (ninS ne_ar60_b64 nin0))
  have K0_79 := (K0_69.trans K68 (allS ((Or.inr sz_b64)) all0))
  have A58_80 := (A58_71.keep K68)
  obtain ⟨cq78, kq78, q78a, q78b, q78c⟩ := isOf hZ rfl A58_80
  obtain ⟨_, _, ⟨T78, L78, k78, n78⟩, -, X78, ⟨Lc78, hQ78, l78, y78, z78⟩, st78⟩ := X68.virtualBack hx (y := (⟨"com/example/hot_pool/hotpool/stats/PoolCounts", "add", "(Lcom/example/hot_pool/hotpool/stats/PoolEvent;J)V"⟩ : MethodName)) (z := (⟨"com/example/hot_pool/hotpool/stats/PoolCounts", "add", "(Lcom/example/hot_pool/hotpool/stats/PoolEvent;J)V"⟩ : MethodName)) hown (mvT hZ (hw _ (List.mem_of_getElem? (i := 54) rfl))) (mvT hZ (hw _ (List.mem_of_getElem? (i := 55) rfl))) (notFace_of_selects (args := #[]) (mvT hZ (hw _ (List.mem_of_getElem? (i := 57) rfl)))) (mvT hZ (hw _ (List.mem_of_getElem? (i := 57) rfl))) (mvT hZ (hw _ (List.mem_of_getElem? (i := 56) rfl))) (by decide) (backOf (W := 0) (rm4 l Z a0 hw [] b58 x73 q4 ar60 k60 own_z11 ((p0 &&& (2147483647 : Int32)) % (11 : Int32))  T68.heap n0 (Nat.le_trans Z0 K0_79.1) F60c_76 V60_77 (rfl : own_z11.length = 11) E73 F73 (own_rem _) g_ar60 O0_75) hZ (hw _ (List.mem_of_getElem? (i := 58) rfl)) (hw _ (List.mem_of_getElem? (i := 29) rfl)) (by decide) (by decide)) q78a q78c (g := (mkF m 141 #[.val (.int p0), .val (.int p1), .val (.int p2), .val (.int p3), .val (.long q4), .second, .val (.ref b1), .val (.int ((p0 &&& (2147483647 : Int32)) % (11 : Int32))), .val (.int ((p1 &&& (2147483647 : Int32)) % (11 : Int32))), .val (.int ((p2 &&& (2147483647 : Int32)) % (11 : Int32))), .val (.int ((p3 &&& (2147483647 : Int32)) % (11 : Int32))), .val (.ref b58), .val (.ref b64), .unset, .unset, .unset] [(.long q4), (.ref x73), (.ref b58)])) rfl (by rw [hml]; rfl) (Steps.refl _) (argsL := [(.ref x73), (.long q4)]) (rest := []) (lenOf pd_150508 rfl) rfl (by show 2 * 0 + _ ≤ _; exact Nat.le_of_eq rfl) (hb hby at_141) (fun _ _ => ⟨rfl, rfl, (by decide : 7 + 0 ≤ _), (by decide : 57 + 0 ≤ _)⟩)
  dsimp only [Pt.U, Pt.locs, Pt.cells, Pt.slots] at X78 l78 y78 z78 st78 hQ78
  subst l78 y78 z78
  obtain ⟨rfl, N78q, K78, V78⟩ := hQ78
  have hl78 : (own_z11.set (((p0 &&& (2147483647 : Int32)) % (11 : Int32))).toNatClampNeg (own_z11.getD (((p0 &&& (2147483647 : Int32)) % (11 : Int32))).toNatClampNeg 0 + q4)).length = 11 := by rw [List.length_set]; exact (rfl : own_z11.length = 11)
  obtain ⟨_, X78, N78⟩ := own_hide X78 (Fr.app N68 N78q)
  refine own_tr st78 ?_
  show own_Go _ _ _ _ T78 (mkF m 144 #[.val (.int p0), .val (.int p1), .val (.int p2), .val (.int p3), .val (.long q4), .second, .val (.ref b1), .val (.int ((p0 &&& (2147483647 : Int32)) % (11 : Int32))), .val (.int ((p1 &&& (2147483647 : Int32)) % (11 : Int32))), .val (.int ((p2 &&& (2147483647 : Int32)) % (11 : Int32))), .val (.int ((p3 &&& (2147483647 : Int32)) % (11 : Int32))), .val (.ref b58), .val (.ref b64), .unset, .unset, .unset] [])
  obtain ⟨xl81, ex81⟩ : ∃ z, z = (own_z11.set (((p0 &&& (2147483647 : Int32)) % (11 : Int32))).toNatClampNeg (own_z11.getD (((p0 &&& (2147483647 : Int32)) % (11 : Int32))).toNatClampNeg 0 + q4)) := ⟨_, rfl⟩
  rw [← ex81] at V78 hl78
  refine own_st (fun t k => XS.aload X78.here hx rfl (hb hby at_144) rfl rfl k) ?_
  show own_Go _ _ _ _ T78 (mkF m 146 #[.val (.int p0), .val (.int p1), .val (.int p2), .val (.int p3), .val (.long q4), .second, .val (.ref b1), .val (.int ((p0 &&& (2147483647 : Int32)) % (11 : Int32))), .val (.int ((p1 &&& (2147483647 : Int32)) % (11 : Int32))), .val (.int ((p2 &&& (2147483647 : Int32)) % (11 : Int32))), .val (.int ((p3 &&& (2147483647 : Int32)) % (11 : Int32))), .val (.ref b58), .val (.ref b64), .unset, .unset, .unset] [(.ref b58)])
  refine own_st (fun t k => XS.aload X78.here hx rfl (hb hby at_146) rfl rfl k) ?_
  show own_Go _ _ _ _ T78 (mkF m 148 #[.val (.int p0), .val (.int p1), .val (.int p2), .val (.int p3), .val (.long q4), .second, .val (.ref b1), .val (.int ((p0 &&& (2147483647 : Int32)) % (11 : Int32))), .val (.int ((p1 &&& (2147483647 : Int32)) % (11 : Int32))), .val (.int ((p2 &&& (2147483647 : Int32)) % (11 : Int32))), .val (.int ((p3 &&& (2147483647 : Int32)) % (11 : Int32))), .val (.ref b58), .val (.ref b64), .unset, .unset, .unset] [(.ref b1), (.ref b58)])
  refine own_st (fun t k => XS.iload X78.here hx rfl (hb hby at_148) rfl k) ?_
  show own_Go _ _ _ _ T78 (mkF m 150 #[.val (.int p0), .val (.int p1), .val (.int p2), .val (.int p3), .val (.long q4), .second, .val (.ref b1), .val (.int ((p0 &&& (2147483647 : Int32)) % (11 : Int32))), .val (.int ((p1 &&& (2147483647 : Int32)) % (11 : Int32))), .val (.int ((p2 &&& (2147483647 : Int32)) % (11 : Int32))), .val (.int ((p3 &&& (2147483647 : Int32)) % (11 : Int32))), .val (.ref b58), .val (.ref b64), .unset, .unset, .unset] [(.int ((p1 &&& (2147483647 : Int32)) % (11 : Int32))), (.ref b1), (.ref b58)])
  have V56_83 := (V56_74.keep K78 (ninS ne_b1_ar60 nin0))
  obtain ⟨cl82, Ar82, qk82, Sz82, Nn82, Hs82, Gf82⟩ := id V56_83
  have O0_84 := (O0_75.keep K78 (allS g_ar60 all0))
  have hin82 : ¬ (((p1 &&& (2147483647 : Int32)) % (11 : Int32)) < 0 ∨ cl82.slots.size ≤ (((p1 &&& (2147483647 : Int32)) % (11 : Int32))).toNatClampNeg) := inb_of Sz82 (own_rem p1)
  obtain ⟨x82, GE82, GF82, hat82⟩ : ∃ x : Addr, Exa Z Z.heap x "com/example/hot_pool/hotpool/stats/PoolEvent" ∧ Fld Z Z.heap x "java/lang/Enum" "ordinal" "I" (.int ((p1 &&& (2147483647 : Int32)) % (11 : Int32))) ∧ cl82.slots[(((p1 &&& (2147483647 : Int32)) % (11 : Int32))).toNatClampNeg]? = some (.ref x) := ⟨_, (own_Gat hG (own_rem p1)).1, (own_Gat hG (own_rem p1)).2, Has.at Hs82 hin82 (own_evl es _ (own_nat (own_rem p1)).1)⟩
  have E82 := GE82.ext O0_84.2
  have F82 := GF82.ext O0_84.2
  refine own_st (X78.aaload hx (j := ((p1 &&& (2147483647 : Int32)) % (11 : Int32))) (v := (.ref x82)) (id Ar82.1) (State.isArrayOf_alike hZ.alike Ar82.2.1) rfl Ar82.2.2 hin82 hat82 (g := (mkF m 150 #[.val (.int p0), .val (.int p1), .val (.int p2), .val (.int p3), .val (.long q4), .second, .val (.ref b1), .val (.int ((p0 &&& (2147483647 : Int32)) % (11 : Int32))), .val (.int ((p1 &&& (2147483647 : Int32)) % (11 : Int32))), .val (.int ((p2 &&& (2147483647 : Int32)) % (11 : Int32))), .val (.int ((p3 &&& (2147483647 : Int32)) % (11 : Int32))), .val (.ref b58), .val (.ref b64), .unset, .unset, .unset] [(.int ((p1 &&& (2147483647 : Int32)) % (11 : Int32))), (.ref b1), (.ref b58)])) rfl rfl (hb hby at_150)) ?_
  show own_Go _ _ _ _ T78 (mkF m 151 #[.val (.int p0), .val (.int p1), .val (.int p2), .val (.int p3), .val (.long q4), .second, .val (.ref b1), .val (.int ((p0 &&& (2147483647 : Int32)) % (11 : Int32))), .val (.int ((p1 &&& (2147483647 : Int32)) % (11 : Int32))), .val (.int ((p2 &&& (2147483647 : Int32)) % (11 : Int32))), .val (.int ((p3 &&& (2147483647 : Int32)) % (11 : Int32))), .val (.ref b58), .val (.ref b64), .unset, .unset, .unset] [(.ref x82), (.ref b58)])
  have A58_85 := (A58_80.keep K78)
  have F60c_86 := (F60c_76.keep K78 (ninS ne_b58_ar60 nin0))
  have K0_88 := (K0_79.trans K78 (allS ((Or.inr sz_ar60)) all0))
  obtain ⟨cq87, kq87, q87a, q87b, q87c⟩ := isOf hZ rfl A58_85
  obtain ⟨_, _, ⟨T87, L87, k87, n87⟩, -, X87, ⟨Lc87, hQ87, l87, y87, z87⟩, st87⟩ := X78.virtualBack hx (y := (⟨"com/example/hot_pool/hotpool/stats/PoolCounts", "add", "(Lcom/example/hot_pool/hotpool/stats/PoolEvent;)V"⟩ : MethodName)) (z := (⟨"com/example/hot_pool/hotpool/stats/PoolCounts", "add", "(Lcom/example/hot_pool/hotpool/stats/PoolEvent;)V"⟩ : MethodName)) hown (mvT hZ (hw _ (List.mem_of_getElem? (i := 68) rfl))) (mvT hZ (hw _ (List.mem_of_getElem? (i := 69) rfl))) (notFace_of_selects (args := #[]) (mvT hZ (hw _ (List.mem_of_getElem? (i := 71) rfl)))) (mvT hZ (hw _ (List.mem_of_getElem? (i := 71) rfl))) (mvT hZ (hw _ (List.mem_of_getElem? (i := 70) rfl))) (by decide) (backOf (W := 0) (rm6 l Z a0 hw [] b58 x82 ar60 k60 xl81 ((p1 &&& (2147483647 : Int32)) % (11 : Int32))  T78.heap n0 (Nat.le_trans Z0 K0_88.1) A58_85 F60c_86 V78 hl78 E82 F82 (own_rem _) g_ar60 O0_84) hZ (hw _ (List.mem_of_getElem? (i := 72) rfl)) (hw _ (List.mem_of_getElem? (i := 29) rfl)) (by decide) (by decide)) q87a q87c (g := (mkF m 151 #[.val (.int p0), .val (.int p1), .val (.int p2), .val (.int p3), .val (.long q4), .second, .val (.ref b1), .val (.int ((p0 &&& (2147483647 : Int32)) % (11 : Int32))), .val (.int ((p1 &&& (2147483647 : Int32)) % (11 : Int32))), .val (.int ((p2 &&& (2147483647 : Int32)) % (11 : Int32))), .val (.int ((p3 &&& (2147483647 : Int32)) % (11 : Int32))), .val (.ref b58), .val (.ref b64), .unset, .unset, .unset] [(.ref x82), (.ref b58)])) rfl (by rw [hml]; rfl) (Steps.refl _) (argsL := [(.ref x82)]) (rest := []) (lenOf pd_146385 rfl) rfl (by show 2 * 0 + _ ≤ _; exact Nat.le_of_eq rfl) (hb hby at_151) (fun _ _ => ⟨rfl, rfl, (by decide : 7 + 0 ≤ _), (by decide : 57 + 0 ≤ _)⟩)
  dsimp only [Pt.U, Pt.locs, Pt.cells, Pt.slots] at X87 l87 y87 z87 st87 hQ87
  subst l87 y87 z87
  obtain ⟨rfl, N87q, K87, V87⟩ := hQ87
  have hl87 : (xl81.set (((p1 &&& (2147483647 : Int32)) % (11 : Int32))).toNatClampNeg (xl81.getD (((p1 &&& (2147483647 : Int32)) % (11 : Int32))).toNatClampNeg 0 + (1 : Int64))).length = 11 := by rw [List.length_set]; exact hl78
  obtain ⟨_, X87, N87⟩ := own_hide X87 (Fr.app N78 N87q)
  refine own_tr st87 ?_
  show own_Go _ _ _ _ T87 (mkF m 154 #[.val (.int p0), .val (.int p1), .val (.int p2), .val (.int p3), .val (.long q4), .second, .val (.ref b1), .val (.int ((p0 &&& (2147483647 : Int32)) % (11 : Int32))), .val (.int ((p1 &&& (2147483647 : Int32)) % (11 : Int32))), .val (.int ((p2 &&& (2147483647 : Int32)) % (11 : Int32))), .val (.int ((p3 &&& (2147483647 : Int32)) % (11 : Int32))), .val (.ref b58), .val (.ref b64), .unset, .unset, .unset] [])
  obtain ⟨xl89, ex89⟩ : ∃ z, z = (xl81.set (((p1 &&& (2147483647 : Int32)) % (11 : Int32))).toNatClampNeg (xl81.getD (((p1 &&& (2147483647 : Int32)) % (11 : Int32))).toNatClampNeg 0 + (1 : Int64))) := ⟨_, rfl⟩
  rw [← ex89] at V87 hl87
  refine own_st (fun t k => XS.aload X87.here hx rfl (hb hby at_154) rfl rfl k) ?_
  show own_Go _ _ _ _ T87 (mkF m 156 #[.val (.int p0), .val (.int p1), .val (.int p2), .val (.int p3), .val (.long q4), .second, .val (.ref b1), .val (.int ((p0 &&& (2147483647 : Int32)) % (11 : Int32))), .val (.int ((p1 &&& (2147483647 : Int32)) % (11 : Int32))), .val (.int ((p2 &&& (2147483647 : Int32)) % (11 : Int32))), .val (.int ((p3 &&& (2147483647 : Int32)) % (11 : Int32))), .val (.ref b58), .val (.ref b64), .unset, .unset, .unset] [(.ref b58)])
  refine own_st (fun t k => XS.aload X87.here hx rfl (hb hby at_156) rfl rfl k) ?_
  show own_Go _ _ _ _ T87 (mkF m 158 #[.val (.int p0), .val (.int p1), .val (.int p2), .val (.int p3), .val (.long q4), .second, .val (.ref b1), .val (.int ((p0 &&& (2147483647 : Int32)) % (11 : Int32))), .val (.int ((p1 &&& (2147483647 : Int32)) % (11 : Int32))), .val (.int ((p2 &&& (2147483647 : Int32)) % (11 : Int32))), .val (.int ((p3 &&& (2147483647 : Int32)) % (11 : Int32))), .val (.ref b58), .val (.ref b64), .unset, .unset, .unset] [(.ref b1), (.ref b58)])
  refine own_st (fun t k => XS.iload X87.here hx rfl (hb hby at_158) rfl k) ?_
  show own_Go _ _ _ _ T87 (mkF m 160 #[.val (.int p0), .val (.int p1), .val (.int p2), .val (.int p3), .val (.long q4), .second, .val (.ref b1), .val (.int ((p0 &&& (2147483647 : Int32)) % (11 : Int32))), .val (.int ((p1 &&& (2147483647 : Int32)) % (11 : Int32))), .val (.int ((p2 &&& (2147483647 : Int32)) % (11 : Int32))), .val (.int ((p3 &&& (2147483647 : Int32)) % (11 : Int32))), .val (.ref b58), .val (.ref b64), .unset, .unset, .unset] [(.int ((p2 &&& (2147483647 : Int32)) % (11 : Int32))), (.ref b1), (.ref b58)])
  have V56_91 := (V56_83.keep K87 (ninS ne_b1_ar60 nin0))
  obtain ⟨cl90, Ar90, qk90, Sz90, Nn90, Hs90, Gf90⟩ := id V56_91
  have O0_92 := (O0_84.keep K87 (allS g_ar60 all0))
  have hin90 : ¬ (((p2 &&& (2147483647 : Int32)) % (11 : Int32)) < 0 ∨ cl90.slots.size ≤ (((p2 &&& (2147483647 : Int32)) % (11 : Int32))).toNatClampNeg) := inb_of Sz90 (own_rem p2)
  obtain ⟨x90, GE90, GF90, hat90⟩ : ∃ x : Addr, Exa Z Z.heap x "com/example/hot_pool/hotpool/stats/PoolEvent" ∧ Fld Z Z.heap x "java/lang/Enum" "ordinal" "I" (.int ((p2 &&& (2147483647 : Int32)) % (11 : Int32))) ∧ cl90.slots[(((p2 &&& (2147483647 : Int32)) % (11 : Int32))).toNatClampNeg]? = some (.ref x) := ⟨_, (own_Gat hG (own_rem p2)).1, (own_Gat hG (own_rem p2)).2, Has.at Hs90 hin90 (own_evl es _ (own_nat (own_rem p2)).1)⟩
  have E90 := GE90.ext O0_92.2
  have F90 := GF90.ext O0_92.2
  refine own_st (X87.aaload hx (j := ((p2 &&& (2147483647 : Int32)) % (11 : Int32))) (v := (.ref x90)) (id Ar90.1) (State.isArrayOf_alike hZ.alike Ar90.2.1) rfl Ar90.2.2 hin90 hat90 (g := (mkF m 160 #[.val (.int p0), .val (.int p1), .val (.int p2), .val (.int p3), .val (.long q4), .second, .val (.ref b1), .val (.int ((p0 &&& (2147483647 : Int32)) % (11 : Int32))), .val (.int ((p1 &&& (2147483647 : Int32)) % (11 : Int32))), .val (.int ((p2 &&& (2147483647 : Int32)) % (11 : Int32))), .val (.int ((p3 &&& (2147483647 : Int32)) % (11 : Int32))), .val (.ref b58), .val (.ref b64), .unset, .unset, .unset] [(.int ((p2 &&& (2147483647 : Int32)) % (11 : Int32))), (.ref b1), (.ref b58)])) rfl rfl (hb hby at_160)) ?_
  show own_Go _ _ _ _ T87 (mkF m 161 #[.val (.int p0), .val (.int p1), .val (.int p2), .val (.int p3), .val (.long q4), .second, .val (.ref b1), .val (.int ((p0 &&& (2147483647 : Int32)) % (11 : Int32))), .val (.int ((p1 &&& (2147483647 : Int32)) % (11 : Int32))), .val (.int ((p2 &&& (2147483647 : Int32)) % (11 : Int32))), .val (.int ((p3 &&& (2147483647 : Int32)) % (11 : Int32))), .val (.ref b58), .val (.ref b64), .unset, .unset, .unset] [(.ref x90), (.ref b58)])
  have A58_93 := (A58_85.keep K87)
  have F60c_94 := (F60c_86.keep K87 (ninS ne_b58_ar60 nin0))
  have K0_96 := (K0_88.trans K87 (allS ((Or.inr sz_ar60)) all0))
  obtain ⟨cq95, kq95, q95a, q95b, q95c⟩ := isOf hZ rfl A58_93
  obtain ⟨_, _, ⟨T95, L95, k95, n95⟩, -, X95, ⟨Lc95, hQ95, l95, y95, z95⟩, st95⟩ := X87.virtualBack hx (y := (⟨"com/example/hot_pool/hotpool/stats/PoolCounts", "add", "(Lcom/example/hot_pool/hotpool/stats/PoolEvent;)V"⟩ : MethodName)) (z := (⟨"com/example/hot_pool/hotpool/stats/PoolCounts", "add", "(Lcom/example/hot_pool/hotpool/stats/PoolEvent;)V"⟩ : MethodName)) hown (mvT hZ (hw _ (List.mem_of_getElem? (i := 68) rfl))) (mvT hZ (hw _ (List.mem_of_getElem? (i := 69) rfl))) (notFace_of_selects (args := #[]) (mvT hZ (hw _ (List.mem_of_getElem? (i := 71) rfl)))) (mvT hZ (hw _ (List.mem_of_getElem? (i := 71) rfl))) (mvT hZ (hw _ (List.mem_of_getElem? (i := 70) rfl))) (by decide) (backOf (W := 0) (rm6 l Z a0 hw [] b58 x90 ar60 k60 xl89 ((p2 &&& (2147483647 : Int32)) % (11 : Int32))  T87.heap n0 (Nat.le_trans Z0 K0_96.1) A58_93 F60c_94 V87 hl87 E90 F90 (own_rem _) g_ar60 O0_92) hZ (hw _ (List.mem_of_getElem? (i := 72) rfl)) (hw _ (List.mem_of_getElem? (i := 29) rfl)) (by decide) (by decide)) q95a q95c (g := (mkF m 161 #[.val (.int p0), .val (.int p1), .val (.int p2), .val (.int p3), .val (.long q4), .second, .val (.ref b1), .val (.int ((p0 &&& (2147483647 : Int32)) % (11 : Int32))), .val (.int ((p1 &&& (2147483647 : Int32)) % (11 : Int32))), .val (.int ((p2 &&& (2147483647 : Int32)) % (11 : Int32))), .val (.int ((p3 &&& (2147483647 : Int32)) % (11 : Int32))), .val (.ref b58), .val (.ref b64), .unset, .unset, .unset] [(.ref x90), (.ref b58)])) rfl (by rw [hml]; rfl) (Steps.refl _) (argsL := [(.ref x90)]) (rest := []) (lenOf pd_146385 rfl) rfl (by show 2 * 0 + _ ≤ _; exact Nat.le_of_eq rfl) (hb hby at_161) (fun _ _ => ⟨rfl, rfl, (by decide : 7 + 0 ≤ _), (by decide : 57 + 0 ≤ _)⟩)
  dsimp only [Pt.U, Pt.locs, Pt.cells, Pt.slots] at X95 l95 y95 z95 st95 hQ95
  subst l95 y95 z95
  obtain ⟨rfl, N95q, K95, V95⟩ := hQ95
  have hl95 : (xl89.set (((p2 &&& (2147483647 : Int32)) % (11 : Int32))).toNatClampNeg (xl89.getD (((p2 &&& (2147483647 : Int32)) % (11 : Int32))).toNatClampNeg 0 + (1 : Int64))).length = 11 := by rw [List.length_set]; exact hl87
  obtain ⟨_, X95, N95⟩ := own_hide X95 (Fr.app N87 N95q)
  refine own_tr st95 ?_
  show own_Go _ _ _ _ T95 (mkF m 164 #[.val (.int p0), .val (.int p1), .val (.int p2), .val (.int p3), .val (.long q4), .second, .val (.ref b1), .val (.int ((p0 &&& (2147483647 : Int32)) % (11 : Int32))), .val (.int ((p1 &&& (2147483647 : Int32)) % (11 : Int32))), .val (.int ((p2 &&& (2147483647 : Int32)) % (11 : Int32))), .val (.int ((p3 &&& (2147483647 : Int32)) % (11 : Int32))), .val (.ref b58), .val (.ref b64), .unset, .unset, .unset] [])
  obtain ⟨xl97, ex97⟩ : ∃ z, z = (xl89.set (((p2 &&& (2147483647 : Int32)) % (11 : Int32))).toNatClampNeg (xl89.getD (((p2 &&& (2147483647 : Int32)) % (11 : Int32))).toNatClampNeg 0 + (1 : Int64))) := ⟨_, rfl⟩
  rw [← ex97] at V95 hl95
  refine own_st (fun t k => XS.aload X95.here hx rfl (hb hby at_164) rfl rfl k) ?_
  show own_Go _ _ _ _ T95 (mkF m 166 #[.val (.int p0), .val (.int p1), .val (.int p2), .val (.int p3), .val (.long q4), .second, .val (.ref b1), .val (.int ((p0 &&& (2147483647 : Int32)) % (11 : Int32))), .val (.int ((p1 &&& (2147483647 : Int32)) % (11 : Int32))), .val (.int ((p2 &&& (2147483647 : Int32)) % (11 : Int32))), .val (.int ((p3 &&& (2147483647 : Int32)) % (11 : Int32))), .val (.ref b58), .val (.ref b64), .unset, .unset, .unset] [(.ref b58)])
  have hk0_98 := (Nat.le_trans (Nat.le_trans (Nat.le_trans (Nat.le_trans (Nat.le_trans (Nat.le_trans (Nat.le_trans (Nat.le_trans (Nat.le_trans (Nat.le_trans (Nat.le_trans (Nat.le_trans (Nat.le_trans (Nat.le_trans (Nat.le_trans (Nat.le_trans (Nat.le_trans (Nat.le_trans (Nat.le_trans hk0 E1.1) (Nat.le_of_eq W6.size.symm)) (Nat.le_of_eq W11.size.symm)) (Nat.le_of_eq W16.size.symm)) (Nat.le_of_eq W21.size.symm)) (Nat.le_of_eq W26.size.symm)) (Nat.le_of_eq W31.size.symm)) (Nat.le_of_eq W36.size.symm)) (Nat.le_of_eq W41.size.symm)) (Nat.le_of_eq W46.size.symm)) (Nat.le_of_eq W51.size.symm)) (Nat.le_of_eq W56.size.symm)) E58.1) K60.1) E64.1) K68.1) K78.1) K87.1) K95.1)
  have K0_99 := (K0_96.trans K95 (allS ((Or.inr sz_ar60)) all0))
  obtain ⟨b100, T100, h100, k100, X100, e100, E100, hS100, hk100, hZ100, hown100, st100⟩ := ldcS X95 hx hZ hown (hw _ (List.mem_of_getElem? (i := 74) rfl)) (own_sA hw) rfl hS0 hk0_98 (g := (mkF m 166 #[.val (.int p0), .val (.int p1), .val (.int p2), .val (.int p3), .val (.long q4), .second, .val (.ref b1), .val (.int ((p0 &&& (2147483647 : Int32)) % (11 : Int32))), .val (.int ((p1 &&& (2147483647 : Int32)) % (11 : Int32))), .val (.int ((p2 &&& (2147483647 : Int32)) % (11 : Int32))), .val (.int ((p3 &&& (2147483647 : Int32)) % (11 : Int32))), .val (.ref b58), .val (.ref b64), .unset, .unset, .unset] [(.ref b58)])) rfl (hb hby at_166) (n := 4) (by decide) (by decide) (by decide) (by decide)
  refine own_st st100 ?_
  show own_Go _ _ _ _ T100 (mkF m 168 #[.val (.int p0), .val (.int p1), .val (.int p2), .val (.int p3), .val (.long q4), .second, .val (.ref b1), .val (.int ((p0 &&& (2147483647 : Int32)) % (11 : Int32))), .val (.int ((p1 &&& (2147483647 : Int32)) % (11 : Int32))), .val (.int ((p2 &&& (2147483647 : Int32)) % (11 : Int32))), .val (.int ((p3 &&& (2147483647 : Int32)) % (11 : Int32))), .val (.ref b58), .val (.ref b64), .unset, .unset, .unset] [(.ref b100), (.ref b58)])
  refine own_st (fun t k => XS.iconst X100.here hx rfl (hb hby at_168) k) ?_
  show own_Go _ _ _ _ T100 (mkF m 169 #[.val (.int p0), .val (.int p1), .val (.int p2), .val (.int p3), .val (.long q4), .second, .val (.ref b1), .val (.int ((p0 &&& (2147483647 : Int32)) % (11 : Int32))), .val (.int ((p1 &&& (2147483647 : Int32)) % (11 : Int32))), .val (.int ((p2 &&& (2147483647 : Int32)) % (11 : Int32))), .val (.int ((p3 &&& (2147483647 : Int32)) % (11 : Int32))), .val (.ref b58), .val (.ref b64), .unset, .unset, .unset] [(.int (0 : Int32)), (.ref b100), (.ref b58)])
  refine own_st (fun t k => XS.lconst X100.here hx rfl (hb hby at_169) k) ?_
  show own_Go _ _ _ _ T100 (mkF m 170 #[.val (.int p0), .val (.int p1), .val (.int p2), .val (.int p3), .val (.long q4), .second, .val (.ref b1), .val (.int ((p0 &&& (2147483647 : Int32)) % (11 : Int32))), .val (.int ((p1 &&& (2147483647 : Int32)) % (11 : Int32))), .val (.int ((p2 &&& (2147483647 : Int32)) % (11 : Int32))), .val (.int ((p3 &&& (2147483647 : Int32)) % (11 : Int32))), .val (.ref b58), .val (.ref b64), .unset, .unset, .unset] [(.long (0 : Int64)), (.int (0 : Int32)), (.ref b100), (.ref b58)])
  refine own_st (fun t k => XS.lconst X100.here hx rfl (hb hby at_170) k) ?_
  show own_Go _ _ _ _ T100 (mkF m 171 #[.val (.int p0), .val (.int p1), .val (.int p2), .val (.int p3), .val (.long q4), .second, .val (.ref b1), .val (.int ((p0 &&& (2147483647 : Int32)) % (11 : Int32))), .val (.int ((p1 &&& (2147483647 : Int32)) % (11 : Int32))), .val (.int ((p2 &&& (2147483647 : Int32)) % (11 : Int32))), .val (.int ((p3 &&& (2147483647 : Int32)) % (11 : Int32))), .val (.ref b58), .val (.ref b64), .unset, .unset, .unset] [(.long (0 : Int64)), (.long (0 : Int64)), (.int (0 : Int32)), (.ref b100), (.ref b58)])
  refine own_st (fun t k => XS.aload X100.here hx rfl (hb hby at_171) rfl rfl k) ?_
  show own_Go _ _ _ _ T100 (mkF m 173 #[.val (.int p0), .val (.int p1), .val (.int p2), .val (.int p3), .val (.long q4), .second, .val (.ref b1), .val (.int ((p0 &&& (2147483647 : Int32)) % (11 : Int32))), .val (.int ((p1 &&& (2147483647 : Int32)) % (11 : Int32))), .val (.int ((p2 &&& (2147483647 : Int32)) % (11 : Int32))), .val (.int ((p3 &&& (2147483647 : Int32)) % (11 : Int32))), .val (.ref b58), .val (.ref b64), .unset, .unset, .unset] [(.ref b64), (.long (0 : Int64)), (.long (0 : Int64)), (.int (0 : Int32)), (.ref b100), (.ref b58)])
  have F60c_101 := ((F60c_94.keep K95 (ninS ne_b58_ar60 nin0)).ext E100)
  have F68c_102 := ((((F68.keep K78 (ninS (Ne.symm ne_ar60_b64) nin0)).keep K87 (ninS (Ne.symm ne_ar60_b64) nin0)).keep K95 (ninS (Ne.symm ne_ar60_b64) nin0)).ext E100)
  have V95_103 := (V95.ext E100)
  have Ex60_104 := (((((Ex60_72.keep K68).keep K78).keep K87).keep K95).ext E100)
  have V68_105 := ((((V68.keep K78 (ninS (Ne.symm ne_ar60_ar68) nin0)).keep K87 (ninS (Ne.symm ne_ar60_ar68) nin0)).keep K95 (ninS (Ne.symm ne_ar60_ar68) nin0)).ext E100)
  have K0_107 := (K0_99.ext E100)
  have A58_108 := ((A58_93.keep K95).ext E100)
  obtain ⟨cq106, kq106, q106a, q106b, q106c⟩ := isOf hZ100 e100 A58_108
  obtain ⟨_, _, ⟨T106, L106, k106, n106⟩, -, X106, ⟨Lc106, hQ106, l106, y106, z106⟩, st106⟩ := X100.virtualBack hx (y := (⟨"com/example/hot_pool/hotpool/stats/PoolCounts", "snapshot", "(Ljava/lang/String;ZJJLcom/example/hot_pool/hotpool/stats/PoolCounts;)Lcom/example/hot_pool/hotpool/stats/HotPoolStatistics;"⟩ : MethodName)) (z := (⟨"com/example/hot_pool/hotpool/stats/PoolCounts", "snapshot", "(Ljava/lang/String;ZJJLcom/example/hot_pool/hotpool/stats/PoolCounts;)Lcom/example/hot_pool/hotpool/stats/HotPoolStatistics;"⟩ : MethodName)) hown100 (mvT hZ100 (hw _ (List.mem_of_getElem? (i := 82) rfl))) (mvT hZ100 (hw _ (List.mem_of_getElem? (i := 83) rfl))) (notFace_of_selects (args := #[]) (mvT hZ100 (hw _ (List.mem_of_getElem? (i := 85) rfl)))) (mvT hZ100 (hw _ (List.mem_of_getElem? (i := 85) rfl))) (mvT hZ100 (hw _ (List.mem_of_getElem? (i := 84) rfl))) (by decide) (backOf (W := 0) (rm7 l Z a0 hw [] b58 b100 (0 : Int32) (0 : Int64) (0 : Int64) b64 ar60 ar68 k60 k68 xl97  h100 n0 (Nat.le_trans Z0 K0_107.1) F60c_101 F68c_102 V95_103 hl95 Ex60_104 V68_105) hZ100 (hw _ (List.mem_of_getElem? (i := 86) rfl)) (hw _ (List.mem_of_getElem? (i := 29) rfl)) (by decide) (by decide)) q106a q106c (g := (mkF m 173 #[.val (.int p0), .val (.int p1), .val (.int p2), .val (.int p3), .val (.long q4), .second, .val (.ref b1), .val (.int ((p0 &&& (2147483647 : Int32)) % (11 : Int32))), .val (.int ((p1 &&& (2147483647 : Int32)) % (11 : Int32))), .val (.int ((p2 &&& (2147483647 : Int32)) % (11 : Int32))), .val (.int ((p3 &&& (2147483647 : Int32)) % (11 : Int32))), .val (.ref b58), .val (.ref b64), .unset, .unset, .unset] [(.ref b64), (.long (0 : Int64)), (.long (0 : Int64)), (.int (0 : Int32)), (.ref b100), (.ref b58)])) rfl (by rw [hml]; rfl) (Steps.refl _) (argsL := [(.ref b100), (.int (0 : Int32)), (.long (0 : Int64)), (.long (0 : Int64)), (.ref b64)]) (rest := []) (lenOf pd_843233 rfl) rfl (by show 2 * 0 + _ ≤ _; exact Nat.le_of_eq rfl) (hb hby at_173) (fun _ _ => ⟨rfl, e100, (by decide : 9 + 2 ≤ _), (by decide : 65 + 16 ≤ _)⟩)
  dsimp only [Pt.U, Pt.locs, Pt.cells, Pt.slots] at X106 l106 y106 z106 st106 hQ106
  subst l106 y106 z106
  obtain ⟨b106, ar106, k106, rfl, N106q, K106, sy106, E106, F106, V106⟩ := hQ106
  obtain ⟨_, X106, N106⟩ := own_hide X106 (Fr.app N95 N106q)
  refine own_tr st106 ?_
  show own_Go _ _ _ _ T106 (mkF m 176 #[.val (.int p0), .val (.int p1), .val (.int p2), .val (.int p3), .val (.long q4), .second, .val (.ref b1), .val (.int ((p0 &&& (2147483647 : Int32)) % (11 : Int32))), .val (.int ((p1 &&& (2147483647 : Int32)) % (11 : Int32))), .val (.int ((p2 &&& (2147483647 : Int32)) % (11 : Int32))), .val (.int ((p3 &&& (2147483647 : Int32)) % (11 : Int32))), .val (.ref b58), .val (.ref b64), .unset, .unset, .unset] [(.ref b106)])
  refine own_st (fun t k => XS.astore X106.here hx rfl (hb hby at_176) rfl rfl (l' := #[.val (.int p0), .val (.int p1), .val (.int p2), .val (.int p3), .val (.long q4), .second, .val (.ref b1), .val (.int ((p0 &&& (2147483647 : Int32)) % (11 : Int32))), .val (.int ((p1 &&& (2147483647 : Int32)) % (11 : Int32))), .val (.int ((p2 &&& (2147483647 : Int32)) % (11 : Int32))), .val (.int ((p3 &&& (2147483647 : Int32)) % (11 : Int32))), .val (.ref b58), .val (.ref b64), .val (.ref b106), .unset, .unset]) rfl k) ?_
  show own_Go _ _ _ _ T106 (mkF m 178 #[.val (.int p0), .val (.int p1), .val (.int p2), .val (.int p3), .val (.long q4), .second, .val (.ref b1), .val (.int ((p0 &&& (2147483647 : Int32)) % (11 : Int32))), .val (.int ((p1 &&& (2147483647 : Int32)) % (11 : Int32))), .val (.int ((p2 &&& (2147483647 : Int32)) % (11 : Int32))), .val (.int ((p3 &&& (2147483647 : Int32)) % (11 : Int32))), .val (.ref b58), .val (.ref b64), .val (.ref b106), .unset, .unset] [])
  refine own_st (fun t k => XS.lconst X106.here hx rfl (hb hby at_178) k) ?_
  show own_Go _ _ _ _ T106 (mkF m 179 #[.val (.int p0), .val (.int p1), .val (.int p2), .val (.int p3), .val (.long q4), .second, .val (.ref b1), .val (.int ((p0 &&& (2147483647 : Int32)) % (11 : Int32))), .val (.int ((p1 &&& (2147483647 : Int32)) % (11 : Int32))), .val (.int ((p2 &&& (2147483647 : Int32)) % (11 : Int32))), .val (.int ((p3 &&& (2147483647 : Int32)) % (11 : Int32))), .val (.ref b58), .val (.ref b64), .val (.ref b106), .unset, .unset] [(.long (0 : Int64))])
  refine own_st (fun t k => XS.lstore X106.here hx rfl (hb hby at_179) rfl (l' := #[.val (.int p0), .val (.int p1), .val (.int p2), .val (.int p3), .val (.long q4), .second, .val (.ref b1), .val (.int ((p0 &&& (2147483647 : Int32)) % (11 : Int32))), .val (.int ((p1 &&& (2147483647 : Int32)) % (11 : Int32))), .val (.int ((p2 &&& (2147483647 : Int32)) % (11 : Int32))), .val (.int ((p3 &&& (2147483647 : Int32)) % (11 : Int32))), .val (.ref b58), .val (.ref b64), .val (.ref b106), .val (.long (0 : Int64)), .second]) rfl k) ?_
  show own_Go _ _ _ _ T106 (mkF m 181 #[.val (.int p0), .val (.int p1), .val (.int p2), .val (.int p3), .val (.long q4), .second, .val (.ref b1), .val (.int ((p0 &&& (2147483647 : Int32)) % (11 : Int32))), .val (.int ((p1 &&& (2147483647 : Int32)) % (11 : Int32))), .val (.int ((p2 &&& (2147483647 : Int32)) % (11 : Int32))), .val (.int ((p3 &&& (2147483647 : Int32)) % (11 : Int32))), .val (.ref b58), .val (.ref b64), .val (.ref b106), .val (.long (0 : Int64)), .second] [])
  refine own_st (fun t k => XS.iload X106.here hx rfl (hb hby at_181) rfl k) ?_
  show own_Go _ _ _ _ T106 (mkF m 183 #[.val (.int p0), .val (.int p1), .val (.int p2), .val (.int p3), .val (.long q4), .second, .val (.ref b1), .val (.int ((p0 &&& (2147483647 : Int32)) % (11 : Int32))), .val (.int ((p1 &&& (2147483647 : Int32)) % (11 : Int32))), .val (.int ((p2 &&& (2147483647 : Int32)) % (11 : Int32))), .val (.int ((p3 &&& (2147483647 : Int32)) % (11 : Int32))), .val (.ref b58), .val (.ref b64), .val (.ref b106), .val (.long (0 : Int64)), .second] [(.int ((p3 &&& (2147483647 : Int32)) % (11 : Int32)))])
  refine own_st (fun t k => XS.iload X106.here hx rfl (hb hby at_183) rfl k) ?_
  show own_Go _ _ _ _ T106 (mkF m 185 #[.val (.int p0), .val (.int p1), .val (.int p2), .val (.int p3), .val (.long q4), .second, .val (.ref b1), .val (.int ((p0 &&& (2147483647 : Int32)) % (11 : Int32))), .val (.int ((p1 &&& (2147483647 : Int32)) % (11 : Int32))), .val (.int ((p2 &&& (2147483647 : Int32)) % (11 : Int32))), .val (.int ((p3 &&& (2147483647 : Int32)) % (11 : Int32))), .val (.ref b58), .val (.ref b64), .val (.ref b106), .val (.long (0 : Int64)), .second] [(.int ((p0 &&& (2147483647 : Int32)) % (11 : Int32))), (.int ((p3 &&& (2147483647 : Int32)) % (11 : Int32)))])
  by_cases c185_109 : ((p3 &&& (2147483647 : Int32)) % (11 : Int32)) = ((p0 &&& (2147483647 : Int32)) % (11 : Int32))
  ·
    refine own_st (fun t k => XS.icmpNo X106.here hx rfl (hb hby at_185) rfl (teq c185_109).2 k) ?_
    show own_Go _ _ _ _ T106 (mkF m 188 #[.val (.int p0), .val (.int p1), .val (.int p2), .val (.int p3), .val (.long q4), .second, .val (.ref b1), .val (.int ((p0 &&& (2147483647 : Int32)) % (11 : Int32))), .val (.int ((p1 &&& (2147483647 : Int32)) % (11 : Int32))), .val (.int ((p2 &&& (2147483647 : Int32)) % (11 : Int32))), .val (.int ((p3 &&& (2147483647 : Int32)) % (11 : Int32))), .val (.ref b58), .val (.ref b64), .val (.ref b106), .val (.long (0 : Int64)), .second] [])
    refine own_st (fun t k => XS.lload X106.here hx rfl (hb hby at_188) rfl k) ?_
    show own_Go _ _ _ _ T106 (mkF m 190 #[.val (.int p0), .val (.int p1), .val (.int p2), .val (.int p3), .val (.long q4), .second, .val (.ref b1), .val (.int ((p0 &&& (2147483647 : Int32)) % (11 : Int32))), .val (.int ((p1 &&& (2147483647 : Int32)) % (11 : Int32))), .val (.int ((p2 &&& (2147483647 : Int32)) % (11 : Int32))), .val (.int ((p3 &&& (2147483647 : Int32)) % (11 : Int32))), .val (.ref b58), .val (.ref b64), .val (.ref b106), .val (.long (0 : Int64)), .second] [(.long (0 : Int64))])
    refine own_st (fun t k => XS.lload X106.here hx rfl (hb hby at_190) rfl k) ?_
    show own_Go _ _ _ _ T106 (mkF m 192 #[.val (.int p0), .val (.int p1), .val (.int p2), .val (.int p3), .val (.long q4), .second, .val (.ref b1), .val (.int ((p0 &&& (2147483647 : Int32)) % (11 : Int32))), .val (.int ((p1 &&& (2147483647 : Int32)) % (11 : Int32))), .val (.int ((p2 &&& (2147483647 : Int32)) % (11 : Int32))), .val (.int ((p3 &&& (2147483647 : Int32)) % (11 : Int32))), .val (.ref b58), .val (.ref b64), .val (.ref b106), .val (.long (0 : Int64)), .second] [(.long q4), (.long (0 : Int64))])
    refine own_st (fun t k => XS.ladd X106.here hx rfl (hb hby at_192) rfl k) ?_
    show own_Go _ _ _ _ T106 (mkF m 193 #[.val (.int p0), .val (.int p1), .val (.int p2), .val (.int p3), .val (.long q4), .second, .val (.ref b1), .val (.int ((p0 &&& (2147483647 : Int32)) % (11 : Int32))), .val (.int ((p1 &&& (2147483647 : Int32)) % (11 : Int32))), .val (.int ((p2 &&& (2147483647 : Int32)) % (11 : Int32))), .val (.int ((p3 &&& (2147483647 : Int32)) % (11 : Int32))), .val (.ref b58), .val (.ref b64), .val (.ref b106), .val (.long (0 : Int64)), .second] [(.long ((0 : Int64) + q4))])
    refine own_st (fun t k => XS.lstore X106.here hx rfl (hb hby at_193) rfl (l' := #[.val (.int p0), .val (.int p1), .val (.int p2), .val (.int p3), .val (.long q4), .second, .val (.ref b1), .val (.int ((p0 &&& (2147483647 : Int32)) % (11 : Int32))), .val (.int ((p1 &&& (2147483647 : Int32)) % (11 : Int32))), .val (.int ((p2 &&& (2147483647 : Int32)) % (11 : Int32))), .val (.int ((p3 &&& (2147483647 : Int32)) % (11 : Int32))), .val (.ref b58), .val (.ref b64), .val (.ref b106), .val (.long ((0 : Int64) + q4)), .second]) rfl k) ?_
    show own_Go _ _ _ _ T106 (mkF m 195 #[.val (.int p0), .val (.int p1), .val (.int p2), .val (.int p3), .val (.long q4), .second, .val (.ref b1), .val (.int ((p0 &&& (2147483647 : Int32)) % (11 : Int32))), .val (.int ((p1 &&& (2147483647 : Int32)) % (11 : Int32))), .val (.int ((p2 &&& (2147483647 : Int32)) % (11 : Int32))), .val (.int ((p3 &&& (2147483647 : Int32)) % (11 : Int32))), .val (.ref b58), .val (.ref b64), .val (.ref b106), .val (.long ((0 : Int64) + q4)), .second] [])
    refine own_st (fun t k => XS.iload X106.here hx rfl (hb hby at_195) rfl k) ?_
    show own_Go _ _ _ _ T106 (mkF m 197 #[.val (.int p0), .val (.int p1), .val (.int p2), .val (.int p3), .val (.long q4), .second, .val (.ref b1), .val (.int ((p0 &&& (2147483647 : Int32)) % (11 : Int32))), .val (.int ((p1 &&& (2147483647 : Int32)) % (11 : Int32))), .val (.int ((p2 &&& (2147483647 : Int32)) % (11 : Int32))), .val (.int ((p3 &&& (2147483647 : Int32)) % (11 : Int32))), .val (.ref b58), .val (.ref b64), .val (.ref b106), .val (.long ((0 : Int64) + q4)), .second] [(.int ((p3 &&& (2147483647 : Int32)) % (11 : Int32)))])
    refine own_st (fun t k => XS.iload X106.here hx rfl (hb hby at_197) rfl k) ?_
    show own_Go _ _ _ _ T106 (mkF m 199 #[.val (.int p0), .val (.int p1), .val (.int p2), .val (.int p3), .val (.long q4), .second, .val (.ref b1), .val (.int ((p0 &&& (2147483647 : Int32)) % (11 : Int32))), .val (.int ((p1 &&& (2147483647 : Int32)) % (11 : Int32))), .val (.int ((p2 &&& (2147483647 : Int32)) % (11 : Int32))), .val (.int ((p3 &&& (2147483647 : Int32)) % (11 : Int32))), .val (.ref b58), .val (.ref b64), .val (.ref b106), .val (.long ((0 : Int64) + q4)), .second] [(.int ((p1 &&& (2147483647 : Int32)) % (11 : Int32))), (.int ((p3 &&& (2147483647 : Int32)) % (11 : Int32)))])
    by_cases c199_110 : ((p3 &&& (2147483647 : Int32)) % (11 : Int32)) = ((p1 &&& (2147483647 : Int32)) % (11 : Int32))
    ·
      refine own_st (fun t k => XS.icmpNo X106.here hx rfl (hb hby at_199) rfl (teq c199_110).2 k) ?_
      show own_Go _ _ _ _ T106 (mkF m 202 #[.val (.int p0), .val (.int p1), .val (.int p2), .val (.int p3), .val (.long q4), .second, .val (.ref b1), .val (.int ((p0 &&& (2147483647 : Int32)) % (11 : Int32))), .val (.int ((p1 &&& (2147483647 : Int32)) % (11 : Int32))), .val (.int ((p2 &&& (2147483647 : Int32)) % (11 : Int32))), .val (.int ((p3 &&& (2147483647 : Int32)) % (11 : Int32))), .val (.ref b58), .val (.ref b64), .val (.ref b106), .val (.long ((0 : Int64) + q4)), .second] [])
      refine own_st (fun t k => XS.lload X106.here hx rfl (hb hby at_202) rfl k) ?_
      show own_Go _ _ _ _ T106 (mkF m 204 #[.val (.int p0), .val (.int p1), .val (.int p2), .val (.int p3), .val (.long q4), .second, .val (.ref b1), .val (.int ((p0 &&& (2147483647 : Int32)) % (11 : Int32))), .val (.int ((p1 &&& (2147483647 : Int32)) % (11 : Int32))), .val (.int ((p2 &&& (2147483647 : Int32)) % (11 : Int32))), .val (.int ((p3 &&& (2147483647 : Int32)) % (11 : Int32))), .val (.ref b58), .val (.ref b64), .val (.ref b106), .val (.long ((0 : Int64) + q4)), .second] [(.long ((0 : Int64) + q4))])
      refine own_st (fun t k => XS.lconst X106.here hx rfl (hb hby at_204) k) ?_
      show own_Go _ _ _ _ T106 (mkF m 205 #[.val (.int p0), .val (.int p1), .val (.int p2), .val (.int p3), .val (.long q4), .second, .val (.ref b1), .val (.int ((p0 &&& (2147483647 : Int32)) % (11 : Int32))), .val (.int ((p1 &&& (2147483647 : Int32)) % (11 : Int32))), .val (.int ((p2 &&& (2147483647 : Int32)) % (11 : Int32))), .val (.int ((p3 &&& (2147483647 : Int32)) % (11 : Int32))), .val (.ref b58), .val (.ref b64), .val (.ref b106), .val (.long ((0 : Int64) + q4)), .second] [(.long (1 : Int64)), (.long ((0 : Int64) + q4))])
      refine own_st (fun t k => XS.ladd X106.here hx rfl (hb hby at_205) rfl k) ?_
      show own_Go _ _ _ _ T106 (mkF m 206 #[.val (.int p0), .val (.int p1), .val (.int p2), .val (.int p3), .val (.long q4), .second, .val (.ref b1), .val (.int ((p0 &&& (2147483647 : Int32)) % (11 : Int32))), .val (.int ((p1 &&& (2147483647 : Int32)) % (11 : Int32))), .val (.int ((p2 &&& (2147483647 : Int32)) % (11 : Int32))), .val (.int ((p3 &&& (2147483647 : Int32)) % (11 : Int32))), .val (.ref b58), .val (.ref b64), .val (.ref b106), .val (.long ((0 : Int64) + q4)), .second] [(.long (((0 : Int64) + q4) + (1 : Int64)))])
      refine own_st (fun t k => XS.lstore X106.here hx rfl (hb hby at_206) rfl (l' := #[.val (.int p0), .val (.int p1), .val (.int p2), .val (.int p3), .val (.long q4), .second, .val (.ref b1), .val (.int ((p0 &&& (2147483647 : Int32)) % (11 : Int32))), .val (.int ((p1 &&& (2147483647 : Int32)) % (11 : Int32))), .val (.int ((p2 &&& (2147483647 : Int32)) % (11 : Int32))), .val (.int ((p3 &&& (2147483647 : Int32)) % (11 : Int32))), .val (.ref b58), .val (.ref b64), .val (.ref b106), .val (.long (((0 : Int64) + q4) + (1 : Int64))), .second]) rfl k) ?_
      show own_Go _ _ _ _ T106 (mkF m 208 #[.val (.int p0), .val (.int p1), .val (.int p2), .val (.int p3), .val (.long q4), .second, .val (.ref b1), .val (.int ((p0 &&& (2147483647 : Int32)) % (11 : Int32))), .val (.int ((p1 &&& (2147483647 : Int32)) % (11 : Int32))), .val (.int ((p2 &&& (2147483647 : Int32)) % (11 : Int32))), .val (.int ((p3 &&& (2147483647 : Int32)) % (11 : Int32))), .val (.ref b58), .val (.ref b64), .val (.ref b106), .val (.long (((0 : Int64) + q4) + (1 : Int64))), .second] [])
      refine own_st (fun t k => XS.iload X106.here hx rfl (hb hby at_208) rfl k) ?_
      show own_Go _ _ _ _ T106 (mkF m 210 #[.val (.int p0), .val (.int p1), .val (.int p2), .val (.int p3), .val (.long q4), .second, .val (.ref b1), .val (.int ((p0 &&& (2147483647 : Int32)) % (11 : Int32))), .val (.int ((p1 &&& (2147483647 : Int32)) % (11 : Int32))), .val (.int ((p2 &&& (2147483647 : Int32)) % (11 : Int32))), .val (.int ((p3 &&& (2147483647 : Int32)) % (11 : Int32))), .val (.ref b58), .val (.ref b64), .val (.ref b106), .val (.long (((0 : Int64) + q4) + (1 : Int64))), .second] [(.int ((p3 &&& (2147483647 : Int32)) % (11 : Int32)))])
      refine own_st (fun t k => XS.iload X106.here hx rfl (hb hby at_210) rfl k) ?_
      show own_Go _ _ _ _ T106 (mkF m 212 #[.val (.int p0), .val (.int p1), .val (.int p2), .val (.int p3), .val (.long q4), .second, .val (.ref b1), .val (.int ((p0 &&& (2147483647 : Int32)) % (11 : Int32))), .val (.int ((p1 &&& (2147483647 : Int32)) % (11 : Int32))), .val (.int ((p2 &&& (2147483647 : Int32)) % (11 : Int32))), .val (.int ((p3 &&& (2147483647 : Int32)) % (11 : Int32))), .val (.ref b58), .val (.ref b64), .val (.ref b106), .val (.long (((0 : Int64) + q4) + (1 : Int64))), .second] [(.int ((p2 &&& (2147483647 : Int32)) % (11 : Int32))), (.int ((p3 &&& (2147483647 : Int32)) % (11 : Int32)))])
      by_cases c212_111 : ((p3 &&& (2147483647 : Int32)) % (11 : Int32)) = ((p2 &&& (2147483647 : Int32)) % (11 : Int32))
      ·
        refine own_st (fun t k => XS.icmpNo X106.here hx rfl (hb hby at_212) rfl (teq c212_111).2 k) ?_
        show own_Go _ _ _ _ T106 (mkF m 215 #[.val (.int p0), .val (.int p1), .val (.int p2), .val (.int p3), .val (.long q4), .second, .val (.ref b1), .val (.int ((p0 &&& (2147483647 : Int32)) % (11 : Int32))), .val (.int ((p1 &&& (2147483647 : Int32)) % (11 : Int32))), .val (.int ((p2 &&& (2147483647 : Int32)) % (11 : Int32))), .val (.int ((p3 &&& (2147483647 : Int32)) % (11 : Int32))), .val (.ref b58), .val (.ref b64), .val (.ref b106), .val (.long (((0 : Int64) + q4) + (1 : Int64))), .second] [])
        refine own_st (fun t k => XS.lload X106.here hx rfl (hb hby at_215) rfl k) ?_
        show own_Go _ _ _ _ T106 (mkF m 217 #[.val (.int p0), .val (.int p1), .val (.int p2), .val (.int p3), .val (.long q4), .second, .val (.ref b1), .val (.int ((p0 &&& (2147483647 : Int32)) % (11 : Int32))), .val (.int ((p1 &&& (2147483647 : Int32)) % (11 : Int32))), .val (.int ((p2 &&& (2147483647 : Int32)) % (11 : Int32))), .val (.int ((p3 &&& (2147483647 : Int32)) % (11 : Int32))), .val (.ref b58), .val (.ref b64), .val (.ref b106), .val (.long (((0 : Int64) + q4) + (1 : Int64))), .second] [(.long (((0 : Int64) + q4) + (1 : Int64)))])
        refine own_st (fun t k => XS.lconst X106.here hx rfl (hb hby at_217) k) ?_
        show own_Go _ _ _ _ T106 (mkF m 218 #[.val (.int p0), .val (.int p1), .val (.int p2), .val (.int p3), .val (.long q4), .second, .val (.ref b1), .val (.int ((p0 &&& (2147483647 : Int32)) % (11 : Int32))), .val (.int ((p1 &&& (2147483647 : Int32)) % (11 : Int32))), .val (.int ((p2 &&& (2147483647 : Int32)) % (11 : Int32))), .val (.int ((p3 &&& (2147483647 : Int32)) % (11 : Int32))), .val (.ref b58), .val (.ref b64), .val (.ref b106), .val (.long (((0 : Int64) + q4) + (1 : Int64))), .second] [(.long (1 : Int64)), (.long (((0 : Int64) + q4) + (1 : Int64)))])
        refine own_st (fun t k => XS.ladd X106.here hx rfl (hb hby at_218) rfl k) ?_
        show own_Go _ _ _ _ T106 (mkF m 219 #[.val (.int p0), .val (.int p1), .val (.int p2), .val (.int p3), .val (.long q4), .second, .val (.ref b1), .val (.int ((p0 &&& (2147483647 : Int32)) % (11 : Int32))), .val (.int ((p1 &&& (2147483647 : Int32)) % (11 : Int32))), .val (.int ((p2 &&& (2147483647 : Int32)) % (11 : Int32))), .val (.int ((p3 &&& (2147483647 : Int32)) % (11 : Int32))), .val (.ref b58), .val (.ref b64), .val (.ref b106), .val (.long (((0 : Int64) + q4) + (1 : Int64))), .second] [(.long ((((0 : Int64) + q4) + (1 : Int64)) + (1 : Int64)))])
        refine own_st (fun t k => XS.lstore X106.here hx rfl (hb hby at_219) rfl (l' := #[.val (.int p0), .val (.int p1), .val (.int p2), .val (.int p3), .val (.long q4), .second, .val (.ref b1), .val (.int ((p0 &&& (2147483647 : Int32)) % (11 : Int32))), .val (.int ((p1 &&& (2147483647 : Int32)) % (11 : Int32))), .val (.int ((p2 &&& (2147483647 : Int32)) % (11 : Int32))), .val (.int ((p3 &&& (2147483647 : Int32)) % (11 : Int32))), .val (.ref b58), .val (.ref b64), .val (.ref b106), .val (.long ((((0 : Int64) + q4) + (1 : Int64)) + (1 : Int64))), .second]) rfl k) ?_
        show own_Go _ _ _ _ T106 (mkF m 221 #[.val (.int p0), .val (.int p1), .val (.int p2), .val (.int p3), .val (.long q4), .second, .val (.ref b1), .val (.int ((p0 &&& (2147483647 : Int32)) % (11 : Int32))), .val (.int ((p1 &&& (2147483647 : Int32)) % (11 : Int32))), .val (.int ((p2 &&& (2147483647 : Int32)) % (11 : Int32))), .val (.int ((p3 &&& (2147483647 : Int32)) % (11 : Int32))), .val (.ref b58), .val (.ref b64), .val (.ref b106), .val (.long ((((0 : Int64) + q4) + (1 : Int64)) + (1 : Int64))), .second] [])
        refine own_st (fun t k => XS.aload X106.here hx rfl (hb hby at_221) rfl rfl k) ?_
        show own_Go _ _ _ _ T106 (mkF m 223 #[.val (.int p0), .val (.int p1), .val (.int p2), .val (.int p3), .val (.long q4), .second, .val (.ref b1), .val (.int ((p0 &&& (2147483647 : Int32)) % (11 : Int32))), .val (.int ((p1 &&& (2147483647 : Int32)) % (11 : Int32))), .val (.int ((p2 &&& (2147483647 : Int32)) % (11 : Int32))), .val (.int ((p3 &&& (2147483647 : Int32)) % (11 : Int32))), .val (.ref b58), .val (.ref b64), .val (.ref b106), .val (.long ((((0 : Int64) + q4) + (1 : Int64)) + (1 : Int64))), .second] [(.ref b106)])
        refine own_st (fun t k => XS.iload X106.here hx rfl (hb hby at_223) rfl k) ?_
        show own_Go _ _ _ _ T106 (mkF m 225 #[.val (.int p0), .val (.int p1), .val (.int p2), .val (.int p3), .val (.long q4), .second, .val (.ref b1), .val (.int ((p0 &&& (2147483647 : Int32)) % (11 : Int32))), .val (.int ((p1 &&& (2147483647 : Int32)) % (11 : Int32))), .val (.int ((p2 &&& (2147483647 : Int32)) % (11 : Int32))), .val (.int ((p3 &&& (2147483647 : Int32)) % (11 : Int32))), .val (.ref b58), .val (.ref b64), .val (.ref b106), .val (.long ((((0 : Int64) + q4) + (1 : Int64)) + (1 : Int64))), .second] [(.int ((p3 &&& (2147483647 : Int32)) % (11 : Int32))), (.ref b106)])
        have O0_112 := (((O0_92.keep K95 (allS g_ar60 all0)).ext E100).keep K106 (all0))
        have K0_114 := (K0_107.trans K106 (all0))
        obtain ⟨_, _, ⟨T113, L113, k113, n113⟩, -, X113, ⟨Lc113, hQ113, l113, y113, z113⟩, st113⟩ := Jvm.LawKit.callS X106 hx (y := (⟨"com/example/hot_pool/hotpool/stats/PoolCountsAddPinLaw", "read", "(Lcom/example/hot_pool/hotpool/stats/HotPoolStatistics;I)J"⟩ : MethodName)) hown100 (mvT hZ100 (hw _ (List.mem_of_getElem? (i := 110) rfl))) (mvT hZ100 (hw _ (List.mem_of_getElem? (i := 111) rfl))) (mvT hZ100 (hw _ (List.mem_of_getElem? (i := 112) rfl))) (mvT hZ100 (hw _ (List.mem_of_getElem? (i := 113) rfl))) (by decide) (backOf (W := 0) (rm9 l Z a0 hw [] b106 ((p3 &&& (2147483647 : Int32)) % (11 : Int32)) ar106 k106 xl97 es  T106.heap n0 (Nat.le_trans Z0 K0_114.1) E106 F106 V106 hG O0_112 (own_rem _)) hZ100 (hw _ (List.mem_of_getElem? (i := 113) rfl)) (hw _ (List.mem_of_getElem? (i := 112) rfl)) (by decide) (by decide)) (g := (mkF m 225 #[.val (.int p0), .val (.int p1), .val (.int p2), .val (.int p3), .val (.long q4), .second, .val (.ref b1), .val (.int ((p0 &&& (2147483647 : Int32)) % (11 : Int32))), .val (.int ((p1 &&& (2147483647 : Int32)) % (11 : Int32))), .val (.int ((p2 &&& (2147483647 : Int32)) % (11 : Int32))), .val (.int ((p3 &&& (2147483647 : Int32)) % (11 : Int32))), .val (.ref b58), .val (.ref b64), .val (.ref b106), .val (.long ((((0 : Int64) + q4) + (1 : Int64)) + (1 : Int64))), .second] [(.int ((p3 &&& (2147483647 : Int32)) % (11 : Int32))), (.ref b106)])) rfl (by rw [hml]; rfl) (argsL := [(.ref b106), (.int ((p3 &&& (2147483647 : Int32)) % (11 : Int32)))]) (rest := []) (lenOf pd_200029 rfl) rfl (by show 2 * 0 + _ ≤ _; exact Nat.le_of_eq rfl) (hb hby at_225) (fun _ _ => ⟨rfl, rfl, (by decide : 11 + 0 ≤ _), (by decide : 81 + 0 ≤ _)⟩)
        dsimp only [Pt.U, Pt.locs, Pt.cells, Pt.slots] at X113 l113 y113 z113 st113 hQ113
        subst l113 y113 z113
        obtain ⟨rfl, N113q, e113⟩ := hQ113
        obtain ⟨_, X113, N113⟩ := own_hide X113 (Fr.app N106 N113q)
        refine own_st st113 ?_
        show own_Go _ _ _ _ T113 (mkF m 228 #[.val (.int p0), .val (.int p1), .val (.int p2), .val (.int p3), .val (.long q4), .second, .val (.ref b1), .val (.int ((p0 &&& (2147483647 : Int32)) % (11 : Int32))), .val (.int ((p1 &&& (2147483647 : Int32)) % (11 : Int32))), .val (.int ((p2 &&& (2147483647 : Int32)) % (11 : Int32))), .val (.int ((p3 &&& (2147483647 : Int32)) % (11 : Int32))), .val (.ref b58), .val (.ref b64), .val (.ref b106), .val (.long ((((0 : Int64) + q4) + (1 : Int64)) + (1 : Int64))), .second] [(.long (xl97.getD (((p3 &&& (2147483647 : Int32)) % (11 : Int32))).toNatClampNeg 0))])
        refine own_st (fun t k => XS.lload X113.here hx rfl (hb hby at_228) rfl k) ?_
        show own_Go _ _ _ _ T113 (mkF m 230 #[.val (.int p0), .val (.int p1), .val (.int p2), .val (.int p3), .val (.long q4), .second, .val (.ref b1), .val (.int ((p0 &&& (2147483647 : Int32)) % (11 : Int32))), .val (.int ((p1 &&& (2147483647 : Int32)) % (11 : Int32))), .val (.int ((p2 &&& (2147483647 : Int32)) % (11 : Int32))), .val (.int ((p3 &&& (2147483647 : Int32)) % (11 : Int32))), .val (.ref b58), .val (.ref b64), .val (.ref b106), .val (.long ((((0 : Int64) + q4) + (1 : Int64)) + (1 : Int64))), .second] [(.long ((((0 : Int64) + q4) + (1 : Int64)) + (1 : Int64))), (.long (xl97.getD (((p3 &&& (2147483647 : Int32)) % (11 : Int32))).toNatClampNeg 0))])
        refine own_st (fun t k => XS.lcmp X113.here hx rfl (hb hby at_230) rfl k) ?_
        show own_Go _ _ _ _ T113 (mkF m 231 #[.val (.int p0), .val (.int p1), .val (.int p2), .val (.int p3), .val (.long q4), .second, .val (.ref b1), .val (.int ((p0 &&& (2147483647 : Int32)) % (11 : Int32))), .val (.int ((p1 &&& (2147483647 : Int32)) % (11 : Int32))), .val (.int ((p2 &&& (2147483647 : Int32)) % (11 : Int32))), .val (.int ((p3 &&& (2147483647 : Int32)) % (11 : Int32))), .val (.ref b58), .val (.ref b64), .val (.ref b106), .val (.long ((((0 : Int64) + q4) + (1 : Int64)) + (1 : Int64))), .second] [(.int (lcmpW (xl97.getD (((p3 &&& (2147483647 : Int32)) % (11 : Int32))).toNatClampNeg 0) ((((0 : Int64) + q4) + (1 : Int64)) + (1 : Int64))))])
        refine own_st (fun t k => XS.ifNo X113.here hx rfl (hb hby at_231) rfl ((if0 _ _).trans (teq ((lw_eq _ _).mpr (by rw [own_fin _ _ _ _ _ (own_rem p0) (own_rem p1) (own_rem p2) (own_rem p3) _ _ _ ex81 ex89 ex97]; simp only [if_pos c185_109, if_pos c199_110, if_pos c212_111] : (xl97.getD (((p3 &&& (2147483647 : Int32)) % (11 : Int32))).toNatClampNeg 0) = ((((0 : Int64) + q4) + (1 : Int64)) + (1 : Int64))))).2) k) ?_
        show own_Go _ _ _ _ T113 (mkF m 234 #[.val (.int p0), .val (.int p1), .val (.int p2), .val (.int p3), .val (.long q4), .second, .val (.ref b1), .val (.int ((p0 &&& (2147483647 : Int32)) % (11 : Int32))), .val (.int ((p1 &&& (2147483647 : Int32)) % (11 : Int32))), .val (.int ((p2 &&& (2147483647 : Int32)) % (11 : Int32))), .val (.int ((p3 &&& (2147483647 : Int32)) % (11 : Int32))), .val (.ref b58), .val (.ref b64), .val (.ref b106), .val (.long ((((0 : Int64) + q4) + (1 : Int64)) + (1 : Int64))), .second] [])
        refine own_st (fun t k => XS.iconst X113.here hx rfl (hb hby at_234) k) ?_
        show own_Go _ _ _ _ T113 (mkF m 235 #[.val (.int p0), .val (.int p1), .val (.int p2), .val (.int p3), .val (.long q4), .second, .val (.ref b1), .val (.int ((p0 &&& (2147483647 : Int32)) % (11 : Int32))), .val (.int ((p1 &&& (2147483647 : Int32)) % (11 : Int32))), .val (.int ((p2 &&& (2147483647 : Int32)) % (11 : Int32))), .val (.int ((p3 &&& (2147483647 : Int32)) % (11 : Int32))), .val (.ref b58), .val (.ref b64), .val (.ref b106), .val (.long ((((0 : Int64) + q4) + (1 : Int64)) + (1 : Int64))), .second] [(.int (1 : Int32))])
        refine own_st (fun t k => XS.goto X113.here hx rfl (pc0 := 235) (pc' := 239) rfl (hb hby at_235) (by decide) (by decide) k) ?_
        show own_Go _ _ _ _ T113 (mkF m 239 #[.val (.int p0), .val (.int p1), .val (.int p2), .val (.int p3), .val (.long q4), .second, .val (.ref b1), .val (.int ((p0 &&& (2147483647 : Int32)) % (11 : Int32))), .val (.int ((p1 &&& (2147483647 : Int32)) % (11 : Int32))), .val (.int ((p2 &&& (2147483647 : Int32)) % (11 : Int32))), .val (.int ((p3 &&& (2147483647 : Int32)) % (11 : Int32))), .val (.ref b58), .val (.ref b64), .val (.ref b106), .val (.long ((((0 : Int64) + q4) + (1 : Int64)) + (1 : Int64))), .second] [(.int (1 : Int32))])
        have hk100_115 := (Nat.le_trans hk100 K106.1)
        exact own_retNW X113 hS100 (by rw [e113]; exact hk100_115) hx hlk (t := .boolean) hrt (by simp) (hb hby at_239) ⟨rfl, N113⟩ (by decide) (by decide)
      ·
        refine own_st (fun t k => XS.icmpYes X106.here hx rfl (pc0 := 212) (pc' := 221) rfl (hb hby at_212) rfl (feq c212_111).2 (by decide) (by decide) k) ?_
        show own_Go _ _ _ _ T106 (mkF m 221 #[.val (.int p0), .val (.int p1), .val (.int p2), .val (.int p3), .val (.long q4), .second, .val (.ref b1), .val (.int ((p0 &&& (2147483647 : Int32)) % (11 : Int32))), .val (.int ((p1 &&& (2147483647 : Int32)) % (11 : Int32))), .val (.int ((p2 &&& (2147483647 : Int32)) % (11 : Int32))), .val (.int ((p3 &&& (2147483647 : Int32)) % (11 : Int32))), .val (.ref b58), .val (.ref b64), .val (.ref b106), .val (.long (((0 : Int64) + q4) + (1 : Int64))), .second] [])
        refine own_st (fun t k => XS.aload X106.here hx rfl (hb hby at_221) rfl rfl k) ?_
        show own_Go _ _ _ _ T106 (mkF m 223 #[.val (.int p0), .val (.int p1), .val (.int p2), .val (.int p3), .val (.long q4), .second, .val (.ref b1), .val (.int ((p0 &&& (2147483647 : Int32)) % (11 : Int32))), .val (.int ((p1 &&& (2147483647 : Int32)) % (11 : Int32))), .val (.int ((p2 &&& (2147483647 : Int32)) % (11 : Int32))), .val (.int ((p3 &&& (2147483647 : Int32)) % (11 : Int32))), .val (.ref b58), .val (.ref b64), .val (.ref b106), .val (.long (((0 : Int64) + q4) + (1 : Int64))), .second] [(.ref b106)])
        refine own_st (fun t k => XS.iload X106.here hx rfl (hb hby at_223) rfl k) ?_
        show own_Go _ _ _ _ T106 (mkF m 225 #[.val (.int p0), .val (.int p1), .val (.int p2), .val (.int p3), .val (.long q4), .second, .val (.ref b1), .val (.int ((p0 &&& (2147483647 : Int32)) % (11 : Int32))), .val (.int ((p1 &&& (2147483647 : Int32)) % (11 : Int32))), .val (.int ((p2 &&& (2147483647 : Int32)) % (11 : Int32))), .val (.int ((p3 &&& (2147483647 : Int32)) % (11 : Int32))), .val (.ref b58), .val (.ref b64), .val (.ref b106), .val (.long (((0 : Int64) + q4) + (1 : Int64))), .second] [(.int ((p3 &&& (2147483647 : Int32)) % (11 : Int32))), (.ref b106)])
        have O0_116 := (((O0_92.keep K95 (allS g_ar60 all0)).ext E100).keep K106 (all0))
        have K0_118 := (K0_107.trans K106 (all0))
        obtain ⟨_, _, ⟨T117, L117, k117, n117⟩, -, X117, ⟨Lc117, hQ117, l117, y117, z117⟩, st117⟩ := Jvm.LawKit.callS X106 hx (y := (⟨"com/example/hot_pool/hotpool/stats/PoolCountsAddPinLaw", "read", "(Lcom/example/hot_pool/hotpool/stats/HotPoolStatistics;I)J"⟩ : MethodName)) hown100 (mvT hZ100 (hw _ (List.mem_of_getElem? (i := 110) rfl))) (mvT hZ100 (hw _ (List.mem_of_getElem? (i := 111) rfl))) (mvT hZ100 (hw _ (List.mem_of_getElem? (i := 112) rfl))) (mvT hZ100 (hw _ (List.mem_of_getElem? (i := 113) rfl))) (by decide) (backOf (W := 0) (rm9 l Z a0 hw [] b106 ((p3 &&& (2147483647 : Int32)) % (11 : Int32)) ar106 k106 xl97 es  T106.heap n0 (Nat.le_trans Z0 K0_118.1) E106 F106 V106 hG O0_116 (own_rem _)) hZ100 (hw _ (List.mem_of_getElem? (i := 113) rfl)) (hw _ (List.mem_of_getElem? (i := 112) rfl)) (by decide) (by decide)) (g := (mkF m 225 #[.val (.int p0), .val (.int p1), .val (.int p2), .val (.int p3), .val (.long q4), .second, .val (.ref b1), .val (.int ((p0 &&& (2147483647 : Int32)) % (11 : Int32))), .val (.int ((p1 &&& (2147483647 : Int32)) % (11 : Int32))), .val (.int ((p2 &&& (2147483647 : Int32)) % (11 : Int32))), .val (.int ((p3 &&& (2147483647 : Int32)) % (11 : Int32))), .val (.ref b58), .val (.ref b64), .val (.ref b106), .val (.long (((0 : Int64) + q4) + (1 : Int64))), .second] [(.int ((p3 &&& (2147483647 : Int32)) % (11 : Int32))), (.ref b106)])) rfl (by rw [hml]; rfl) (argsL := [(.ref b106), (.int ((p3 &&& (2147483647 : Int32)) % (11 : Int32)))]) (rest := []) (lenOf pd_200029 rfl) rfl (by show 2 * 0 + _ ≤ _; exact Nat.le_of_eq rfl) (hb hby at_225) (fun _ _ => ⟨rfl, rfl, (by decide : 11 + 0 ≤ _), (by decide : 81 + 0 ≤ _)⟩)
        dsimp only [Pt.U, Pt.locs, Pt.cells, Pt.slots] at X117 l117 y117 z117 st117 hQ117
        subst l117 y117 z117
        obtain ⟨rfl, N117q, e117⟩ := hQ117
        obtain ⟨_, X117, N117⟩ := own_hide X117 (Fr.app N106 N117q)
        refine own_st st117 ?_
        show own_Go _ _ _ _ T117 (mkF m 228 #[.val (.int p0), .val (.int p1), .val (.int p2), .val (.int p3), .val (.long q4), .second, .val (.ref b1), .val (.int ((p0 &&& (2147483647 : Int32)) % (11 : Int32))), .val (.int ((p1 &&& (2147483647 : Int32)) % (11 : Int32))), .val (.int ((p2 &&& (2147483647 : Int32)) % (11 : Int32))), .val (.int ((p3 &&& (2147483647 : Int32)) % (11 : Int32))), .val (.ref b58), .val (.ref b64), .val (.ref b106), .val (.long (((0 : Int64) + q4) + (1 : Int64))), .second] [(.long (xl97.getD (((p3 &&& (2147483647 : Int32)) % (11 : Int32))).toNatClampNeg 0))])
        refine own_st (fun t k => XS.lload X117.here hx rfl (hb hby at_228) rfl k) ?_
        show own_Go _ _ _ _ T117 (mkF m 230 #[.val (.int p0), .val (.int p1), .val (.int p2), .val (.int p3), .val (.long q4), .second, .val (.ref b1), .val (.int ((p0 &&& (2147483647 : Int32)) % (11 : Int32))), .val (.int ((p1 &&& (2147483647 : Int32)) % (11 : Int32))), .val (.int ((p2 &&& (2147483647 : Int32)) % (11 : Int32))), .val (.int ((p3 &&& (2147483647 : Int32)) % (11 : Int32))), .val (.ref b58), .val (.ref b64), .val (.ref b106), .val (.long (((0 : Int64) + q4) + (1 : Int64))), .second] [(.long (((0 : Int64) + q4) + (1 : Int64))), (.long (xl97.getD (((p3 &&& (2147483647 : Int32)) % (11 : Int32))).toNatClampNeg 0))])
        refine own_st (fun t k => XS.lcmp X117.here hx rfl (hb hby at_230) rfl k) ?_
        show own_Go _ _ _ _ T117 (mkF m 231 #[.val (.int p0), .val (.int p1), .val (.int p2), .val (.int p3), .val (.long q4), .second, .val (.ref b1), .val (.int ((p0 &&& (2147483647 : Int32)) % (11 : Int32))), .val (.int ((p1 &&& (2147483647 : Int32)) % (11 : Int32))), .val (.int ((p2 &&& (2147483647 : Int32)) % (11 : Int32))), .val (.int ((p3 &&& (2147483647 : Int32)) % (11 : Int32))), .val (.ref b58), .val (.ref b64), .val (.ref b106), .val (.long (((0 : Int64) + q4) + (1 : Int64))), .second] [(.int (lcmpW (xl97.getD (((p3 &&& (2147483647 : Int32)) % (11 : Int32))).toNatClampNeg 0) (((0 : Int64) + q4) + (1 : Int64))))])
        refine own_st (fun t k => XS.ifNo X117.here hx rfl (hb hby at_231) rfl ((if0 _ _).trans (teq ((lw_eq _ _).mpr (by rw [own_fin _ _ _ _ _ (own_rem p0) (own_rem p1) (own_rem p2) (own_rem p3) _ _ _ ex81 ex89 ex97]; simp only [if_pos c185_109, if_pos c199_110, if_neg c212_111] : (xl97.getD (((p3 &&& (2147483647 : Int32)) % (11 : Int32))).toNatClampNeg 0) = (((0 : Int64) + q4) + (1 : Int64))))).2) k) ?_
        show own_Go _ _ _ _ T117 (mkF m 234 #[.val (.int p0), .val (.int p1), .val (.int p2), .val (.int p3), .val (.long q4), .second, .val (.ref b1), .val (.int ((p0 &&& (2147483647 : Int32)) % (11 : Int32))), .val (.int ((p1 &&& (2147483647 : Int32)) % (11 : Int32))), .val (.int ((p2 &&& (2147483647 : Int32)) % (11 : Int32))), .val (.int ((p3 &&& (2147483647 : Int32)) % (11 : Int32))), .val (.ref b58), .val (.ref b64), .val (.ref b106), .val (.long (((0 : Int64) + q4) + (1 : Int64))), .second] [])
        refine own_st (fun t k => XS.iconst X117.here hx rfl (hb hby at_234) k) ?_
        show own_Go _ _ _ _ T117 (mkF m 235 #[.val (.int p0), .val (.int p1), .val (.int p2), .val (.int p3), .val (.long q4), .second, .val (.ref b1), .val (.int ((p0 &&& (2147483647 : Int32)) % (11 : Int32))), .val (.int ((p1 &&& (2147483647 : Int32)) % (11 : Int32))), .val (.int ((p2 &&& (2147483647 : Int32)) % (11 : Int32))), .val (.int ((p3 &&& (2147483647 : Int32)) % (11 : Int32))), .val (.ref b58), .val (.ref b64), .val (.ref b106), .val (.long (((0 : Int64) + q4) + (1 : Int64))), .second] [(.int (1 : Int32))])
        refine own_st (fun t k => XS.goto X117.here hx rfl (pc0 := 235) (pc' := 239) rfl (hb hby at_235) (by decide) (by decide) k) ?_
        show own_Go _ _ _ _ T117 (mkF m 239 #[.val (.int p0), .val (.int p1), .val (.int p2), .val (.int p3), .val (.long q4), .second, .val (.ref b1), .val (.int ((p0 &&& (2147483647 : Int32)) % (11 : Int32))), .val (.int ((p1 &&& (2147483647 : Int32)) % (11 : Int32))), .val (.int ((p2 &&& (2147483647 : Int32)) % (11 : Int32))), .val (.int ((p3 &&& (2147483647 : Int32)) % (11 : Int32))), .val (.ref b58), .val (.ref b64), .val (.ref b106), .val (.long (((0 : Int64) + q4) + (1 : Int64))), .second] [(.int (1 : Int32))])
        have hk100_119 := (Nat.le_trans hk100 K106.1)
        exact own_retNW X117 hS100 (by rw [e117]; exact hk100_119) hx hlk (t := .boolean) hrt (by simp) (hb hby at_239) ⟨rfl, N117⟩ (by decide) (by decide)
    ·
      refine own_st (fun t k => XS.icmpYes X106.here hx rfl (pc0 := 199) (pc' := 208) rfl (hb hby at_199) rfl (feq c199_110).2 (by decide) (by decide) k) ?_
      show own_Go _ _ _ _ T106 (mkF m 208 #[.val (.int p0), .val (.int p1), .val (.int p2), .val (.int p3), .val (.long q4), .second, .val (.ref b1), .val (.int ((p0 &&& (2147483647 : Int32)) % (11 : Int32))), .val (.int ((p1 &&& (2147483647 : Int32)) % (11 : Int32))), .val (.int ((p2 &&& (2147483647 : Int32)) % (11 : Int32))), .val (.int ((p3 &&& (2147483647 : Int32)) % (11 : Int32))), .val (.ref b58), .val (.ref b64), .val (.ref b106), .val (.long ((0 : Int64) + q4)), .second] [])
      refine own_st (fun t k => XS.iload X106.here hx rfl (hb hby at_208) rfl k) ?_
      show own_Go _ _ _ _ T106 (mkF m 210 #[.val (.int p0), .val (.int p1), .val (.int p2), .val (.int p3), .val (.long q4), .second, .val (.ref b1), .val (.int ((p0 &&& (2147483647 : Int32)) % (11 : Int32))), .val (.int ((p1 &&& (2147483647 : Int32)) % (11 : Int32))), .val (.int ((p2 &&& (2147483647 : Int32)) % (11 : Int32))), .val (.int ((p3 &&& (2147483647 : Int32)) % (11 : Int32))), .val (.ref b58), .val (.ref b64), .val (.ref b106), .val (.long ((0 : Int64) + q4)), .second] [(.int ((p3 &&& (2147483647 : Int32)) % (11 : Int32)))])
      refine own_st (fun t k => XS.iload X106.here hx rfl (hb hby at_210) rfl k) ?_
      show own_Go _ _ _ _ T106 (mkF m 212 #[.val (.int p0), .val (.int p1), .val (.int p2), .val (.int p3), .val (.long q4), .second, .val (.ref b1), .val (.int ((p0 &&& (2147483647 : Int32)) % (11 : Int32))), .val (.int ((p1 &&& (2147483647 : Int32)) % (11 : Int32))), .val (.int ((p2 &&& (2147483647 : Int32)) % (11 : Int32))), .val (.int ((p3 &&& (2147483647 : Int32)) % (11 : Int32))), .val (.ref b58), .val (.ref b64), .val (.ref b106), .val (.long ((0 : Int64) + q4)), .second] [(.int ((p2 &&& (2147483647 : Int32)) % (11 : Int32))), (.int ((p3 &&& (2147483647 : Int32)) % (11 : Int32)))])
      by_cases c212_120 : ((p3 &&& (2147483647 : Int32)) % (11 : Int32)) = ((p2 &&& (2147483647 : Int32)) % (11 : Int32))
      ·
        refine own_st (fun t k => XS.icmpNo X106.here hx rfl (hb hby at_212) rfl (teq c212_120).2 k) ?_
        show own_Go _ _ _ _ T106 (mkF m 215 #[.val (.int p0), .val (.int p1), .val (.int p2), .val (.int p3), .val (.long q4), .second, .val (.ref b1), .val (.int ((p0 &&& (2147483647 : Int32)) % (11 : Int32))), .val (.int ((p1 &&& (2147483647 : Int32)) % (11 : Int32))), .val (.int ((p2 &&& (2147483647 : Int32)) % (11 : Int32))), .val (.int ((p3 &&& (2147483647 : Int32)) % (11 : Int32))), .val (.ref b58), .val (.ref b64), .val (.ref b106), .val (.long ((0 : Int64) + q4)), .second] [])
        refine own_st (fun t k => XS.lload X106.here hx rfl (hb hby at_215) rfl k) ?_
        show own_Go _ _ _ _ T106 (mkF m 217 #[.val (.int p0), .val (.int p1), .val (.int p2), .val (.int p3), .val (.long q4), .second, .val (.ref b1), .val (.int ((p0 &&& (2147483647 : Int32)) % (11 : Int32))), .val (.int ((p1 &&& (2147483647 : Int32)) % (11 : Int32))), .val (.int ((p2 &&& (2147483647 : Int32)) % (11 : Int32))), .val (.int ((p3 &&& (2147483647 : Int32)) % (11 : Int32))), .val (.ref b58), .val (.ref b64), .val (.ref b106), .val (.long ((0 : Int64) + q4)), .second] [(.long ((0 : Int64) + q4))])
        refine own_st (fun t k => XS.lconst X106.here hx rfl (hb hby at_217) k) ?_
        show own_Go _ _ _ _ T106 (mkF m 218 #[.val (.int p0), .val (.int p1), .val (.int p2), .val (.int p3), .val (.long q4), .second, .val (.ref b1), .val (.int ((p0 &&& (2147483647 : Int32)) % (11 : Int32))), .val (.int ((p1 &&& (2147483647 : Int32)) % (11 : Int32))), .val (.int ((p2 &&& (2147483647 : Int32)) % (11 : Int32))), .val (.int ((p3 &&& (2147483647 : Int32)) % (11 : Int32))), .val (.ref b58), .val (.ref b64), .val (.ref b106), .val (.long ((0 : Int64) + q4)), .second] [(.long (1 : Int64)), (.long ((0 : Int64) + q4))])
        refine own_st (fun t k => XS.ladd X106.here hx rfl (hb hby at_218) rfl k) ?_
        show own_Go _ _ _ _ T106 (mkF m 219 #[.val (.int p0), .val (.int p1), .val (.int p2), .val (.int p3), .val (.long q4), .second, .val (.ref b1), .val (.int ((p0 &&& (2147483647 : Int32)) % (11 : Int32))), .val (.int ((p1 &&& (2147483647 : Int32)) % (11 : Int32))), .val (.int ((p2 &&& (2147483647 : Int32)) % (11 : Int32))), .val (.int ((p3 &&& (2147483647 : Int32)) % (11 : Int32))), .val (.ref b58), .val (.ref b64), .val (.ref b106), .val (.long ((0 : Int64) + q4)), .second] [(.long (((0 : Int64) + q4) + (1 : Int64)))])
        refine own_st (fun t k => XS.lstore X106.here hx rfl (hb hby at_219) rfl (l' := #[.val (.int p0), .val (.int p1), .val (.int p2), .val (.int p3), .val (.long q4), .second, .val (.ref b1), .val (.int ((p0 &&& (2147483647 : Int32)) % (11 : Int32))), .val (.int ((p1 &&& (2147483647 : Int32)) % (11 : Int32))), .val (.int ((p2 &&& (2147483647 : Int32)) % (11 : Int32))), .val (.int ((p3 &&& (2147483647 : Int32)) % (11 : Int32))), .val (.ref b58), .val (.ref b64), .val (.ref b106), .val (.long (((0 : Int64) + q4) + (1 : Int64))), .second]) rfl k) ?_
        show own_Go _ _ _ _ T106 (mkF m 221 #[.val (.int p0), .val (.int p1), .val (.int p2), .val (.int p3), .val (.long q4), .second, .val (.ref b1), .val (.int ((p0 &&& (2147483647 : Int32)) % (11 : Int32))), .val (.int ((p1 &&& (2147483647 : Int32)) % (11 : Int32))), .val (.int ((p2 &&& (2147483647 : Int32)) % (11 : Int32))), .val (.int ((p3 &&& (2147483647 : Int32)) % (11 : Int32))), .val (.ref b58), .val (.ref b64), .val (.ref b106), .val (.long (((0 : Int64) + q4) + (1 : Int64))), .second] [])
        refine own_st (fun t k => XS.aload X106.here hx rfl (hb hby at_221) rfl rfl k) ?_
        show own_Go _ _ _ _ T106 (mkF m 223 #[.val (.int p0), .val (.int p1), .val (.int p2), .val (.int p3), .val (.long q4), .second, .val (.ref b1), .val (.int ((p0 &&& (2147483647 : Int32)) % (11 : Int32))), .val (.int ((p1 &&& (2147483647 : Int32)) % (11 : Int32))), .val (.int ((p2 &&& (2147483647 : Int32)) % (11 : Int32))), .val (.int ((p3 &&& (2147483647 : Int32)) % (11 : Int32))), .val (.ref b58), .val (.ref b64), .val (.ref b106), .val (.long (((0 : Int64) + q4) + (1 : Int64))), .second] [(.ref b106)])
        refine own_st (fun t k => XS.iload X106.here hx rfl (hb hby at_223) rfl k) ?_
        show own_Go _ _ _ _ T106 (mkF m 225 #[.val (.int p0), .val (.int p1), .val (.int p2), .val (.int p3), .val (.long q4), .second, .val (.ref b1), .val (.int ((p0 &&& (2147483647 : Int32)) % (11 : Int32))), .val (.int ((p1 &&& (2147483647 : Int32)) % (11 : Int32))), .val (.int ((p2 &&& (2147483647 : Int32)) % (11 : Int32))), .val (.int ((p3 &&& (2147483647 : Int32)) % (11 : Int32))), .val (.ref b58), .val (.ref b64), .val (.ref b106), .val (.long (((0 : Int64) + q4) + (1 : Int64))), .second] [(.int ((p3 &&& (2147483647 : Int32)) % (11 : Int32))), (.ref b106)])
        have O0_121 := (((O0_92.keep K95 (allS g_ar60 all0)).ext E100).keep K106 (all0))
        have K0_123 := (K0_107.trans K106 (all0))
        obtain ⟨_, _, ⟨T122, L122, k122, n122⟩, -, X122, ⟨Lc122, hQ122, l122, y122, z122⟩, st122⟩ := Jvm.LawKit.callS X106 hx (y := (⟨"com/example/hot_pool/hotpool/stats/PoolCountsAddPinLaw", "read", "(Lcom/example/hot_pool/hotpool/stats/HotPoolStatistics;I)J"⟩ : MethodName)) hown100 (mvT hZ100 (hw _ (List.mem_of_getElem? (i := 110) rfl))) (mvT hZ100 (hw _ (List.mem_of_getElem? (i := 111) rfl))) (mvT hZ100 (hw _ (List.mem_of_getElem? (i := 112) rfl))) (mvT hZ100 (hw _ (List.mem_of_getElem? (i := 113) rfl))) (by decide) (backOf (W := 0) (rm9 l Z a0 hw [] b106 ((p3 &&& (2147483647 : Int32)) % (11 : Int32)) ar106 k106 xl97 es  T106.heap n0 (Nat.le_trans Z0 K0_123.1) E106 F106 V106 hG O0_121 (own_rem _)) hZ100 (hw _ (List.mem_of_getElem? (i := 113) rfl)) (hw _ (List.mem_of_getElem? (i := 112) rfl)) (by decide) (by decide)) (g := (mkF m 225 #[.val (.int p0), .val (.int p1), .val (.int p2), .val (.int p3), .val (.long q4), .second, .val (.ref b1), .val (.int ((p0 &&& (2147483647 : Int32)) % (11 : Int32))), .val (.int ((p1 &&& (2147483647 : Int32)) % (11 : Int32))), .val (.int ((p2 &&& (2147483647 : Int32)) % (11 : Int32))), .val (.int ((p3 &&& (2147483647 : Int32)) % (11 : Int32))), .val (.ref b58), .val (.ref b64), .val (.ref b106), .val (.long (((0 : Int64) + q4) + (1 : Int64))), .second] [(.int ((p3 &&& (2147483647 : Int32)) % (11 : Int32))), (.ref b106)])) rfl (by rw [hml]; rfl) (argsL := [(.ref b106), (.int ((p3 &&& (2147483647 : Int32)) % (11 : Int32)))]) (rest := []) (lenOf pd_200029 rfl) rfl (by show 2 * 0 + _ ≤ _; exact Nat.le_of_eq rfl) (hb hby at_225) (fun _ _ => ⟨rfl, rfl, (by decide : 11 + 0 ≤ _), (by decide : 81 + 0 ≤ _)⟩)
        dsimp only [Pt.U, Pt.locs, Pt.cells, Pt.slots] at X122 l122 y122 z122 st122 hQ122
        subst l122 y122 z122
        obtain ⟨rfl, N122q, e122⟩ := hQ122
        obtain ⟨_, X122, N122⟩ := own_hide X122 (Fr.app N106 N122q)
        refine own_st st122 ?_
        show own_Go _ _ _ _ T122 (mkF m 228 #[.val (.int p0), .val (.int p1), .val (.int p2), .val (.int p3), .val (.long q4), .second, .val (.ref b1), .val (.int ((p0 &&& (2147483647 : Int32)) % (11 : Int32))), .val (.int ((p1 &&& (2147483647 : Int32)) % (11 : Int32))), .val (.int ((p2 &&& (2147483647 : Int32)) % (11 : Int32))), .val (.int ((p3 &&& (2147483647 : Int32)) % (11 : Int32))), .val (.ref b58), .val (.ref b64), .val (.ref b106), .val (.long (((0 : Int64) + q4) + (1 : Int64))), .second] [(.long (xl97.getD (((p3 &&& (2147483647 : Int32)) % (11 : Int32))).toNatClampNeg 0))])
        refine own_st (fun t k => XS.lload X122.here hx rfl (hb hby at_228) rfl k) ?_
        show own_Go _ _ _ _ T122 (mkF m 230 #[.val (.int p0), .val (.int p1), .val (.int p2), .val (.int p3), .val (.long q4), .second, .val (.ref b1), .val (.int ((p0 &&& (2147483647 : Int32)) % (11 : Int32))), .val (.int ((p1 &&& (2147483647 : Int32)) % (11 : Int32))), .val (.int ((p2 &&& (2147483647 : Int32)) % (11 : Int32))), .val (.int ((p3 &&& (2147483647 : Int32)) % (11 : Int32))), .val (.ref b58), .val (.ref b64), .val (.ref b106), .val (.long (((0 : Int64) + q4) + (1 : Int64))), .second] [(.long (((0 : Int64) + q4) + (1 : Int64))), (.long (xl97.getD (((p3 &&& (2147483647 : Int32)) % (11 : Int32))).toNatClampNeg 0))])
        refine own_st (fun t k => XS.lcmp X122.here hx rfl (hb hby at_230) rfl k) ?_
        show own_Go _ _ _ _ T122 (mkF m 231 #[.val (.int p0), .val (.int p1), .val (.int p2), .val (.int p3), .val (.long q4), .second, .val (.ref b1), .val (.int ((p0 &&& (2147483647 : Int32)) % (11 : Int32))), .val (.int ((p1 &&& (2147483647 : Int32)) % (11 : Int32))), .val (.int ((p2 &&& (2147483647 : Int32)) % (11 : Int32))), .val (.int ((p3 &&& (2147483647 : Int32)) % (11 : Int32))), .val (.ref b58), .val (.ref b64), .val (.ref b106), .val (.long (((0 : Int64) + q4) + (1 : Int64))), .second] [(.int (lcmpW (xl97.getD (((p3 &&& (2147483647 : Int32)) % (11 : Int32))).toNatClampNeg 0) (((0 : Int64) + q4) + (1 : Int64))))])
        refine own_st (fun t k => XS.ifNo X122.here hx rfl (hb hby at_231) rfl ((if0 _ _).trans (teq ((lw_eq _ _).mpr (by rw [own_fin _ _ _ _ _ (own_rem p0) (own_rem p1) (own_rem p2) (own_rem p3) _ _ _ ex81 ex89 ex97]; simp only [if_pos c185_109, if_neg c199_110, if_pos c212_120] : (xl97.getD (((p3 &&& (2147483647 : Int32)) % (11 : Int32))).toNatClampNeg 0) = (((0 : Int64) + q4) + (1 : Int64))))).2) k) ?_
        show own_Go _ _ _ _ T122 (mkF m 234 #[.val (.int p0), .val (.int p1), .val (.int p2), .val (.int p3), .val (.long q4), .second, .val (.ref b1), .val (.int ((p0 &&& (2147483647 : Int32)) % (11 : Int32))), .val (.int ((p1 &&& (2147483647 : Int32)) % (11 : Int32))), .val (.int ((p2 &&& (2147483647 : Int32)) % (11 : Int32))), .val (.int ((p3 &&& (2147483647 : Int32)) % (11 : Int32))), .val (.ref b58), .val (.ref b64), .val (.ref b106), .val (.long (((0 : Int64) + q4) + (1 : Int64))), .second] [])
        refine own_st (fun t k => XS.iconst X122.here hx rfl (hb hby at_234) k) ?_
        show own_Go _ _ _ _ T122 (mkF m 235 #[.val (.int p0), .val (.int p1), .val (.int p2), .val (.int p3), .val (.long q4), .second, .val (.ref b1), .val (.int ((p0 &&& (2147483647 : Int32)) % (11 : Int32))), .val (.int ((p1 &&& (2147483647 : Int32)) % (11 : Int32))), .val (.int ((p2 &&& (2147483647 : Int32)) % (11 : Int32))), .val (.int ((p3 &&& (2147483647 : Int32)) % (11 : Int32))), .val (.ref b58), .val (.ref b64), .val (.ref b106), .val (.long (((0 : Int64) + q4) + (1 : Int64))), .second] [(.int (1 : Int32))])
        refine own_st (fun t k => XS.goto X122.here hx rfl (pc0 := 235) (pc' := 239) rfl (hb hby at_235) (by decide) (by decide) k) ?_
        show own_Go _ _ _ _ T122 (mkF m 239 #[.val (.int p0), .val (.int p1), .val (.int p2), .val (.int p3), .val (.long q4), .second, .val (.ref b1), .val (.int ((p0 &&& (2147483647 : Int32)) % (11 : Int32))), .val (.int ((p1 &&& (2147483647 : Int32)) % (11 : Int32))), .val (.int ((p2 &&& (2147483647 : Int32)) % (11 : Int32))), .val (.int ((p3 &&& (2147483647 : Int32)) % (11 : Int32))), .val (.ref b58), .val (.ref b64), .val (.ref b106), .val (.long (((0 : Int64) + q4) + (1 : Int64))), .second] [(.int (1 : Int32))])
        have hk100_124 := (Nat.le_trans hk100 K106.1)
        exact own_retNW X122 hS100 (by rw [e122]; exact hk100_124) hx hlk (t := .boolean) hrt (by simp) (hb hby at_239) ⟨rfl, N122⟩ (by decide) (by decide)
      ·
        refine own_st (fun t k => XS.icmpYes X106.here hx rfl (pc0 := 212) (pc' := 221) rfl (hb hby at_212) rfl (feq c212_120).2 (by decide) (by decide) k) ?_
        show own_Go _ _ _ _ T106 (mkF m 221 #[.val (.int p0), .val (.int p1), .val (.int p2), .val (.int p3), .val (.long q4), .second, .val (.ref b1), .val (.int ((p0 &&& (2147483647 : Int32)) % (11 : Int32))), .val (.int ((p1 &&& (2147483647 : Int32)) % (11 : Int32))), .val (.int ((p2 &&& (2147483647 : Int32)) % (11 : Int32))), .val (.int ((p3 &&& (2147483647 : Int32)) % (11 : Int32))), .val (.ref b58), .val (.ref b64), .val (.ref b106), .val (.long ((0 : Int64) + q4)), .second] [])
        refine own_st (fun t k => XS.aload X106.here hx rfl (hb hby at_221) rfl rfl k) ?_
        show own_Go _ _ _ _ T106 (mkF m 223 #[.val (.int p0), .val (.int p1), .val (.int p2), .val (.int p3), .val (.long q4), .second, .val (.ref b1), .val (.int ((p0 &&& (2147483647 : Int32)) % (11 : Int32))), .val (.int ((p1 &&& (2147483647 : Int32)) % (11 : Int32))), .val (.int ((p2 &&& (2147483647 : Int32)) % (11 : Int32))), .val (.int ((p3 &&& (2147483647 : Int32)) % (11 : Int32))), .val (.ref b58), .val (.ref b64), .val (.ref b106), .val (.long ((0 : Int64) + q4)), .second] [(.ref b106)])
        refine own_st (fun t k => XS.iload X106.here hx rfl (hb hby at_223) rfl k) ?_
        show own_Go _ _ _ _ T106 (mkF m 225 #[.val (.int p0), .val (.int p1), .val (.int p2), .val (.int p3), .val (.long q4), .second, .val (.ref b1), .val (.int ((p0 &&& (2147483647 : Int32)) % (11 : Int32))), .val (.int ((p1 &&& (2147483647 : Int32)) % (11 : Int32))), .val (.int ((p2 &&& (2147483647 : Int32)) % (11 : Int32))), .val (.int ((p3 &&& (2147483647 : Int32)) % (11 : Int32))), .val (.ref b58), .val (.ref b64), .val (.ref b106), .val (.long ((0 : Int64) + q4)), .second] [(.int ((p3 &&& (2147483647 : Int32)) % (11 : Int32))), (.ref b106)])
        have O0_125 := (((O0_92.keep K95 (allS g_ar60 all0)).ext E100).keep K106 (all0))
        have K0_127 := (K0_107.trans K106 (all0))
        obtain ⟨_, _, ⟨T126, L126, k126, n126⟩, -, X126, ⟨Lc126, hQ126, l126, y126, z126⟩, st126⟩ := Jvm.LawKit.callS X106 hx (y := (⟨"com/example/hot_pool/hotpool/stats/PoolCountsAddPinLaw", "read", "(Lcom/example/hot_pool/hotpool/stats/HotPoolStatistics;I)J"⟩ : MethodName)) hown100 (mvT hZ100 (hw _ (List.mem_of_getElem? (i := 110) rfl))) (mvT hZ100 (hw _ (List.mem_of_getElem? (i := 111) rfl))) (mvT hZ100 (hw _ (List.mem_of_getElem? (i := 112) rfl))) (mvT hZ100 (hw _ (List.mem_of_getElem? (i := 113) rfl))) (by decide) (backOf (W := 0) (rm9 l Z a0 hw [] b106 ((p3 &&& (2147483647 : Int32)) % (11 : Int32)) ar106 k106 xl97 es  T106.heap n0 (Nat.le_trans Z0 K0_127.1) E106 F106 V106 hG O0_125 (own_rem _)) hZ100 (hw _ (List.mem_of_getElem? (i := 113) rfl)) (hw _ (List.mem_of_getElem? (i := 112) rfl)) (by decide) (by decide)) (g := (mkF m 225 #[.val (.int p0), .val (.int p1), .val (.int p2), .val (.int p3), .val (.long q4), .second, .val (.ref b1), .val (.int ((p0 &&& (2147483647 : Int32)) % (11 : Int32))), .val (.int ((p1 &&& (2147483647 : Int32)) % (11 : Int32))), .val (.int ((p2 &&& (2147483647 : Int32)) % (11 : Int32))), .val (.int ((p3 &&& (2147483647 : Int32)) % (11 : Int32))), .val (.ref b58), .val (.ref b64), .val (.ref b106), .val (.long ((0 : Int64) + q4)), .second] [(.int ((p3 &&& (2147483647 : Int32)) % (11 : Int32))), (.ref b106)])) rfl (by rw [hml]; rfl) (argsL := [(.ref b106), (.int ((p3 &&& (2147483647 : Int32)) % (11 : Int32)))]) (rest := []) (lenOf pd_200029 rfl) rfl (by show 2 * 0 + _ ≤ _; exact Nat.le_of_eq rfl) (hb hby at_225) (fun _ _ => ⟨rfl, rfl, (by decide : 11 + 0 ≤ _), (by decide : 81 + 0 ≤ _)⟩)
        dsimp only [Pt.U, Pt.locs, Pt.cells, Pt.slots] at X126 l126 y126 z126 st126 hQ126
        subst l126 y126 z126
        obtain ⟨rfl, N126q, e126⟩ := hQ126
        obtain ⟨_, X126, N126⟩ := own_hide X126 (Fr.app N106 N126q)
        refine own_st st126 ?_
        show own_Go _ _ _ _ T126 (mkF m 228 #[.val (.int p0), .val (.int p1), .val (.int p2), .val (.int p3), .val (.long q4), .second, .val (.ref b1), .val (.int ((p0 &&& (2147483647 : Int32)) % (11 : Int32))), .val (.int ((p1 &&& (2147483647 : Int32)) % (11 : Int32))), .val (.int ((p2 &&& (2147483647 : Int32)) % (11 : Int32))), .val (.int ((p3 &&& (2147483647 : Int32)) % (11 : Int32))), .val (.ref b58), .val (.ref b64), .val (.ref b106), .val (.long ((0 : Int64) + q4)), .second] [(.long (xl97.getD (((p3 &&& (2147483647 : Int32)) % (11 : Int32))).toNatClampNeg 0))])
        refine own_st (fun t k => XS.lload X126.here hx rfl (hb hby at_228) rfl k) ?_
        show own_Go _ _ _ _ T126 (mkF m 230 #[.val (.int p0), .val (.int p1), .val (.int p2), .val (.int p3), .val (.long q4), .second, .val (.ref b1), .val (.int ((p0 &&& (2147483647 : Int32)) % (11 : Int32))), .val (.int ((p1 &&& (2147483647 : Int32)) % (11 : Int32))), .val (.int ((p2 &&& (2147483647 : Int32)) % (11 : Int32))), .val (.int ((p3 &&& (2147483647 : Int32)) % (11 : Int32))), .val (.ref b58), .val (.ref b64), .val (.ref b106), .val (.long ((0 : Int64) + q4)), .second] [(.long ((0 : Int64) + q4)), (.long (xl97.getD (((p3 &&& (2147483647 : Int32)) % (11 : Int32))).toNatClampNeg 0))])
        refine own_st (fun t k => XS.lcmp X126.here hx rfl (hb hby at_230) rfl k) ?_
        show own_Go _ _ _ _ T126 (mkF m 231 #[.val (.int p0), .val (.int p1), .val (.int p2), .val (.int p3), .val (.long q4), .second, .val (.ref b1), .val (.int ((p0 &&& (2147483647 : Int32)) % (11 : Int32))), .val (.int ((p1 &&& (2147483647 : Int32)) % (11 : Int32))), .val (.int ((p2 &&& (2147483647 : Int32)) % (11 : Int32))), .val (.int ((p3 &&& (2147483647 : Int32)) % (11 : Int32))), .val (.ref b58), .val (.ref b64), .val (.ref b106), .val (.long ((0 : Int64) + q4)), .second] [(.int (lcmpW (xl97.getD (((p3 &&& (2147483647 : Int32)) % (11 : Int32))).toNatClampNeg 0) ((0 : Int64) + q4)))])
        refine own_st (fun t k => XS.ifNo X126.here hx rfl (hb hby at_231) rfl ((if0 _ _).trans (teq ((lw_eq _ _).mpr (by rw [own_fin _ _ _ _ _ (own_rem p0) (own_rem p1) (own_rem p2) (own_rem p3) _ _ _ ex81 ex89 ex97]; simp only [if_pos c185_109, if_neg c199_110, if_neg c212_120] : (xl97.getD (((p3 &&& (2147483647 : Int32)) % (11 : Int32))).toNatClampNeg 0) = ((0 : Int64) + q4)))).2) k) ?_
        show own_Go _ _ _ _ T126 (mkF m 234 #[.val (.int p0), .val (.int p1), .val (.int p2), .val (.int p3), .val (.long q4), .second, .val (.ref b1), .val (.int ((p0 &&& (2147483647 : Int32)) % (11 : Int32))), .val (.int ((p1 &&& (2147483647 : Int32)) % (11 : Int32))), .val (.int ((p2 &&& (2147483647 : Int32)) % (11 : Int32))), .val (.int ((p3 &&& (2147483647 : Int32)) % (11 : Int32))), .val (.ref b58), .val (.ref b64), .val (.ref b106), .val (.long ((0 : Int64) + q4)), .second] [])
        refine own_st (fun t k => XS.iconst X126.here hx rfl (hb hby at_234) k) ?_
        show own_Go _ _ _ _ T126 (mkF m 235 #[.val (.int p0), .val (.int p1), .val (.int p2), .val (.int p3), .val (.long q4), .second, .val (.ref b1), .val (.int ((p0 &&& (2147483647 : Int32)) % (11 : Int32))), .val (.int ((p1 &&& (2147483647 : Int32)) % (11 : Int32))), .val (.int ((p2 &&& (2147483647 : Int32)) % (11 : Int32))), .val (.int ((p3 &&& (2147483647 : Int32)) % (11 : Int32))), .val (.ref b58), .val (.ref b64), .val (.ref b106), .val (.long ((0 : Int64) + q4)), .second] [(.int (1 : Int32))])
        refine own_st (fun t k => XS.goto X126.here hx rfl (pc0 := 235) (pc' := 239) rfl (hb hby at_235) (by decide) (by decide) k) ?_
        show own_Go _ _ _ _ T126 (mkF m 239 #[.val (.int p0), .val (.int p1), .val (.int p2), .val (.int p3), .val (.long q4), .second, .val (.ref b1), .val (.int ((p0 &&& (2147483647 : Int32)) % (11 : Int32))), .val (.int ((p1 &&& (2147483647 : Int32)) % (11 : Int32))), .val (.int ((p2 &&& (2147483647 : Int32)) % (11 : Int32))), .val (.int ((p3 &&& (2147483647 : Int32)) % (11 : Int32))), .val (.ref b58), .val (.ref b64), .val (.ref b106), .val (.long ((0 : Int64) + q4)), .second] [(.int (1 : Int32))])
        have hk100_128 := (Nat.le_trans hk100 K106.1)
        exact own_retNW X126 hS100 (by rw [e126]; exact hk100_128) hx hlk (t := .boolean) hrt (by simp) (hb hby at_239) ⟨rfl, N126⟩ (by decide) (by decide)
  ·
    refine own_st (fun t k => XS.icmpYes X106.here hx rfl (pc0 := 185) (pc' := 195) rfl (hb hby at_185) rfl (feq c185_109).2 (by decide) (by decide) k) ?_
    show own_Go _ _ _ _ T106 (mkF m 195 #[.val (.int p0), .val (.int p1), .val (.int p2), .val (.int p3), .val (.long q4), .second, .val (.ref b1), .val (.int ((p0 &&& (2147483647 : Int32)) % (11 : Int32))), .val (.int ((p1 &&& (2147483647 : Int32)) % (11 : Int32))), .val (.int ((p2 &&& (2147483647 : Int32)) % (11 : Int32))), .val (.int ((p3 &&& (2147483647 : Int32)) % (11 : Int32))), .val (.ref b58), .val (.ref b64), .val (.ref b106), .val (.long (0 : Int64)), .second] [])
    refine own_st (fun t k => XS.iload X106.here hx rfl (hb hby at_195) rfl k) ?_
    show own_Go _ _ _ _ T106 (mkF m 197 #[.val (.int p0), .val (.int p1), .val (.int p2), .val (.int p3), .val (.long q4), .second, .val (.ref b1), .val (.int ((p0 &&& (2147483647 : Int32)) % (11 : Int32))), .val (.int ((p1 &&& (2147483647 : Int32)) % (11 : Int32))), .val (.int ((p2 &&& (2147483647 : Int32)) % (11 : Int32))), .val (.int ((p3 &&& (2147483647 : Int32)) % (11 : Int32))), .val (.ref b58), .val (.ref b64), .val (.ref b106), .val (.long (0 : Int64)), .second] [(.int ((p3 &&& (2147483647 : Int32)) % (11 : Int32)))])
    refine own_st (fun t k => XS.iload X106.here hx rfl (hb hby at_197) rfl k) ?_
    show own_Go _ _ _ _ T106 (mkF m 199 #[.val (.int p0), .val (.int p1), .val (.int p2), .val (.int p3), .val (.long q4), .second, .val (.ref b1), .val (.int ((p0 &&& (2147483647 : Int32)) % (11 : Int32))), .val (.int ((p1 &&& (2147483647 : Int32)) % (11 : Int32))), .val (.int ((p2 &&& (2147483647 : Int32)) % (11 : Int32))), .val (.int ((p3 &&& (2147483647 : Int32)) % (11 : Int32))), .val (.ref b58), .val (.ref b64), .val (.ref b106), .val (.long (0 : Int64)), .second] [(.int ((p1 &&& (2147483647 : Int32)) % (11 : Int32))), (.int ((p3 &&& (2147483647 : Int32)) % (11 : Int32)))])
    by_cases c199_129 : ((p3 &&& (2147483647 : Int32)) % (11 : Int32)) = ((p1 &&& (2147483647 : Int32)) % (11 : Int32))
    ·
      refine own_st (fun t k => XS.icmpNo X106.here hx rfl (hb hby at_199) rfl (teq c199_129).2 k) ?_
      show own_Go _ _ _ _ T106 (mkF m 202 #[.val (.int p0), .val (.int p1), .val (.int p2), .val (.int p3), .val (.long q4), .second, .val (.ref b1), .val (.int ((p0 &&& (2147483647 : Int32)) % (11 : Int32))), .val (.int ((p1 &&& (2147483647 : Int32)) % (11 : Int32))), .val (.int ((p2 &&& (2147483647 : Int32)) % (11 : Int32))), .val (.int ((p3 &&& (2147483647 : Int32)) % (11 : Int32))), .val (.ref b58), .val (.ref b64), .val (.ref b106), .val (.long (0 : Int64)), .second] [])
      refine own_st (fun t k => XS.lload X106.here hx rfl (hb hby at_202) rfl k) ?_
      show own_Go _ _ _ _ T106 (mkF m 204 #[.val (.int p0), .val (.int p1), .val (.int p2), .val (.int p3), .val (.long q4), .second, .val (.ref b1), .val (.int ((p0 &&& (2147483647 : Int32)) % (11 : Int32))), .val (.int ((p1 &&& (2147483647 : Int32)) % (11 : Int32))), .val (.int ((p2 &&& (2147483647 : Int32)) % (11 : Int32))), .val (.int ((p3 &&& (2147483647 : Int32)) % (11 : Int32))), .val (.ref b58), .val (.ref b64), .val (.ref b106), .val (.long (0 : Int64)), .second] [(.long (0 : Int64))])
      refine own_st (fun t k => XS.lconst X106.here hx rfl (hb hby at_204) k) ?_
      show own_Go _ _ _ _ T106 (mkF m 205 #[.val (.int p0), .val (.int p1), .val (.int p2), .val (.int p3), .val (.long q4), .second, .val (.ref b1), .val (.int ((p0 &&& (2147483647 : Int32)) % (11 : Int32))), .val (.int ((p1 &&& (2147483647 : Int32)) % (11 : Int32))), .val (.int ((p2 &&& (2147483647 : Int32)) % (11 : Int32))), .val (.int ((p3 &&& (2147483647 : Int32)) % (11 : Int32))), .val (.ref b58), .val (.ref b64), .val (.ref b106), .val (.long (0 : Int64)), .second] [(.long (1 : Int64)), (.long (0 : Int64))])
      refine own_st (fun t k => XS.ladd X106.here hx rfl (hb hby at_205) rfl k) ?_
      show own_Go _ _ _ _ T106 (mkF m 206 #[.val (.int p0), .val (.int p1), .val (.int p2), .val (.int p3), .val (.long q4), .second, .val (.ref b1), .val (.int ((p0 &&& (2147483647 : Int32)) % (11 : Int32))), .val (.int ((p1 &&& (2147483647 : Int32)) % (11 : Int32))), .val (.int ((p2 &&& (2147483647 : Int32)) % (11 : Int32))), .val (.int ((p3 &&& (2147483647 : Int32)) % (11 : Int32))), .val (.ref b58), .val (.ref b64), .val (.ref b106), .val (.long (0 : Int64)), .second] [(.long ((0 : Int64) + (1 : Int64)))])
      refine own_st (fun t k => XS.lstore X106.here hx rfl (hb hby at_206) rfl (l' := #[.val (.int p0), .val (.int p1), .val (.int p2), .val (.int p3), .val (.long q4), .second, .val (.ref b1), .val (.int ((p0 &&& (2147483647 : Int32)) % (11 : Int32))), .val (.int ((p1 &&& (2147483647 : Int32)) % (11 : Int32))), .val (.int ((p2 &&& (2147483647 : Int32)) % (11 : Int32))), .val (.int ((p3 &&& (2147483647 : Int32)) % (11 : Int32))), .val (.ref b58), .val (.ref b64), .val (.ref b106), .val (.long ((0 : Int64) + (1 : Int64))), .second]) rfl k) ?_
      show own_Go _ _ _ _ T106 (mkF m 208 #[.val (.int p0), .val (.int p1), .val (.int p2), .val (.int p3), .val (.long q4), .second, .val (.ref b1), .val (.int ((p0 &&& (2147483647 : Int32)) % (11 : Int32))), .val (.int ((p1 &&& (2147483647 : Int32)) % (11 : Int32))), .val (.int ((p2 &&& (2147483647 : Int32)) % (11 : Int32))), .val (.int ((p3 &&& (2147483647 : Int32)) % (11 : Int32))), .val (.ref b58), .val (.ref b64), .val (.ref b106), .val (.long ((0 : Int64) + (1 : Int64))), .second] [])
      refine own_st (fun t k => XS.iload X106.here hx rfl (hb hby at_208) rfl k) ?_
      show own_Go _ _ _ _ T106 (mkF m 210 #[.val (.int p0), .val (.int p1), .val (.int p2), .val (.int p3), .val (.long q4), .second, .val (.ref b1), .val (.int ((p0 &&& (2147483647 : Int32)) % (11 : Int32))), .val (.int ((p1 &&& (2147483647 : Int32)) % (11 : Int32))), .val (.int ((p2 &&& (2147483647 : Int32)) % (11 : Int32))), .val (.int ((p3 &&& (2147483647 : Int32)) % (11 : Int32))), .val (.ref b58), .val (.ref b64), .val (.ref b106), .val (.long ((0 : Int64) + (1 : Int64))), .second] [(.int ((p3 &&& (2147483647 : Int32)) % (11 : Int32)))])
      refine own_st (fun t k => XS.iload X106.here hx rfl (hb hby at_210) rfl k) ?_
      show own_Go _ _ _ _ T106 (mkF m 212 #[.val (.int p0), .val (.int p1), .val (.int p2), .val (.int p3), .val (.long q4), .second, .val (.ref b1), .val (.int ((p0 &&& (2147483647 : Int32)) % (11 : Int32))), .val (.int ((p1 &&& (2147483647 : Int32)) % (11 : Int32))), .val (.int ((p2 &&& (2147483647 : Int32)) % (11 : Int32))), .val (.int ((p3 &&& (2147483647 : Int32)) % (11 : Int32))), .val (.ref b58), .val (.ref b64), .val (.ref b106), .val (.long ((0 : Int64) + (1 : Int64))), .second] [(.int ((p2 &&& (2147483647 : Int32)) % (11 : Int32))), (.int ((p3 &&& (2147483647 : Int32)) % (11 : Int32)))])
      by_cases c212_130 : ((p3 &&& (2147483647 : Int32)) % (11 : Int32)) = ((p2 &&& (2147483647 : Int32)) % (11 : Int32))
      ·
        refine own_st (fun t k => XS.icmpNo X106.here hx rfl (hb hby at_212) rfl (teq c212_130).2 k) ?_
        show own_Go _ _ _ _ T106 (mkF m 215 #[.val (.int p0), .val (.int p1), .val (.int p2), .val (.int p3), .val (.long q4), .second, .val (.ref b1), .val (.int ((p0 &&& (2147483647 : Int32)) % (11 : Int32))), .val (.int ((p1 &&& (2147483647 : Int32)) % (11 : Int32))), .val (.int ((p2 &&& (2147483647 : Int32)) % (11 : Int32))), .val (.int ((p3 &&& (2147483647 : Int32)) % (11 : Int32))), .val (.ref b58), .val (.ref b64), .val (.ref b106), .val (.long ((0 : Int64) + (1 : Int64))), .second] [])
        refine own_st (fun t k => XS.lload X106.here hx rfl (hb hby at_215) rfl k) ?_
        show own_Go _ _ _ _ T106 (mkF m 217 #[.val (.int p0), .val (.int p1), .val (.int p2), .val (.int p3), .val (.long q4), .second, .val (.ref b1), .val (.int ((p0 &&& (2147483647 : Int32)) % (11 : Int32))), .val (.int ((p1 &&& (2147483647 : Int32)) % (11 : Int32))), .val (.int ((p2 &&& (2147483647 : Int32)) % (11 : Int32))), .val (.int ((p3 &&& (2147483647 : Int32)) % (11 : Int32))), .val (.ref b58), .val (.ref b64), .val (.ref b106), .val (.long ((0 : Int64) + (1 : Int64))), .second] [(.long ((0 : Int64) + (1 : Int64)))])
        refine own_st (fun t k => XS.lconst X106.here hx rfl (hb hby at_217) k) ?_
        show own_Go _ _ _ _ T106 (mkF m 218 #[.val (.int p0), .val (.int p1), .val (.int p2), .val (.int p3), .val (.long q4), .second, .val (.ref b1), .val (.int ((p0 &&& (2147483647 : Int32)) % (11 : Int32))), .val (.int ((p1 &&& (2147483647 : Int32)) % (11 : Int32))), .val (.int ((p2 &&& (2147483647 : Int32)) % (11 : Int32))), .val (.int ((p3 &&& (2147483647 : Int32)) % (11 : Int32))), .val (.ref b58), .val (.ref b64), .val (.ref b106), .val (.long ((0 : Int64) + (1 : Int64))), .second] [(.long (1 : Int64)), (.long ((0 : Int64) + (1 : Int64)))])
        refine own_st (fun t k => XS.ladd X106.here hx rfl (hb hby at_218) rfl k) ?_
        show own_Go _ _ _ _ T106 (mkF m 219 #[.val (.int p0), .val (.int p1), .val (.int p2), .val (.int p3), .val (.long q4), .second, .val (.ref b1), .val (.int ((p0 &&& (2147483647 : Int32)) % (11 : Int32))), .val (.int ((p1 &&& (2147483647 : Int32)) % (11 : Int32))), .val (.int ((p2 &&& (2147483647 : Int32)) % (11 : Int32))), .val (.int ((p3 &&& (2147483647 : Int32)) % (11 : Int32))), .val (.ref b58), .val (.ref b64), .val (.ref b106), .val (.long ((0 : Int64) + (1 : Int64))), .second] [(.long (((0 : Int64) + (1 : Int64)) + (1 : Int64)))])
        refine own_st (fun t k => XS.lstore X106.here hx rfl (hb hby at_219) rfl (l' := #[.val (.int p0), .val (.int p1), .val (.int p2), .val (.int p3), .val (.long q4), .second, .val (.ref b1), .val (.int ((p0 &&& (2147483647 : Int32)) % (11 : Int32))), .val (.int ((p1 &&& (2147483647 : Int32)) % (11 : Int32))), .val (.int ((p2 &&& (2147483647 : Int32)) % (11 : Int32))), .val (.int ((p3 &&& (2147483647 : Int32)) % (11 : Int32))), .val (.ref b58), .val (.ref b64), .val (.ref b106), .val (.long (((0 : Int64) + (1 : Int64)) + (1 : Int64))), .second]) rfl k) ?_
        show own_Go _ _ _ _ T106 (mkF m 221 #[.val (.int p0), .val (.int p1), .val (.int p2), .val (.int p3), .val (.long q4), .second, .val (.ref b1), .val (.int ((p0 &&& (2147483647 : Int32)) % (11 : Int32))), .val (.int ((p1 &&& (2147483647 : Int32)) % (11 : Int32))), .val (.int ((p2 &&& (2147483647 : Int32)) % (11 : Int32))), .val (.int ((p3 &&& (2147483647 : Int32)) % (11 : Int32))), .val (.ref b58), .val (.ref b64), .val (.ref b106), .val (.long (((0 : Int64) + (1 : Int64)) + (1 : Int64))), .second] [])
        refine own_st (fun t k => XS.aload X106.here hx rfl (hb hby at_221) rfl rfl k) ?_
        show own_Go _ _ _ _ T106 (mkF m 223 #[.val (.int p0), .val (.int p1), .val (.int p2), .val (.int p3), .val (.long q4), .second, .val (.ref b1), .val (.int ((p0 &&& (2147483647 : Int32)) % (11 : Int32))), .val (.int ((p1 &&& (2147483647 : Int32)) % (11 : Int32))), .val (.int ((p2 &&& (2147483647 : Int32)) % (11 : Int32))), .val (.int ((p3 &&& (2147483647 : Int32)) % (11 : Int32))), .val (.ref b58), .val (.ref b64), .val (.ref b106), .val (.long (((0 : Int64) + (1 : Int64)) + (1 : Int64))), .second] [(.ref b106)])
        refine own_st (fun t k => XS.iload X106.here hx rfl (hb hby at_223) rfl k) ?_
        show own_Go _ _ _ _ T106 (mkF m 225 #[.val (.int p0), .val (.int p1), .val (.int p2), .val (.int p3), .val (.long q4), .second, .val (.ref b1), .val (.int ((p0 &&& (2147483647 : Int32)) % (11 : Int32))), .val (.int ((p1 &&& (2147483647 : Int32)) % (11 : Int32))), .val (.int ((p2 &&& (2147483647 : Int32)) % (11 : Int32))), .val (.int ((p3 &&& (2147483647 : Int32)) % (11 : Int32))), .val (.ref b58), .val (.ref b64), .val (.ref b106), .val (.long (((0 : Int64) + (1 : Int64)) + (1 : Int64))), .second] [(.int ((p3 &&& (2147483647 : Int32)) % (11 : Int32))), (.ref b106)])
        have O0_131 := (((O0_92.keep K95 (allS g_ar60 all0)).ext E100).keep K106 (all0))
        have K0_133 := (K0_107.trans K106 (all0))
        obtain ⟨_, _, ⟨T132, L132, k132, n132⟩, -, X132, ⟨Lc132, hQ132, l132, y132, z132⟩, st132⟩ := Jvm.LawKit.callS X106 hx (y := (⟨"com/example/hot_pool/hotpool/stats/PoolCountsAddPinLaw", "read", "(Lcom/example/hot_pool/hotpool/stats/HotPoolStatistics;I)J"⟩ : MethodName)) hown100 (mvT hZ100 (hw _ (List.mem_of_getElem? (i := 110) rfl))) (mvT hZ100 (hw _ (List.mem_of_getElem? (i := 111) rfl))) (mvT hZ100 (hw _ (List.mem_of_getElem? (i := 112) rfl))) (mvT hZ100 (hw _ (List.mem_of_getElem? (i := 113) rfl))) (by decide) (backOf (W := 0) (rm9 l Z a0 hw [] b106 ((p3 &&& (2147483647 : Int32)) % (11 : Int32)) ar106 k106 xl97 es  T106.heap n0 (Nat.le_trans Z0 K0_133.1) E106 F106 V106 hG O0_131 (own_rem _)) hZ100 (hw _ (List.mem_of_getElem? (i := 113) rfl)) (hw _ (List.mem_of_getElem? (i := 112) rfl)) (by decide) (by decide)) (g := (mkF m 225 #[.val (.int p0), .val (.int p1), .val (.int p2), .val (.int p3), .val (.long q4), .second, .val (.ref b1), .val (.int ((p0 &&& (2147483647 : Int32)) % (11 : Int32))), .val (.int ((p1 &&& (2147483647 : Int32)) % (11 : Int32))), .val (.int ((p2 &&& (2147483647 : Int32)) % (11 : Int32))), .val (.int ((p3 &&& (2147483647 : Int32)) % (11 : Int32))), .val (.ref b58), .val (.ref b64), .val (.ref b106), .val (.long (((0 : Int64) + (1 : Int64)) + (1 : Int64))), .second] [(.int ((p3 &&& (2147483647 : Int32)) % (11 : Int32))), (.ref b106)])) rfl (by rw [hml]; rfl) (argsL := [(.ref b106), (.int ((p3 &&& (2147483647 : Int32)) % (11 : Int32)))]) (rest := []) (lenOf pd_200029 rfl) rfl (by show 2 * 0 + _ ≤ _; exact Nat.le_of_eq rfl) (hb hby at_225) (fun _ _ => ⟨rfl, rfl, (by decide : 11 + 0 ≤ _), (by decide : 81 + 0 ≤ _)⟩)
        dsimp only [Pt.U, Pt.locs, Pt.cells, Pt.slots] at X132 l132 y132 z132 st132 hQ132
        subst l132 y132 z132
        obtain ⟨rfl, N132q, e132⟩ := hQ132
        obtain ⟨_, X132, N132⟩ := own_hide X132 (Fr.app N106 N132q)
        refine own_st st132 ?_
        show own_Go _ _ _ _ T132 (mkF m 228 #[.val (.int p0), .val (.int p1), .val (.int p2), .val (.int p3), .val (.long q4), .second, .val (.ref b1), .val (.int ((p0 &&& (2147483647 : Int32)) % (11 : Int32))), .val (.int ((p1 &&& (2147483647 : Int32)) % (11 : Int32))), .val (.int ((p2 &&& (2147483647 : Int32)) % (11 : Int32))), .val (.int ((p3 &&& (2147483647 : Int32)) % (11 : Int32))), .val (.ref b58), .val (.ref b64), .val (.ref b106), .val (.long (((0 : Int64) + (1 : Int64)) + (1 : Int64))), .second] [(.long (xl97.getD (((p3 &&& (2147483647 : Int32)) % (11 : Int32))).toNatClampNeg 0))])
        refine own_st (fun t k => XS.lload X132.here hx rfl (hb hby at_228) rfl k) ?_
        show own_Go _ _ _ _ T132 (mkF m 230 #[.val (.int p0), .val (.int p1), .val (.int p2), .val (.int p3), .val (.long q4), .second, .val (.ref b1), .val (.int ((p0 &&& (2147483647 : Int32)) % (11 : Int32))), .val (.int ((p1 &&& (2147483647 : Int32)) % (11 : Int32))), .val (.int ((p2 &&& (2147483647 : Int32)) % (11 : Int32))), .val (.int ((p3 &&& (2147483647 : Int32)) % (11 : Int32))), .val (.ref b58), .val (.ref b64), .val (.ref b106), .val (.long (((0 : Int64) + (1 : Int64)) + (1 : Int64))), .second] [(.long (((0 : Int64) + (1 : Int64)) + (1 : Int64))), (.long (xl97.getD (((p3 &&& (2147483647 : Int32)) % (11 : Int32))).toNatClampNeg 0))])
        refine own_st (fun t k => XS.lcmp X132.here hx rfl (hb hby at_230) rfl k) ?_
        show own_Go _ _ _ _ T132 (mkF m 231 #[.val (.int p0), .val (.int p1), .val (.int p2), .val (.int p3), .val (.long q4), .second, .val (.ref b1), .val (.int ((p0 &&& (2147483647 : Int32)) % (11 : Int32))), .val (.int ((p1 &&& (2147483647 : Int32)) % (11 : Int32))), .val (.int ((p2 &&& (2147483647 : Int32)) % (11 : Int32))), .val (.int ((p3 &&& (2147483647 : Int32)) % (11 : Int32))), .val (.ref b58), .val (.ref b64), .val (.ref b106), .val (.long (((0 : Int64) + (1 : Int64)) + (1 : Int64))), .second] [(.int (lcmpW (xl97.getD (((p3 &&& (2147483647 : Int32)) % (11 : Int32))).toNatClampNeg 0) (((0 : Int64) + (1 : Int64)) + (1 : Int64))))])
        refine own_st (fun t k => XS.ifNo X132.here hx rfl (hb hby at_231) rfl ((if0 _ _).trans (teq ((lw_eq _ _).mpr (by rw [own_fin _ _ _ _ _ (own_rem p0) (own_rem p1) (own_rem p2) (own_rem p3) _ _ _ ex81 ex89 ex97]; simp only [if_neg c185_109, if_pos c199_129, if_pos c212_130] : (xl97.getD (((p3 &&& (2147483647 : Int32)) % (11 : Int32))).toNatClampNeg 0) = (((0 : Int64) + (1 : Int64)) + (1 : Int64))))).2) k) ?_
        show own_Go _ _ _ _ T132 (mkF m 234 #[.val (.int p0), .val (.int p1), .val (.int p2), .val (.int p3), .val (.long q4), .second, .val (.ref b1), .val (.int ((p0 &&& (2147483647 : Int32)) % (11 : Int32))), .val (.int ((p1 &&& (2147483647 : Int32)) % (11 : Int32))), .val (.int ((p2 &&& (2147483647 : Int32)) % (11 : Int32))), .val (.int ((p3 &&& (2147483647 : Int32)) % (11 : Int32))), .val (.ref b58), .val (.ref b64), .val (.ref b106), .val (.long (((0 : Int64) + (1 : Int64)) + (1 : Int64))), .second] [])
        refine own_st (fun t k => XS.iconst X132.here hx rfl (hb hby at_234) k) ?_
        show own_Go _ _ _ _ T132 (mkF m 235 #[.val (.int p0), .val (.int p1), .val (.int p2), .val (.int p3), .val (.long q4), .second, .val (.ref b1), .val (.int ((p0 &&& (2147483647 : Int32)) % (11 : Int32))), .val (.int ((p1 &&& (2147483647 : Int32)) % (11 : Int32))), .val (.int ((p2 &&& (2147483647 : Int32)) % (11 : Int32))), .val (.int ((p3 &&& (2147483647 : Int32)) % (11 : Int32))), .val (.ref b58), .val (.ref b64), .val (.ref b106), .val (.long (((0 : Int64) + (1 : Int64)) + (1 : Int64))), .second] [(.int (1 : Int32))])
        refine own_st (fun t k => XS.goto X132.here hx rfl (pc0 := 235) (pc' := 239) rfl (hb hby at_235) (by decide) (by decide) k) ?_
        show own_Go _ _ _ _ T132 (mkF m 239 #[.val (.int p0), .val (.int p1), .val (.int p2), .val (.int p3), .val (.long q4), .second, .val (.ref b1), .val (.int ((p0 &&& (2147483647 : Int32)) % (11 : Int32))), .val (.int ((p1 &&& (2147483647 : Int32)) % (11 : Int32))), .val (.int ((p2 &&& (2147483647 : Int32)) % (11 : Int32))), .val (.int ((p3 &&& (2147483647 : Int32)) % (11 : Int32))), .val (.ref b58), .val (.ref b64), .val (.ref b106), .val (.long (((0 : Int64) + (1 : Int64)) + (1 : Int64))), .second] [(.int (1 : Int32))])
        have hk100_134 := (Nat.le_trans hk100 K106.1)
        exact own_retNW X132 hS100 (by rw [e132]; exact hk100_134) hx hlk (t := .boolean) hrt (by simp) (hb hby at_239) ⟨rfl, N132⟩ (by decide) (by decide)
      ·
        refine own_st (fun t k => XS.icmpYes X106.here hx rfl (pc0 := 212) (pc' := 221) rfl (hb hby at_212) rfl (feq c212_130).2 (by decide) (by decide) k) ?_
        show own_Go _ _ _ _ T106 (mkF m 221 #[.val (.int p0), .val (.int p1), .val (.int p2), .val (.int p3), .val (.long q4), .second, .val (.ref b1), .val (.int ((p0 &&& (2147483647 : Int32)) % (11 : Int32))), .val (.int ((p1 &&& (2147483647 : Int32)) % (11 : Int32))), .val (.int ((p2 &&& (2147483647 : Int32)) % (11 : Int32))), .val (.int ((p3 &&& (2147483647 : Int32)) % (11 : Int32))), .val (.ref b58), .val (.ref b64), .val (.ref b106), .val (.long ((0 : Int64) + (1 : Int64))), .second] [])
        refine own_st (fun t k => XS.aload X106.here hx rfl (hb hby at_221) rfl rfl k) ?_
        show own_Go _ _ _ _ T106 (mkF m 223 #[.val (.int p0), .val (.int p1), .val (.int p2), .val (.int p3), .val (.long q4), .second, .val (.ref b1), .val (.int ((p0 &&& (2147483647 : Int32)) % (11 : Int32))), .val (.int ((p1 &&& (2147483647 : Int32)) % (11 : Int32))), .val (.int ((p2 &&& (2147483647 : Int32)) % (11 : Int32))), .val (.int ((p3 &&& (2147483647 : Int32)) % (11 : Int32))), .val (.ref b58), .val (.ref b64), .val (.ref b106), .val (.long ((0 : Int64) + (1 : Int64))), .second] [(.ref b106)])
        refine own_st (fun t k => XS.iload X106.here hx rfl (hb hby at_223) rfl k) ?_
        show own_Go _ _ _ _ T106 (mkF m 225 #[.val (.int p0), .val (.int p1), .val (.int p2), .val (.int p3), .val (.long q4), .second, .val (.ref b1), .val (.int ((p0 &&& (2147483647 : Int32)) % (11 : Int32))), .val (.int ((p1 &&& (2147483647 : Int32)) % (11 : Int32))), .val (.int ((p2 &&& (2147483647 : Int32)) % (11 : Int32))), .val (.int ((p3 &&& (2147483647 : Int32)) % (11 : Int32))), .val (.ref b58), .val (.ref b64), .val (.ref b106), .val (.long ((0 : Int64) + (1 : Int64))), .second] [(.int ((p3 &&& (2147483647 : Int32)) % (11 : Int32))), (.ref b106)])
        have O0_135 := (((O0_92.keep K95 (allS g_ar60 all0)).ext E100).keep K106 (all0))
        have K0_137 := (K0_107.trans K106 (all0))
        obtain ⟨_, _, ⟨T136, L136, k136, n136⟩, -, X136, ⟨Lc136, hQ136, l136, y136, z136⟩, st136⟩ := Jvm.LawKit.callS X106 hx (y := (⟨"com/example/hot_pool/hotpool/stats/PoolCountsAddPinLaw", "read", "(Lcom/example/hot_pool/hotpool/stats/HotPoolStatistics;I)J"⟩ : MethodName)) hown100 (mvT hZ100 (hw _ (List.mem_of_getElem? (i := 110) rfl))) (mvT hZ100 (hw _ (List.mem_of_getElem? (i := 111) rfl))) (mvT hZ100 (hw _ (List.mem_of_getElem? (i := 112) rfl))) (mvT hZ100 (hw _ (List.mem_of_getElem? (i := 113) rfl))) (by decide) (backOf (W := 0) (rm9 l Z a0 hw [] b106 ((p3 &&& (2147483647 : Int32)) % (11 : Int32)) ar106 k106 xl97 es  T106.heap n0 (Nat.le_trans Z0 K0_137.1) E106 F106 V106 hG O0_135 (own_rem _)) hZ100 (hw _ (List.mem_of_getElem? (i := 113) rfl)) (hw _ (List.mem_of_getElem? (i := 112) rfl)) (by decide) (by decide)) (g := (mkF m 225 #[.val (.int p0), .val (.int p1), .val (.int p2), .val (.int p3), .val (.long q4), .second, .val (.ref b1), .val (.int ((p0 &&& (2147483647 : Int32)) % (11 : Int32))), .val (.int ((p1 &&& (2147483647 : Int32)) % (11 : Int32))), .val (.int ((p2 &&& (2147483647 : Int32)) % (11 : Int32))), .val (.int ((p3 &&& (2147483647 : Int32)) % (11 : Int32))), .val (.ref b58), .val (.ref b64), .val (.ref b106), .val (.long ((0 : Int64) + (1 : Int64))), .second] [(.int ((p3 &&& (2147483647 : Int32)) % (11 : Int32))), (.ref b106)])) rfl (by rw [hml]; rfl) (argsL := [(.ref b106), (.int ((p3 &&& (2147483647 : Int32)) % (11 : Int32)))]) (rest := []) (lenOf pd_200029 rfl) rfl (by show 2 * 0 + _ ≤ _; exact Nat.le_of_eq rfl) (hb hby at_225) (fun _ _ => ⟨rfl, rfl, (by decide : 11 + 0 ≤ _), (by decide : 81 + 0 ≤ _)⟩)
        dsimp only [Pt.U, Pt.locs, Pt.cells, Pt.slots] at X136 l136 y136 z136 st136 hQ136
        subst l136 y136 z136
        obtain ⟨rfl, N136q, e136⟩ := hQ136
        obtain ⟨_, X136, N136⟩ := own_hide X136 (Fr.app N106 N136q)
        refine own_st st136 ?_
        show own_Go _ _ _ _ T136 (mkF m 228 #[.val (.int p0), .val (.int p1), .val (.int p2), .val (.int p3), .val (.long q4), .second, .val (.ref b1), .val (.int ((p0 &&& (2147483647 : Int32)) % (11 : Int32))), .val (.int ((p1 &&& (2147483647 : Int32)) % (11 : Int32))), .val (.int ((p2 &&& (2147483647 : Int32)) % (11 : Int32))), .val (.int ((p3 &&& (2147483647 : Int32)) % (11 : Int32))), .val (.ref b58), .val (.ref b64), .val (.ref b106), .val (.long ((0 : Int64) + (1 : Int64))), .second] [(.long (xl97.getD (((p3 &&& (2147483647 : Int32)) % (11 : Int32))).toNatClampNeg 0))])
        refine own_st (fun t k => XS.lload X136.here hx rfl (hb hby at_228) rfl k) ?_
        show own_Go _ _ _ _ T136 (mkF m 230 #[.val (.int p0), .val (.int p1), .val (.int p2), .val (.int p3), .val (.long q4), .second, .val (.ref b1), .val (.int ((p0 &&& (2147483647 : Int32)) % (11 : Int32))), .val (.int ((p1 &&& (2147483647 : Int32)) % (11 : Int32))), .val (.int ((p2 &&& (2147483647 : Int32)) % (11 : Int32))), .val (.int ((p3 &&& (2147483647 : Int32)) % (11 : Int32))), .val (.ref b58), .val (.ref b64), .val (.ref b106), .val (.long ((0 : Int64) + (1 : Int64))), .second] [(.long ((0 : Int64) + (1 : Int64))), (.long (xl97.getD (((p3 &&& (2147483647 : Int32)) % (11 : Int32))).toNatClampNeg 0))])
        refine own_st (fun t k => XS.lcmp X136.here hx rfl (hb hby at_230) rfl k) ?_
        show own_Go _ _ _ _ T136 (mkF m 231 #[.val (.int p0), .val (.int p1), .val (.int p2), .val (.int p3), .val (.long q4), .second, .val (.ref b1), .val (.int ((p0 &&& (2147483647 : Int32)) % (11 : Int32))), .val (.int ((p1 &&& (2147483647 : Int32)) % (11 : Int32))), .val (.int ((p2 &&& (2147483647 : Int32)) % (11 : Int32))), .val (.int ((p3 &&& (2147483647 : Int32)) % (11 : Int32))), .val (.ref b58), .val (.ref b64), .val (.ref b106), .val (.long ((0 : Int64) + (1 : Int64))), .second] [(.int (lcmpW (xl97.getD (((p3 &&& (2147483647 : Int32)) % (11 : Int32))).toNatClampNeg 0) ((0 : Int64) + (1 : Int64))))])
        refine own_st (fun t k => XS.ifNo X136.here hx rfl (hb hby at_231) rfl ((if0 _ _).trans (teq ((lw_eq _ _).mpr (by rw [own_fin _ _ _ _ _ (own_rem p0) (own_rem p1) (own_rem p2) (own_rem p3) _ _ _ ex81 ex89 ex97]; simp only [if_neg c185_109, if_pos c199_129, if_neg c212_130] : (xl97.getD (((p3 &&& (2147483647 : Int32)) % (11 : Int32))).toNatClampNeg 0) = ((0 : Int64) + (1 : Int64))))).2) k) ?_
        show own_Go _ _ _ _ T136 (mkF m 234 #[.val (.int p0), .val (.int p1), .val (.int p2), .val (.int p3), .val (.long q4), .second, .val (.ref b1), .val (.int ((p0 &&& (2147483647 : Int32)) % (11 : Int32))), .val (.int ((p1 &&& (2147483647 : Int32)) % (11 : Int32))), .val (.int ((p2 &&& (2147483647 : Int32)) % (11 : Int32))), .val (.int ((p3 &&& (2147483647 : Int32)) % (11 : Int32))), .val (.ref b58), .val (.ref b64), .val (.ref b106), .val (.long ((0 : Int64) + (1 : Int64))), .second] [])
        refine own_st (fun t k => XS.iconst X136.here hx rfl (hb hby at_234) k) ?_
        show own_Go _ _ _ _ T136 (mkF m 235 #[.val (.int p0), .val (.int p1), .val (.int p2), .val (.int p3), .val (.long q4), .second, .val (.ref b1), .val (.int ((p0 &&& (2147483647 : Int32)) % (11 : Int32))), .val (.int ((p1 &&& (2147483647 : Int32)) % (11 : Int32))), .val (.int ((p2 &&& (2147483647 : Int32)) % (11 : Int32))), .val (.int ((p3 &&& (2147483647 : Int32)) % (11 : Int32))), .val (.ref b58), .val (.ref b64), .val (.ref b106), .val (.long ((0 : Int64) + (1 : Int64))), .second] [(.int (1 : Int32))])
        refine own_st (fun t k => XS.goto X136.here hx rfl (pc0 := 235) (pc' := 239) rfl (hb hby at_235) (by decide) (by decide) k) ?_
        show own_Go _ _ _ _ T136 (mkF m 239 #[.val (.int p0), .val (.int p1), .val (.int p2), .val (.int p3), .val (.long q4), .second, .val (.ref b1), .val (.int ((p0 &&& (2147483647 : Int32)) % (11 : Int32))), .val (.int ((p1 &&& (2147483647 : Int32)) % (11 : Int32))), .val (.int ((p2 &&& (2147483647 : Int32)) % (11 : Int32))), .val (.int ((p3 &&& (2147483647 : Int32)) % (11 : Int32))), .val (.ref b58), .val (.ref b64), .val (.ref b106), .val (.long ((0 : Int64) + (1 : Int64))), .second] [(.int (1 : Int32))])
        have hk100_138 := (Nat.le_trans hk100 K106.1)
        exact own_retNW X136 hS100 (by rw [e136]; exact hk100_138) hx hlk (t := .boolean) hrt (by simp) (hb hby at_239) ⟨rfl, N136⟩ (by decide) (by decide)
    ·
      refine own_st (fun t k => XS.icmpYes X106.here hx rfl (pc0 := 199) (pc' := 208) rfl (hb hby at_199) rfl (feq c199_129).2 (by decide) (by decide) k) ?_
      show own_Go _ _ _ _ T106 (mkF m 208 #[.val (.int p0), .val (.int p1), .val (.int p2), .val (.int p3), .val (.long q4), .second, .val (.ref b1), .val (.int ((p0 &&& (2147483647 : Int32)) % (11 : Int32))), .val (.int ((p1 &&& (2147483647 : Int32)) % (11 : Int32))), .val (.int ((p2 &&& (2147483647 : Int32)) % (11 : Int32))), .val (.int ((p3 &&& (2147483647 : Int32)) % (11 : Int32))), .val (.ref b58), .val (.ref b64), .val (.ref b106), .val (.long (0 : Int64)), .second] [])
      refine own_st (fun t k => XS.iload X106.here hx rfl (hb hby at_208) rfl k) ?_
      show own_Go _ _ _ _ T106 (mkF m 210 #[.val (.int p0), .val (.int p1), .val (.int p2), .val (.int p3), .val (.long q4), .second, .val (.ref b1), .val (.int ((p0 &&& (2147483647 : Int32)) % (11 : Int32))), .val (.int ((p1 &&& (2147483647 : Int32)) % (11 : Int32))), .val (.int ((p2 &&& (2147483647 : Int32)) % (11 : Int32))), .val (.int ((p3 &&& (2147483647 : Int32)) % (11 : Int32))), .val (.ref b58), .val (.ref b64), .val (.ref b106), .val (.long (0 : Int64)), .second] [(.int ((p3 &&& (2147483647 : Int32)) % (11 : Int32)))])
      refine own_st (fun t k => XS.iload X106.here hx rfl (hb hby at_210) rfl k) ?_
      show own_Go _ _ _ _ T106 (mkF m 212 #[.val (.int p0), .val (.int p1), .val (.int p2), .val (.int p3), .val (.long q4), .second, .val (.ref b1), .val (.int ((p0 &&& (2147483647 : Int32)) % (11 : Int32))), .val (.int ((p1 &&& (2147483647 : Int32)) % (11 : Int32))), .val (.int ((p2 &&& (2147483647 : Int32)) % (11 : Int32))), .val (.int ((p3 &&& (2147483647 : Int32)) % (11 : Int32))), .val (.ref b58), .val (.ref b64), .val (.ref b106), .val (.long (0 : Int64)), .second] [(.int ((p2 &&& (2147483647 : Int32)) % (11 : Int32))), (.int ((p3 &&& (2147483647 : Int32)) % (11 : Int32)))])
      by_cases c212_139 : ((p3 &&& (2147483647 : Int32)) % (11 : Int32)) = ((p2 &&& (2147483647 : Int32)) % (11 : Int32))
      ·
        refine own_st (fun t k => XS.icmpNo X106.here hx rfl (hb hby at_212) rfl (teq c212_139).2 k) ?_
        show own_Go _ _ _ _ T106 (mkF m 215 #[.val (.int p0), .val (.int p1), .val (.int p2), .val (.int p3), .val (.long q4), .second, .val (.ref b1), .val (.int ((p0 &&& (2147483647 : Int32)) % (11 : Int32))), .val (.int ((p1 &&& (2147483647 : Int32)) % (11 : Int32))), .val (.int ((p2 &&& (2147483647 : Int32)) % (11 : Int32))), .val (.int ((p3 &&& (2147483647 : Int32)) % (11 : Int32))), .val (.ref b58), .val (.ref b64), .val (.ref b106), .val (.long (0 : Int64)), .second] [])
        refine own_st (fun t k => XS.lload X106.here hx rfl (hb hby at_215) rfl k) ?_
        show own_Go _ _ _ _ T106 (mkF m 217 #[.val (.int p0), .val (.int p1), .val (.int p2), .val (.int p3), .val (.long q4), .second, .val (.ref b1), .val (.int ((p0 &&& (2147483647 : Int32)) % (11 : Int32))), .val (.int ((p1 &&& (2147483647 : Int32)) % (11 : Int32))), .val (.int ((p2 &&& (2147483647 : Int32)) % (11 : Int32))), .val (.int ((p3 &&& (2147483647 : Int32)) % (11 : Int32))), .val (.ref b58), .val (.ref b64), .val (.ref b106), .val (.long (0 : Int64)), .second] [(.long (0 : Int64))])
        refine own_st (fun t k => XS.lconst X106.here hx rfl (hb hby at_217) k) ?_
        show own_Go _ _ _ _ T106 (mkF m 218 #[.val (.int p0), .val (.int p1), .val (.int p2), .val (.int p3), .val (.long q4), .second, .val (.ref b1), .val (.int ((p0 &&& (2147483647 : Int32)) % (11 : Int32))), .val (.int ((p1 &&& (2147483647 : Int32)) % (11 : Int32))), .val (.int ((p2 &&& (2147483647 : Int32)) % (11 : Int32))), .val (.int ((p3 &&& (2147483647 : Int32)) % (11 : Int32))), .val (.ref b58), .val (.ref b64), .val (.ref b106), .val (.long (0 : Int64)), .second] [(.long (1 : Int64)), (.long (0 : Int64))])
        refine own_st (fun t k => XS.ladd X106.here hx rfl (hb hby at_218) rfl k) ?_
        show own_Go _ _ _ _ T106 (mkF m 219 #[.val (.int p0), .val (.int p1), .val (.int p2), .val (.int p3), .val (.long q4), .second, .val (.ref b1), .val (.int ((p0 &&& (2147483647 : Int32)) % (11 : Int32))), .val (.int ((p1 &&& (2147483647 : Int32)) % (11 : Int32))), .val (.int ((p2 &&& (2147483647 : Int32)) % (11 : Int32))), .val (.int ((p3 &&& (2147483647 : Int32)) % (11 : Int32))), .val (.ref b58), .val (.ref b64), .val (.ref b106), .val (.long (0 : Int64)), .second] [(.long ((0 : Int64) + (1 : Int64)))])
        refine own_st (fun t k => XS.lstore X106.here hx rfl (hb hby at_219) rfl (l' := #[.val (.int p0), .val (.int p1), .val (.int p2), .val (.int p3), .val (.long q4), .second, .val (.ref b1), .val (.int ((p0 &&& (2147483647 : Int32)) % (11 : Int32))), .val (.int ((p1 &&& (2147483647 : Int32)) % (11 : Int32))), .val (.int ((p2 &&& (2147483647 : Int32)) % (11 : Int32))), .val (.int ((p3 &&& (2147483647 : Int32)) % (11 : Int32))), .val (.ref b58), .val (.ref b64), .val (.ref b106), .val (.long ((0 : Int64) + (1 : Int64))), .second]) rfl k) ?_
        show own_Go _ _ _ _ T106 (mkF m 221 #[.val (.int p0), .val (.int p1), .val (.int p2), .val (.int p3), .val (.long q4), .second, .val (.ref b1), .val (.int ((p0 &&& (2147483647 : Int32)) % (11 : Int32))), .val (.int ((p1 &&& (2147483647 : Int32)) % (11 : Int32))), .val (.int ((p2 &&& (2147483647 : Int32)) % (11 : Int32))), .val (.int ((p3 &&& (2147483647 : Int32)) % (11 : Int32))), .val (.ref b58), .val (.ref b64), .val (.ref b106), .val (.long ((0 : Int64) + (1 : Int64))), .second] [])
        refine own_st (fun t k => XS.aload X106.here hx rfl (hb hby at_221) rfl rfl k) ?_
        show own_Go _ _ _ _ T106 (mkF m 223 #[.val (.int p0), .val (.int p1), .val (.int p2), .val (.int p3), .val (.long q4), .second, .val (.ref b1), .val (.int ((p0 &&& (2147483647 : Int32)) % (11 : Int32))), .val (.int ((p1 &&& (2147483647 : Int32)) % (11 : Int32))), .val (.int ((p2 &&& (2147483647 : Int32)) % (11 : Int32))), .val (.int ((p3 &&& (2147483647 : Int32)) % (11 : Int32))), .val (.ref b58), .val (.ref b64), .val (.ref b106), .val (.long ((0 : Int64) + (1 : Int64))), .second] [(.ref b106)])
        refine own_st (fun t k => XS.iload X106.here hx rfl (hb hby at_223) rfl k) ?_
        show own_Go _ _ _ _ T106 (mkF m 225 #[.val (.int p0), .val (.int p1), .val (.int p2), .val (.int p3), .val (.long q4), .second, .val (.ref b1), .val (.int ((p0 &&& (2147483647 : Int32)) % (11 : Int32))), .val (.int ((p1 &&& (2147483647 : Int32)) % (11 : Int32))), .val (.int ((p2 &&& (2147483647 : Int32)) % (11 : Int32))), .val (.int ((p3 &&& (2147483647 : Int32)) % (11 : Int32))), .val (.ref b58), .val (.ref b64), .val (.ref b106), .val (.long ((0 : Int64) + (1 : Int64))), .second] [(.int ((p3 &&& (2147483647 : Int32)) % (11 : Int32))), (.ref b106)])
        have O0_140 := (((O0_92.keep K95 (allS g_ar60 all0)).ext E100).keep K106 (all0))
        have K0_142 := (K0_107.trans K106 (all0))
        obtain ⟨_, _, ⟨T141, L141, k141, n141⟩, -, X141, ⟨Lc141, hQ141, l141, y141, z141⟩, st141⟩ := Jvm.LawKit.callS X106 hx (y := (⟨"com/example/hot_pool/hotpool/stats/PoolCountsAddPinLaw", "read", "(Lcom/example/hot_pool/hotpool/stats/HotPoolStatistics;I)J"⟩ : MethodName)) hown100 (mvT hZ100 (hw _ (List.mem_of_getElem? (i := 110) rfl))) (mvT hZ100 (hw _ (List.mem_of_getElem? (i := 111) rfl))) (mvT hZ100 (hw _ (List.mem_of_getElem? (i := 112) rfl))) (mvT hZ100 (hw _ (List.mem_of_getElem? (i := 113) rfl))) (by decide) (backOf (W := 0) (rm9 l Z a0 hw [] b106 ((p3 &&& (2147483647 : Int32)) % (11 : Int32)) ar106 k106 xl97 es  T106.heap n0 (Nat.le_trans Z0 K0_142.1) E106 F106 V106 hG O0_140 (own_rem _)) hZ100 (hw _ (List.mem_of_getElem? (i := 113) rfl)) (hw _ (List.mem_of_getElem? (i := 112) rfl)) (by decide) (by decide)) (g := (mkF m 225 #[.val (.int p0), .val (.int p1), .val (.int p2), .val (.int p3), .val (.long q4), .second, .val (.ref b1), .val (.int ((p0 &&& (2147483647 : Int32)) % (11 : Int32))), .val (.int ((p1 &&& (2147483647 : Int32)) % (11 : Int32))), .val (.int ((p2 &&& (2147483647 : Int32)) % (11 : Int32))), .val (.int ((p3 &&& (2147483647 : Int32)) % (11 : Int32))), .val (.ref b58), .val (.ref b64), .val (.ref b106), .val (.long ((0 : Int64) + (1 : Int64))), .second] [(.int ((p3 &&& (2147483647 : Int32)) % (11 : Int32))), (.ref b106)])) rfl (by rw [hml]; rfl) (argsL := [(.ref b106), (.int ((p3 &&& (2147483647 : Int32)) % (11 : Int32)))]) (rest := []) (lenOf pd_200029 rfl) rfl (by show 2 * 0 + _ ≤ _; exact Nat.le_of_eq rfl) (hb hby at_225) (fun _ _ => ⟨rfl, rfl, (by decide : 11 + 0 ≤ _), (by decide : 81 + 0 ≤ _)⟩)
        dsimp only [Pt.U, Pt.locs, Pt.cells, Pt.slots] at X141 l141 y141 z141 st141 hQ141
        subst l141 y141 z141
        obtain ⟨rfl, N141q, e141⟩ := hQ141
        obtain ⟨_, X141, N141⟩ := own_hide X141 (Fr.app N106 N141q)
        refine own_st st141 ?_
        show own_Go _ _ _ _ T141 (mkF m 228 #[.val (.int p0), .val (.int p1), .val (.int p2), .val (.int p3), .val (.long q4), .second, .val (.ref b1), .val (.int ((p0 &&& (2147483647 : Int32)) % (11 : Int32))), .val (.int ((p1 &&& (2147483647 : Int32)) % (11 : Int32))), .val (.int ((p2 &&& (2147483647 : Int32)) % (11 : Int32))), .val (.int ((p3 &&& (2147483647 : Int32)) % (11 : Int32))), .val (.ref b58), .val (.ref b64), .val (.ref b106), .val (.long ((0 : Int64) + (1 : Int64))), .second] [(.long (xl97.getD (((p3 &&& (2147483647 : Int32)) % (11 : Int32))).toNatClampNeg 0))])
        refine own_st (fun t k => XS.lload X141.here hx rfl (hb hby at_228) rfl k) ?_
        show own_Go _ _ _ _ T141 (mkF m 230 #[.val (.int p0), .val (.int p1), .val (.int p2), .val (.int p3), .val (.long q4), .second, .val (.ref b1), .val (.int ((p0 &&& (2147483647 : Int32)) % (11 : Int32))), .val (.int ((p1 &&& (2147483647 : Int32)) % (11 : Int32))), .val (.int ((p2 &&& (2147483647 : Int32)) % (11 : Int32))), .val (.int ((p3 &&& (2147483647 : Int32)) % (11 : Int32))), .val (.ref b58), .val (.ref b64), .val (.ref b106), .val (.long ((0 : Int64) + (1 : Int64))), .second] [(.long ((0 : Int64) + (1 : Int64))), (.long (xl97.getD (((p3 &&& (2147483647 : Int32)) % (11 : Int32))).toNatClampNeg 0))])
        refine own_st (fun t k => XS.lcmp X141.here hx rfl (hb hby at_230) rfl k) ?_
        show own_Go _ _ _ _ T141 (mkF m 231 #[.val (.int p0), .val (.int p1), .val (.int p2), .val (.int p3), .val (.long q4), .second, .val (.ref b1), .val (.int ((p0 &&& (2147483647 : Int32)) % (11 : Int32))), .val (.int ((p1 &&& (2147483647 : Int32)) % (11 : Int32))), .val (.int ((p2 &&& (2147483647 : Int32)) % (11 : Int32))), .val (.int ((p3 &&& (2147483647 : Int32)) % (11 : Int32))), .val (.ref b58), .val (.ref b64), .val (.ref b106), .val (.long ((0 : Int64) + (1 : Int64))), .second] [(.int (lcmpW (xl97.getD (((p3 &&& (2147483647 : Int32)) % (11 : Int32))).toNatClampNeg 0) ((0 : Int64) + (1 : Int64))))])
        refine own_st (fun t k => XS.ifNo X141.here hx rfl (hb hby at_231) rfl ((if0 _ _).trans (teq ((lw_eq _ _).mpr (by rw [own_fin _ _ _ _ _ (own_rem p0) (own_rem p1) (own_rem p2) (own_rem p3) _ _ _ ex81 ex89 ex97]; simp only [if_neg c185_109, if_neg c199_129, if_pos c212_139] : (xl97.getD (((p3 &&& (2147483647 : Int32)) % (11 : Int32))).toNatClampNeg 0) = ((0 : Int64) + (1 : Int64))))).2) k) ?_
        show own_Go _ _ _ _ T141 (mkF m 234 #[.val (.int p0), .val (.int p1), .val (.int p2), .val (.int p3), .val (.long q4), .second, .val (.ref b1), .val (.int ((p0 &&& (2147483647 : Int32)) % (11 : Int32))), .val (.int ((p1 &&& (2147483647 : Int32)) % (11 : Int32))), .val (.int ((p2 &&& (2147483647 : Int32)) % (11 : Int32))), .val (.int ((p3 &&& (2147483647 : Int32)) % (11 : Int32))), .val (.ref b58), .val (.ref b64), .val (.ref b106), .val (.long ((0 : Int64) + (1 : Int64))), .second] [])
        refine own_st (fun t k => XS.iconst X141.here hx rfl (hb hby at_234) k) ?_
        show own_Go _ _ _ _ T141 (mkF m 235 #[.val (.int p0), .val (.int p1), .val (.int p2), .val (.int p3), .val (.long q4), .second, .val (.ref b1), .val (.int ((p0 &&& (2147483647 : Int32)) % (11 : Int32))), .val (.int ((p1 &&& (2147483647 : Int32)) % (11 : Int32))), .val (.int ((p2 &&& (2147483647 : Int32)) % (11 : Int32))), .val (.int ((p3 &&& (2147483647 : Int32)) % (11 : Int32))), .val (.ref b58), .val (.ref b64), .val (.ref b106), .val (.long ((0 : Int64) + (1 : Int64))), .second] [(.int (1 : Int32))])
        refine own_st (fun t k => XS.goto X141.here hx rfl (pc0 := 235) (pc' := 239) rfl (hb hby at_235) (by decide) (by decide) k) ?_
        show own_Go _ _ _ _ T141 (mkF m 239 #[.val (.int p0), .val (.int p1), .val (.int p2), .val (.int p3), .val (.long q4), .second, .val (.ref b1), .val (.int ((p0 &&& (2147483647 : Int32)) % (11 : Int32))), .val (.int ((p1 &&& (2147483647 : Int32)) % (11 : Int32))), .val (.int ((p2 &&& (2147483647 : Int32)) % (11 : Int32))), .val (.int ((p3 &&& (2147483647 : Int32)) % (11 : Int32))), .val (.ref b58), .val (.ref b64), .val (.ref b106), .val (.long ((0 : Int64) + (1 : Int64))), .second] [(.int (1 : Int32))])
        have hk100_143 := (Nat.le_trans hk100 K106.1)
        exact own_retNW X141 hS100 (by rw [e141]; exact hk100_143) hx hlk (t := .boolean) hrt (by simp) (hb hby at_239) ⟨rfl, N141⟩ (by decide) (by decide)
      ·
        refine own_st (fun t k => XS.icmpYes X106.here hx rfl (pc0 := 212) (pc' := 221) rfl (hb hby at_212) rfl (feq c212_139).2 (by decide) (by decide) k) ?_
        show own_Go _ _ _ _ T106 (mkF m 221 #[.val (.int p0), .val (.int p1), .val (.int p2), .val (.int p3), .val (.long q4), .second, .val (.ref b1), .val (.int ((p0 &&& (2147483647 : Int32)) % (11 : Int32))), .val (.int ((p1 &&& (2147483647 : Int32)) % (11 : Int32))), .val (.int ((p2 &&& (2147483647 : Int32)) % (11 : Int32))), .val (.int ((p3 &&& (2147483647 : Int32)) % (11 : Int32))), .val (.ref b58), .val (.ref b64), .val (.ref b106), .val (.long (0 : Int64)), .second] [])
        refine own_st (fun t k => XS.aload X106.here hx rfl (hb hby at_221) rfl rfl k) ?_
        show own_Go _ _ _ _ T106 (mkF m 223 #[.val (.int p0), .val (.int p1), .val (.int p2), .val (.int p3), .val (.long q4), .second, .val (.ref b1), .val (.int ((p0 &&& (2147483647 : Int32)) % (11 : Int32))), .val (.int ((p1 &&& (2147483647 : Int32)) % (11 : Int32))), .val (.int ((p2 &&& (2147483647 : Int32)) % (11 : Int32))), .val (.int ((p3 &&& (2147483647 : Int32)) % (11 : Int32))), .val (.ref b58), .val (.ref b64), .val (.ref b106), .val (.long (0 : Int64)), .second] [(.ref b106)])
        refine own_st (fun t k => XS.iload X106.here hx rfl (hb hby at_223) rfl k) ?_
        show own_Go _ _ _ _ T106 (mkF m 225 #[.val (.int p0), .val (.int p1), .val (.int p2), .val (.int p3), .val (.long q4), .second, .val (.ref b1), .val (.int ((p0 &&& (2147483647 : Int32)) % (11 : Int32))), .val (.int ((p1 &&& (2147483647 : Int32)) % (11 : Int32))), .val (.int ((p2 &&& (2147483647 : Int32)) % (11 : Int32))), .val (.int ((p3 &&& (2147483647 : Int32)) % (11 : Int32))), .val (.ref b58), .val (.ref b64), .val (.ref b106), .val (.long (0 : Int64)), .second] [(.int ((p3 &&& (2147483647 : Int32)) % (11 : Int32))), (.ref b106)])
        have O0_144 := (((O0_92.keep K95 (allS g_ar60 all0)).ext E100).keep K106 (all0))
        have K0_146 := (K0_107.trans K106 (all0))
        obtain ⟨_, _, ⟨T145, L145, k145, n145⟩, -, X145, ⟨Lc145, hQ145, l145, y145, z145⟩, st145⟩ := Jvm.LawKit.callS X106 hx (y := (⟨"com/example/hot_pool/hotpool/stats/PoolCountsAddPinLaw", "read", "(Lcom/example/hot_pool/hotpool/stats/HotPoolStatistics;I)J"⟩ : MethodName)) hown100 (mvT hZ100 (hw _ (List.mem_of_getElem? (i := 110) rfl))) (mvT hZ100 (hw _ (List.mem_of_getElem? (i := 111) rfl))) (mvT hZ100 (hw _ (List.mem_of_getElem? (i := 112) rfl))) (mvT hZ100 (hw _ (List.mem_of_getElem? (i := 113) rfl))) (by decide) (backOf (W := 0) (rm9 l Z a0 hw [] b106 ((p3 &&& (2147483647 : Int32)) % (11 : Int32)) ar106 k106 xl97 es  T106.heap n0 (Nat.le_trans Z0 K0_146.1) E106 F106 V106 hG O0_144 (own_rem _)) hZ100 (hw _ (List.mem_of_getElem? (i := 113) rfl)) (hw _ (List.mem_of_getElem? (i := 112) rfl)) (by decide) (by decide)) (g := (mkF m 225 #[.val (.int p0), .val (.int p1), .val (.int p2), .val (.int p3), .val (.long q4), .second, .val (.ref b1), .val (.int ((p0 &&& (2147483647 : Int32)) % (11 : Int32))), .val (.int ((p1 &&& (2147483647 : Int32)) % (11 : Int32))), .val (.int ((p2 &&& (2147483647 : Int32)) % (11 : Int32))), .val (.int ((p3 &&& (2147483647 : Int32)) % (11 : Int32))), .val (.ref b58), .val (.ref b64), .val (.ref b106), .val (.long (0 : Int64)), .second] [(.int ((p3 &&& (2147483647 : Int32)) % (11 : Int32))), (.ref b106)])) rfl (by rw [hml]; rfl) (argsL := [(.ref b106), (.int ((p3 &&& (2147483647 : Int32)) % (11 : Int32)))]) (rest := []) (lenOf pd_200029 rfl) rfl (by show 2 * 0 + _ ≤ _; exact Nat.le_of_eq rfl) (hb hby at_225) (fun _ _ => ⟨rfl, rfl, (by decide : 11 + 0 ≤ _), (by decide : 81 + 0 ≤ _)⟩)
        dsimp only [Pt.U, Pt.locs, Pt.cells, Pt.slots] at X145 l145 y145 z145 st145 hQ145
        subst l145 y145 z145
        obtain ⟨rfl, N145q, e145⟩ := hQ145
        obtain ⟨_, X145, N145⟩ := own_hide X145 (Fr.app N106 N145q)
        refine own_st st145 ?_
        show own_Go _ _ _ _ T145 (mkF m 228 #[.val (.int p0), .val (.int p1), .val (.int p2), .val (.int p3), .val (.long q4), .second, .val (.ref b1), .val (.int ((p0 &&& (2147483647 : Int32)) % (11 : Int32))), .val (.int ((p1 &&& (2147483647 : Int32)) % (11 : Int32))), .val (.int ((p2 &&& (2147483647 : Int32)) % (11 : Int32))), .val (.int ((p3 &&& (2147483647 : Int32)) % (11 : Int32))), .val (.ref b58), .val (.ref b64), .val (.ref b106), .val (.long (0 : Int64)), .second] [(.long (xl97.getD (((p3 &&& (2147483647 : Int32)) % (11 : Int32))).toNatClampNeg 0))])
        refine own_st (fun t k => XS.lload X145.here hx rfl (hb hby at_228) rfl k) ?_
        show own_Go _ _ _ _ T145 (mkF m 230 #[.val (.int p0), .val (.int p1), .val (.int p2), .val (.int p3), .val (.long q4), .second, .val (.ref b1), .val (.int ((p0 &&& (2147483647 : Int32)) % (11 : Int32))), .val (.int ((p1 &&& (2147483647 : Int32)) % (11 : Int32))), .val (.int ((p2 &&& (2147483647 : Int32)) % (11 : Int32))), .val (.int ((p3 &&& (2147483647 : Int32)) % (11 : Int32))), .val (.ref b58), .val (.ref b64), .val (.ref b106), .val (.long (0 : Int64)), .second] [(.long (0 : Int64)), (.long (xl97.getD (((p3 &&& (2147483647 : Int32)) % (11 : Int32))).toNatClampNeg 0))])
        refine own_st (fun t k => XS.lcmp X145.here hx rfl (hb hby at_230) rfl k) ?_
        show own_Go _ _ _ _ T145 (mkF m 231 #[.val (.int p0), .val (.int p1), .val (.int p2), .val (.int p3), .val (.long q4), .second, .val (.ref b1), .val (.int ((p0 &&& (2147483647 : Int32)) % (11 : Int32))), .val (.int ((p1 &&& (2147483647 : Int32)) % (11 : Int32))), .val (.int ((p2 &&& (2147483647 : Int32)) % (11 : Int32))), .val (.int ((p3 &&& (2147483647 : Int32)) % (11 : Int32))), .val (.ref b58), .val (.ref b64), .val (.ref b106), .val (.long (0 : Int64)), .second] [(.int (lcmpW (xl97.getD (((p3 &&& (2147483647 : Int32)) % (11 : Int32))).toNatClampNeg 0) (0 : Int64)))])
        refine own_st (fun t k => XS.ifNo X145.here hx rfl (hb hby at_231) rfl ((if0 _ _).trans (teq ((lw_eq _ _).mpr (by rw [own_fin _ _ _ _ _ (own_rem p0) (own_rem p1) (own_rem p2) (own_rem p3) _ _ _ ex81 ex89 ex97]; simp only [if_neg c185_109, if_neg c199_129, if_neg c212_139] : (xl97.getD (((p3 &&& (2147483647 : Int32)) % (11 : Int32))).toNatClampNeg 0) = (0 : Int64)))).2) k) ?_
        show own_Go _ _ _ _ T145 (mkF m 234 #[.val (.int p0), .val (.int p1), .val (.int p2), .val (.int p3), .val (.long q4), .second, .val (.ref b1), .val (.int ((p0 &&& (2147483647 : Int32)) % (11 : Int32))), .val (.int ((p1 &&& (2147483647 : Int32)) % (11 : Int32))), .val (.int ((p2 &&& (2147483647 : Int32)) % (11 : Int32))), .val (.int ((p3 &&& (2147483647 : Int32)) % (11 : Int32))), .val (.ref b58), .val (.ref b64), .val (.ref b106), .val (.long (0 : Int64)), .second] [])
        refine own_st (fun t k => XS.iconst X145.here hx rfl (hb hby at_234) k) ?_
        show own_Go _ _ _ _ T145 (mkF m 235 #[.val (.int p0), .val (.int p1), .val (.int p2), .val (.int p3), .val (.long q4), .second, .val (.ref b1), .val (.int ((p0 &&& (2147483647 : Int32)) % (11 : Int32))), .val (.int ((p1 &&& (2147483647 : Int32)) % (11 : Int32))), .val (.int ((p2 &&& (2147483647 : Int32)) % (11 : Int32))), .val (.int ((p3 &&& (2147483647 : Int32)) % (11 : Int32))), .val (.ref b58), .val (.ref b64), .val (.ref b106), .val (.long (0 : Int64)), .second] [(.int (1 : Int32))])
        refine own_st (fun t k => XS.goto X145.here hx rfl (pc0 := 235) (pc' := 239) rfl (hb hby at_235) (by decide) (by decide) k) ?_
        show own_Go _ _ _ _ T145 (mkF m 239 #[.val (.int p0), .val (.int p1), .val (.int p2), .val (.int p3), .val (.long q4), .second, .val (.ref b1), .val (.int ((p0 &&& (2147483647 : Int32)) % (11 : Int32))), .val (.int ((p1 &&& (2147483647 : Int32)) % (11 : Int32))), .val (.int ((p2 &&& (2147483647 : Int32)) % (11 : Int32))), .val (.int ((p3 &&& (2147483647 : Int32)) % (11 : Int32))), .val (.ref b58), .val (.ref b64), .val (.ref b106), .val (.long (0 : Int64)), .second] [(.int (1 : Int32))])
        have hk100_147 := (Nat.le_trans hk100 K106.1)
        exact own_retNW X145 hS100 (by rw [e145]; exact hk100_147) hx hlk (t := .boolean) hrt (by simp) (hb hby at_239) ⟨rfl, N145⟩ (by decide) (by decide)
theorem own_len {args : Array Value} {s : State} {t : Term} {a : Addr} {c : Cell} {ty : FieldType} {z : Int32} (ev : t.eval args s none [] s = some (.ref a)) (A : Arr s s.heap a c ty) (h : (Term.length t).eval args s none [] s = some (.int z)) : c.slots.size = z.toNatClampNeg := by
  have ha := A.fin (U := s) (Vm.Alike.refl _)
  by_cases hl : c.slots.size < 2 ^ 31
  · rw [len_f ev ha hl] at h
    cases h
    have q := len_toInt hl
    simp only [Int32.toNatClampNeg, q]
    omega
  · simp [Term.eval, ev, ha, hl] at h
set_option maxRecDepth 65536 in
set_option maxHeartbeats 40000000 in
theorem comes_1 {Post : Tables → Env → Array Value → State → Outcome → State → Prop} (hpost : ∀ tb e args s v u, (limb_1_1.after args s (.returned v) u = true ∧ limb_1_2.after args s (.returned v) u = true ∧ True) → ReturnedEndW s (.returned v) u (Jvm.fieldLocs frame_1_writes args s ++ Jvm.arrayLocs frame_1_arrays args s ++ Jvm.staticLocs frame_1_statics s) 32 1280 → Post tb e args s (.returned v) u) :
    ArmFor flags0 classFile x code maxLocals ret World_1 tables_1 room_1 Calls_1 rest_1 Pre_1 Post := by
  intro l hfl _ _ p e ha hc hk s m args below hf hA hF happ hP
  obtain ⟨hcalls, hrest, hpre⟩ := hP
  obtain ⟨-, -, -, hnamed, -, -, -, hat⟩ := (Spec.applies_iff hf).mp happ
  obtain ⟨hg, hn⟩ := and_e (Cond.before_iff.mp (show (Jvm.Cond.and given_1 narrow_1).before args s = true from hpre))
  obtain ⟨gc, gr0⟩ := and_e hg
  obtain ⟨ga0, gr1⟩ := and_e gr0
  obtain ⟨ga1, gr2⟩ := and_e gr1
  obtain ⟨ga2, gr3⟩ := and_e gr2
  obtain ⟨ga3, gr4⟩ := and_e gr3
  obtain ⟨w0, w1, w2, w3, w4, rfl⟩ : ∃ w0 w1 w2 w3 w4 : Value, args = #[w0, w1, w2, w3, w4] := by
    have hs : args.size = 5 := by simpa [Cond.value, given_1] using gc
    obtain ⟨L⟩ := args
    match L, hs with
    | [w0, w1, w2, w3, w4], _ => exact ⟨w0, w1, w2, w3, w4, rfl⟩
  have hw := fun d (hd : d ∈ tables_1) => atoms_spec (ws := Jvm.Cond.code x code maxLocals ret :: tables_1) hat d (List.mem_cons_of_mem _ hd)
  have hfit : Fit s := fun {y c} hc i hi => by
    obtain ⟨ha, rfl⟩ := Array.getElem?_eq_some_iff.mp hc
    have q := List.all_eq_true.mp ((Array.all_eq_true_iff_forall_mem.mp hF) _ (Array.getElem_mem ha)) i (List.mem_range.mpr hi)
    simpa [Array.getElem?_eq_getElem hi] using q
  obtain ⟨i0, ei0⟩ := is_v ga0
  obtain rfl : w0 = (.int i0) := Option.some.inj ei0
  obtain ⟨i1, ei1⟩ := is_v ga1
  obtain rfl : w1 = (.int i1) := Option.some.inj ei1
  obtain ⟨i2, ei2⟩ := is_v ga2
  obtain rfl : w2 = (.int i2) := Option.some.inj ei2
  obtain ⟨i3, ei3⟩ := is_v ga3
  obtain rfl : w3 = (.int i3) := Option.some.inj ei3
  obtain ⟨i4, ei4⟩ := isL_v gr4
  obtain rfl : w4 = (.long i4) := Option.some.inj ei4
  obtain ⟨he0, hn⟩ := and_e hn
  obtain ⟨he1, hn⟩ := and_e hn
  obtain ⟨he2, hn⟩ := and_e hn
  obtain ⟨he3, hn⟩ := and_e hn
  obtain ⟨he4, hn⟩ := and_e hn
  obtain ⟨he5, hn⟩ := and_e hn
  obtain ⟨he6, hn⟩ := and_e hn
  obtain ⟨he7, hn⟩ := and_e hn
  obtain ⟨he8, hn⟩ := and_e hn
  obtain ⟨he9, hn⟩ := and_e hn
  obtain ⟨he10, hn⟩ := and_e hn
  obtain ⟨hva, hn⟩ := and_e hn
  obtain ⟨hvx, hn⟩ := and_e hn
  obtain ⟨hvl, hn⟩ := and_e hn
  obtain ⟨hel0, hn⟩ := and_e hn
  obtain ⟨hel1, hn⟩ := and_e hn
  obtain ⟨hel2, hn⟩ := and_e hn
  obtain ⟨hel3, hn⟩ := and_e hn
  obtain ⟨hel4, hn⟩ := and_e hn
  obtain ⟨hel5, hn⟩ := and_e hn
  obtain ⟨hel6, hn⟩ := and_e hn
  obtain ⟨hel7, hn⟩ := and_e hn
  obtain ⟨hel8, hn⟩ := and_e hn
  obtain ⟨hel9, hn⟩ := and_e hn
  obtain ⟨hel10, hn⟩ := and_e hn
  obtain ⟨ho0, hn⟩ := and_e hn
  obtain ⟨ho3, hn⟩ := and_e hn
  obtain ⟨ho2, hn⟩ := and_e hn
  obtain ⟨ho1, hn⟩ := and_e hn
  obtain ⟨ho10, hn⟩ := and_e hn
  obtain ⟨ho4, hn⟩ := and_e hn
  obtain ⟨ho7, hn⟩ := and_e hn
  obtain ⟨ho8, hn⟩ := and_e hn
  obtain ⟨ho6, hn⟩ := and_e hn
  obtain ⟨ho5, ho9⟩ := and_e hn
  obtain ⟨e0, ev0⟩ := exa_v he0
  have S0 := Sta.start ev0 (Or.inr ⟨(hw _ (List.mem_of_getElem? (i := 3) rfl)), (hw _ (List.mem_of_getElem? (i := 4) rfl))⟩)
  have E0 := Exa.start ev0 he0
  have F0 := Fld.start ((fld_at ev0).symm.trans (own_eq_int ho0))
  obtain ⟨e1, ev1⟩ := exa_v he1
  have S1 := Sta.start ev1 (Or.inr ⟨(hw _ (List.mem_of_getElem? (i := 3) rfl)), (hw _ (List.mem_of_getElem? (i := 7) rfl))⟩)
  have E1 := Exa.start ev1 he1
  have F1 := Fld.start ((fld_at ev1).symm.trans (own_eq_int ho1))
  obtain ⟨e2, ev2⟩ := exa_v he2
  have S2 := Sta.start ev2 (Or.inr ⟨(hw _ (List.mem_of_getElem? (i := 3) rfl)), (hw _ (List.mem_of_getElem? (i := 9) rfl))⟩)
  have E2 := Exa.start ev2 he2
  have F2 := Fld.start ((fld_at ev2).symm.trans (own_eq_int ho2))
  obtain ⟨e3, ev3⟩ := exa_v he3
  have S3 := Sta.start ev3 (Or.inr ⟨(hw _ (List.mem_of_getElem? (i := 3) rfl)), (hw _ (List.mem_of_getElem? (i := 11) rfl))⟩)
  have E3 := Exa.start ev3 he3
  have F3 := Fld.start ((fld_at ev3).symm.trans (own_eq_int ho3))
  obtain ⟨e4, ev4⟩ := exa_v he4
  have S4 := Sta.start ev4 (Or.inr ⟨(hw _ (List.mem_of_getElem? (i := 3) rfl)), (hw _ (List.mem_of_getElem? (i := 13) rfl))⟩)
  have E4 := Exa.start ev4 he4
  have F4 := Fld.start ((fld_at ev4).symm.trans (own_eq_int ho4))
  obtain ⟨e5, ev5⟩ := exa_v he5
  have S5 := Sta.start ev5 (Or.inr ⟨(hw _ (List.mem_of_getElem? (i := 3) rfl)), (hw _ (List.mem_of_getElem? (i := 15) rfl))⟩)
  have E5 := Exa.start ev5 he5
  have F5 := Fld.start ((fld_at ev5).symm.trans (own_eq_int ho5))
  obtain ⟨e6, ev6⟩ := exa_v he6
  have S6 := Sta.start ev6 (Or.inr ⟨(hw _ (List.mem_of_getElem? (i := 3) rfl)), (hw _ (List.mem_of_getElem? (i := 17) rfl))⟩)
  have E6 := Exa.start ev6 he6
  have F6 := Fld.start ((fld_at ev6).symm.trans (own_eq_int ho6))
  obtain ⟨e7, ev7⟩ := exa_v he7
  have S7 := Sta.start ev7 (Or.inr ⟨(hw _ (List.mem_of_getElem? (i := 3) rfl)), (hw _ (List.mem_of_getElem? (i := 19) rfl))⟩)
  have E7 := Exa.start ev7 he7
  have F7 := Fld.start ((fld_at ev7).symm.trans (own_eq_int ho7))
  obtain ⟨e8, ev8⟩ := exa_v he8
  have S8 := Sta.start ev8 (Or.inr ⟨(hw _ (List.mem_of_getElem? (i := 3) rfl)), (hw _ (List.mem_of_getElem? (i := 21) rfl))⟩)
  have E8 := Exa.start ev8 he8
  have F8 := Fld.start ((fld_at ev8).symm.trans (own_eq_int ho8))
  obtain ⟨e9, ev9⟩ := exa_v he9
  have S9 := Sta.start ev9 (Or.inr ⟨(hw _ (List.mem_of_getElem? (i := 3) rfl)), (hw _ (List.mem_of_getElem? (i := 23) rfl))⟩)
  have E9 := Exa.start ev9 he9
  have F9 := Fld.start ((fld_at ev9).symm.trans (own_eq_int ho9))
  obtain ⟨e10, ev10⟩ := exa_v he10
  have S10 := Sta.start ev10 (Or.inr ⟨(hw _ (List.mem_of_getElem? (i := 3) rfl)), (hw _ (List.mem_of_getElem? (i := 25) rfl))⟩)
  have E10 := Exa.start ev10 he10
  have F10 := Fld.start ((fld_at ev10).symm.trans (own_eq_int ho10))
  have hG : own_G s [e0, e1, e2, e3, e4, e5, e6, e7, e8, e9, e10] := fun i => by
    match i with
    | ⟨0, _⟩ => exact ⟨S0, E0, F0⟩
    | ⟨1, _⟩ => exact ⟨S1, E1, F1⟩
    | ⟨2, _⟩ => exact ⟨S2, E2, F2⟩
    | ⟨3, _⟩ => exact ⟨S3, E3, F3⟩
    | ⟨4, _⟩ => exact ⟨S4, E4, F4⟩
    | ⟨5, _⟩ => exact ⟨S5, E5, F5⟩
    | ⟨6, _⟩ => exact ⟨S6, E6, F6⟩
    | ⟨7, _⟩ => exact ⟨S7, E7, F7⟩
    | ⟨8, _⟩ => exact ⟨S8, E8, F8⟩
    | ⟨9, _⟩ => exact ⟨S9, E9, F9⟩
    | ⟨10, _⟩ => exact ⟨S10, E10, F10⟩
  obtain ⟨va, eva⟩ := exa_v hvx
  have SV := Sta.start eva (Or.inr ⟨(hw _ (List.mem_of_getElem? (i := 3) rfl)), (hw _ (List.mem_of_getElem? (i := 40) rfl))⟩)
  have EV := Exa.start eva hvx
  obtain ⟨cv, AV⟩ := Arr.start eva hva
  have FV := FitC.start hfit AV
  have hsz : cv.slots.size = (11 : Int32).toNatClampNeg := own_len eva AV (own_eq_int hvl)
  have hV : own_V s va cv := ⟨SV, AV, EV, FV, hsz⟩
  obtain ⟨n, o, h1, h2, h3, _, L, rfl, ⟨rfl, N⟩, hq⟩ := rm0 l s _ hw tables_1 i0 i1 i2 i3 i4 va cv [e0, e1, e2, e3, e4, e5, e6, e7, e8, e9, e10] s.heap s.heap.size (Nat.le_refl _) hV hG (Old.start s) p e ha hc hk s m _ below hf ((Spec.applies_iff_loose hf).mp happ).1 ⟨rfl, State.Warmed39.refl s, rfl⟩ trivial
  refine ⟨n, _, h1, h2, h3, hpost _ _ _ _ _ _ ⟨Cond.after_iff.mpr rfl, Cond.after_iff.mpr (eq_i res_at (Term.int_eval (1)) rfl), trivial⟩ ⟨hq.1, hq.2.1, hq.2.2.1, (hq.2.2.2.sift fun y hy => Or.inr (N y hy)).mono (by decide) (by decide)⟩⟩
theorem main_1_1 : Claimed_1_1 := comes_1 fun _ _ _ _ _ _ h hF => ⟨h.1, hF⟩
theorem main_1_2 : Claimed_1_2 := comes_1 fun _ _ _ _ _ _ h hF => ⟨h.2.1, hF⟩
end Jvm.Pilot.@@N@@
namespace Jvm.Pilot.@@N@@
open Jvm Jvm.ClassFile Sem Op Lib Jvm.Free Jvm.Stand Jvm.Pilot.@@N@@.Jvm.D
/-! MADE BY PROGRAM (witnessworld.py) out of the Statement's table words and the real class files: 20 classes; the members and pool entries that the words name. The judged class is class 1, her method 2. -/
namespace start1
open Jvm.ClassFile
def u (s : String) : CpInfo := .utf8 (stringToUtf16 s)
/-- a pool by its gaps: so many unusable entries, then the entry; so many at the end -/
def gap : Nat → List CpInfo → List CpInfo
  | 0, r => r
  | n + 1, r => .unusable :: gap n r
def poolList (es : List (Nat × CpInfo)) (last : Nat) : List CpInfo := es.foldr (fun e r => gap e.1 (e.2 :: r)) (gap last [])
def pool (es : List (Nat × CpInfo)) (last : Nat) : Array CpInfo := ⟨poolList es last⟩
def fileOf (pool : Array CpInfo) (this : Nat) (attrs : Array Attribute := #[]) (ms : Array MethodInfo := #[]) (fl : Nat := 33) (sup : Nat := 0) (ifs : Array Nat := #[]) (fds : Array FieldInfo := #[]) : ClassFile where
  minorVersion := 0
  majorVersion := 65
  constantPool := pool
  accessFlags := fl
  thisClass := this
  superClass := sup
  interfaces := ifs
  fields := fds
  methods := ms
  attributes := attrs
def plain (name : String) (sup : Option ClassId) : Class where
  name := name
  kind := .ordinary
  loader := none
  accessFlags := 33
  super := sup
  interfaces := #[]
  cf := none
  fields := #[]
  methods := #[]
  instanceTypes := #[]
  staticTypes := #[]
  resolved := #[]
  callSites := []
  init := .initialized
  statics := none
  mirror := none

def pool0 : Array CpInfo := pool [(5, u "<init>"), (0, u "()V"), (1, .class_ 10), (1, u "java/lang/Object"), (85, u "clone"), (0, u "()Ljava/lang/Object;")] 26

def k0c0 : Code := { maxStack := 0, maxLocals := 1, code := object_method_1_code, exceptionTable := #[], attributes := #[] }
def k0m0 : Method := { name := "<init>", desc := "()V", sig := { parameters := [], returnType := none }, accessFlags := 1, code := some k0c0 }
def k0m1 : Method := { name := "clone", desc := "()Ljava/lang/Object;", sig := { parameters := [], returnType := some (.object "java/lang/Object") }, accessFlags := 260, code := none }
/-- java/lang/Object -/
def k0 : Class := { plain "java/lang/Object" none with
  accessFlags := 33
  interfaces := #[]
  cf := some (fileOf pool0 8 #[] #[{ accessFlags := 1, nameIndex := 5, descriptorIndex := 6, attributes := #[] }, { accessFlags := 260, nameIndex := 96, descriptorIndex := 97, attributes := #[] }] 33 0 #[] #[])
  fields := #[]
  methods := #[k0m0, k0m1]
  instanceTypes := #[]
  staticTypes := #[]
  resolved := Array.replicate 124 none
  statics := none }

def pool1 : Array CpInfo := pool [(2, .class_ 4), (0, .nameAndType 5 6), (0, u "java/lang/Object"), (0, u "<init>"), (0, u "()V"), (0, .methodref 8 9), (0, .class_ 10), (0, .nameAndType 11 12), (0, u "com/example/hot_pool/hotpool/stats/HotPoolStatistics"), (0, u "getConnectionsCreated"), (0, u "()J"), (0, .methodref 8 14), (0, .nameAndType 15 12), (0, u "getConnectionsClosed"), (0, .methodref 8 17), (0, .nameAndType 18 12), (0, u "getBorrows"), (0, .methodref 8 20), (0, .nameAndType 21 12), (0, u "getWaitTimeouts"), (0, .methodref 8 23), (0, .nameAndType 24 12), (0, u "getValidations"), (0, .methodref 8 26), (0, .nameAndType 27 12), (0, u "getFailedValidations"), (0, .methodref 8 29), (0, .nameAndType 30 12), (0, u "getRetiredConnections"), (0, .methodref 8 32), (0, .nameAndType 33 12), (0, u "getReclaimedConnections"), (0, .methodref 8 35), (0, .nameAndType 36 12), (0, u "getStatementCacheHits"), (0, .methodref 8 38), (0, .nameAndType 39 12), (0, u "getStatementCacheMisses"), (0, .methodref 8 41), (0, .nameAndType 42 12), (0, u "getStatementCacheEvictions"), (0, .class_ 44), (0, u "com/example/hot_pool/hotpool/stats/PoolEvent"), (0, .fieldref 43 46), (0, .nameAndType 47 48), (0, u "CONNECTION_CREATED"), (0, u "Lcom/example/hot_pool/hotpool/stats/PoolEvent;"), (0, .fieldref 43 50), (0, .nameAndType 51 48), (0, u "CONNECTION_CLOSED"), (0, .fieldref 43 53), (0, .nameAndType 54 48), (0, u "BORROW"), (0, .fieldref 43 56), (0, .nameAndType 57 48), (0, u "WAIT_TIMEOUT"), (0, .fieldref 43 59), (0, .nameAndType 60 48), (0, u "VALIDATION"), (0, .fieldref 43 62), (0, .nameAndType 63 48), (0, u "FAILED_VALIDATION"), (0, .fieldref 43 65), (0, .nameAndType 66 48), (0, u "RETIRED"), (0, .fieldref 43 68), (0, .nameAndType 69 48), (0, u "RECLAIMED"), (0, .fieldref 43 71), (0, .nameAndType 72 48), (0, u "STATEMENT_CACHE_HIT"), (0, .fieldref 43 74), (0, .nameAndType 75 48), (0, u "STATEMENT_CACHE_MISS"), (0, .fieldref 43 77), (0, .nameAndType 78 48), (0, u "STATEMENT_CACHE_EVICTION"), (0, .integer 2147483647), (0, .class_ 81), (0, u "com/example/hot_pool/hotpool/stats/PoolCounts"), (0, .methodref 80 3), (0, .methodref 80 84), (0, .nameAndType 85 86), (0, u "add"), (0, u "(Lcom/example/hot_pool/hotpool/stats/PoolEvent;J)V"), (0, .methodref 80 88), (0, .nameAndType 85 89), (0, u "(Lcom/example/hot_pool/hotpool/stats/PoolEvent;)V"), (0, .string 91), (0, u "p"), (0, .methodref 80 93), (0, .nameAndType 94 95), (0, u "snapshot"), (0, u "(Ljava/lang/String;ZJJLcom/example/hot_pool/hotpool/stats/PoolCounts;)Lcom/example/hot_pool/hotpool/stats/HotPoolStatistics;"), (0, .methodref 97 98), (0, .class_ 99), (0, .nameAndType 100 101), (0, u "com/example/hot_pool/hotpool/stats/PoolCountsAddPinLaw"), (0, u "read"), (0, u "(Lcom/example/hot_pool/hotpool/stats/HotPoolStatistics;I)J"), (3, u "law"), (0, u "(IIIIJ)Z")] 4

def k1m0 : Method := { name := "<init>", desc := "()V", sig := { parameters := [], returnType := none }, accessFlags := 1, code := none }
def k1c1 : Code := { maxStack := 2, maxLocals := 2, code := method_2_code, exceptionTable := #[], attributes := #[] }
def k1m1 : Method := { name := "read", desc := "(Lcom/example/hot_pool/hotpool/stats/HotPoolStatistics;I)J", sig := { parameters := [(.object "com/example/hot_pool/hotpool/stats/HotPoolStatistics"), .int], returnType := some .long }, accessFlags := 10, code := some k1c1 }
def k1c2 : Code := { maxStack := 8, maxLocals := 16, code := code, exceptionTable := #[], attributes := #[] }
def k1m2 : Method := { name := "law", desc := "(IIIIJ)Z", sig := { parameters := [.int, .int, .int, .int, .long], returnType := some .boolean }, accessFlags := 9, code := some k1c2 }
/-- com/example/hot_pool/hotpool/stats/PoolCountsAddPinLaw -/
def k1 : Class := { plain "com/example/hot_pool/hotpool/stats/PoolCountsAddPinLaw" (some 0) with
  accessFlags := 49
  interfaces := #[]
  cf := some (fileOf pool1 97 #[] #[{ accessFlags := 1, nameIndex := 5, descriptorIndex := 6, attributes := #[] }, { accessFlags := 10, nameIndex := 100, descriptorIndex := 101, attributes := #[] }, { accessFlags := 9, nameIndex := 105, descriptorIndex := 106, attributes := #[] }] 49 2 #[] #[])
  fields := #[]
  methods := #[k1m0, k1m1, k1m2]
  instanceTypes := #[]
  staticTypes := #[]
  resolved := Array.replicate 111 none
  statics := none }

def pool2 : Array CpInfo := pool [(1, .class_ 2), (0, u "java/lang/constant/Constable"), (0, .class_ 4), (0, u "java/lang/Object")] 6

/-- java/lang/constant/Constable -/
def k2 : Class := { plain "java/lang/constant/Constable" (some 0) with
  accessFlags := 1537
  interfaces := #[]
  cf := some (fileOf pool2 1 #[] #[] 1537 3 #[] #[])
  fields := #[]
  methods := #[]
  instanceTypes := #[]
  staticTypes := #[]
  resolved := Array.replicate 11 none
  statics := none }

def pool3 : Array CpInfo := pool [(1, .class_ 2), (0, u "java/lang/Comparable"), (0, .class_ 4), (0, u "java/lang/Object")] 7

/-- java/lang/Comparable -/
def k3 : Class := { plain "java/lang/Comparable" (some 0) with
  accessFlags := 1537
  interfaces := #[]
  cf := some (fileOf pool3 1 #[] #[] 1537 3 #[] #[])
  fields := #[]
  methods := #[]
  instanceTypes := #[]
  staticTypes := #[]
  resolved := Array.replicate 12 none
  statics := none }

def pool4 : Array CpInfo := pool [(1, .class_ 2), (0, u "java/io/Serializable"), (0, .class_ 4), (0, u "java/lang/Object")] 2

/-- java/io/Serializable -/
def k4 : Class := { plain "java/io/Serializable" (some 0) with
  accessFlags := 1537
  interfaces := #[]
  cf := some (fileOf pool4 1 #[] #[] 1537 3 #[] #[])
  fields := #[]
  methods := #[]
  instanceTypes := #[]
  staticTypes := #[]
  resolved := Array.replicate 7 none
  statics := none }

def pool5 : Array CpInfo := pool [(2, .class_ 4), (1, u "java/lang/Enum"), (0, u "name"), (0, u "Ljava/lang/String;"), (0, .fieldref 2 8), (0, .nameAndType 9 10), (0, u "ordinal"), (0, u "I"), (1, .class_ 14), (1, u "java/lang/Object"), (4, u "hash"), (86, .class_ 108), (1, u "java/lang/Enum$EnumDesc"), (2, .class_ 112), (0, u "java/lang/constant/Constable"), (0, .class_ 114), (0, u "java/lang/Comparable"), (0, .class_ 116), (0, u "java/io/Serializable"), (9, u "()I")] 77

def k5c0 : Code := { maxStack := 1, maxLocals := 1, code := jdk_37_method_2_code, exceptionTable := #[], attributes := #[] }
def k5m0 : Method := { name := "ordinal", desc := "()I", sig := { parameters := [], returnType := some .int }, accessFlags := 17, code := some k5c0 }
/-- java/lang/Enum -/
def k5 : Class := { plain "java/lang/Enum" (some 0) with
  accessFlags := 1057
  interfaces := #[2, 3, 4]
  cf := some (fileOf pool5 2 #[.nestMembers #[106]] #[{ accessFlags := 17, nameIndex := 9, descriptorIndex := 126, attributes := #[] }] 1057 12 #[111, 113, 115] #[{ accessFlags := 18, nameIndex := 5, descriptorIndex := 6, attributes := #[] }, { accessFlags := 18, nameIndex := 9, descriptorIndex := 10, attributes := #[] }, { accessFlags := 2, nameIndex := 19, descriptorIndex := 10, attributes := #[] }])
  fields := #[{ name := "name", type := (.object "java/lang/String"), accessFlags := 18, slot := 0, constantValue := 0 }, { name := "ordinal", type := .int, accessFlags := 18, slot := 1, constantValue := 0 }, { name := "hash", type := .int, accessFlags := 2, slot := 2, constantValue := 0 }]
  methods := #[k5m0]
  instanceTypes := #[(.object "java/lang/String"), .int, .int]
  staticTypes := #[]
  resolved := Array.replicate 204 none
  statics := none }

def pool6 : Array CpInfo := pool [(1, .class_ 2), (0, u "com/example/hot_pool/hotpool/stats/PoolEvent"), (2, u "CONNECTION_CREATED"), (0, u "Lcom/example/hot_pool/hotpool/stats/PoolEvent;"), (2, u "CONNECTION_CLOSED"), (2, u "BORROW"), (2, u "WAIT_TIMEOUT"), (2, u "VALIDATION"), (2, u "FAILED_VALIDATION"), (2, u "RETIRED"), (2, u "RECLAIMED"), (2, u "STATEMENT_CACHE_HIT"), (2, u "STATEMENT_CACHE_MISS"), (2, u "STATEMENT_CACHE_EVICTION"), (0, .fieldref 1 38), (0, .nameAndType 39 40), (0, u "$VALUES"), (0, u "[Lcom/example/hot_pool/hotpool/stats/PoolEvent;"), (0, .methodref 42 43), (0, .class_ 40), (0, .nameAndType 44 45), (0, u "clone"), (0, u "()Ljava/lang/Object;"), (1, .class_ 49), (1, u "java/lang/Enum"), (8, u "summaryName"), (0, u "Ljava/lang/String;"), (39, u "()[Lcom/example/hot_pool/hotpool/stats/PoolEvent;"), (0, u "values")] 12

def k6c0 : Code := { maxStack := 1, maxLocals := 0, code := prog_67_method_1_code, exceptionTable := #[], attributes := #[] }
def k6m0 : Method := { name := "values", desc := "()[Lcom/example/hot_pool/hotpool/stats/PoolEvent;", sig := { parameters := [], returnType := some (.array (.object "com/example/hot_pool/hotpool/stats/PoolEvent")) }, accessFlags := 9, code := some k6c0 }
/-- com/example/hot_pool/hotpool/stats/PoolEvent -/
def k6 : Class := { plain "com/example/hot_pool/hotpool/stats/PoolEvent" (some 5) with
  accessFlags := 16433
  interfaces := #[]
  cf := some (fileOf pool6 1 #[] #[{ accessFlags := 9, nameIndex := 100, descriptorIndex := 99, attributes := #[] }] 16433 47 #[] #[{ accessFlags := 16409, nameIndex := 5, descriptorIndex := 6, attributes := #[] }, { accessFlags := 16409, nameIndex := 9, descriptorIndex := 6, attributes := #[] }, { accessFlags := 16409, nameIndex := 12, descriptorIndex := 6, attributes := #[] }, { accessFlags := 16409, nameIndex := 15, descriptorIndex := 6, attributes := #[] }, { accessFlags := 16409, nameIndex := 18, descriptorIndex := 6, attributes := #[] }, { accessFlags := 16409, nameIndex := 21, descriptorIndex := 6, attributes := #[] }, { accessFlags := 16409, nameIndex := 24, descriptorIndex := 6, attributes := #[] }, { accessFlags := 16409, nameIndex := 27, descriptorIndex := 6, attributes := #[] }, { accessFlags := 16409, nameIndex := 30, descriptorIndex := 6, attributes := #[] }, { accessFlags := 16409, nameIndex := 33, descriptorIndex := 6, attributes := #[] }, { accessFlags := 16409, nameIndex := 36, descriptorIndex := 6, attributes := #[] }, { accessFlags := 18, nameIndex := 58, descriptorIndex := 59, attributes := #[] }, { accessFlags := 4122, nameIndex := 39, descriptorIndex := 40, attributes := #[] }])
  fields := #[{ name := "CONNECTION_CREATED", type := (.object "com/example/hot_pool/hotpool/stats/PoolEvent"), accessFlags := 16409, slot := 0, constantValue := 0 }, { name := "CONNECTION_CLOSED", type := (.object "com/example/hot_pool/hotpool/stats/PoolEvent"), accessFlags := 16409, slot := 1, constantValue := 0 }, { name := "BORROW", type := (.object "com/example/hot_pool/hotpool/stats/PoolEvent"), accessFlags := 16409, slot := 2, constantValue := 0 }, { name := "WAIT_TIMEOUT", type := (.object "com/example/hot_pool/hotpool/stats/PoolEvent"), accessFlags := 16409, slot := 3, constantValue := 0 }, { name := "VALIDATION", type := (.object "com/example/hot_pool/hotpool/stats/PoolEvent"), accessFlags := 16409, slot := 4, constantValue := 0 }, { name := "FAILED_VALIDATION", type := (.object "com/example/hot_pool/hotpool/stats/PoolEvent"), accessFlags := 16409, slot := 5, constantValue := 0 }, { name := "RETIRED", type := (.object "com/example/hot_pool/hotpool/stats/PoolEvent"), accessFlags := 16409, slot := 6, constantValue := 0 }, { name := "RECLAIMED", type := (.object "com/example/hot_pool/hotpool/stats/PoolEvent"), accessFlags := 16409, slot := 7, constantValue := 0 }, { name := "STATEMENT_CACHE_HIT", type := (.object "com/example/hot_pool/hotpool/stats/PoolEvent"), accessFlags := 16409, slot := 8, constantValue := 0 }, { name := "STATEMENT_CACHE_MISS", type := (.object "com/example/hot_pool/hotpool/stats/PoolEvent"), accessFlags := 16409, slot := 9, constantValue := 0 }, { name := "STATEMENT_CACHE_EVICTION", type := (.object "com/example/hot_pool/hotpool/stats/PoolEvent"), accessFlags := 16409, slot := 10, constantValue := 0 }, { name := "summaryName", type := (.object "java/lang/String"), accessFlags := 18, slot := 3, constantValue := 0 }, { name := "$VALUES", type := (.array (.object "com/example/hot_pool/hotpool/stats/PoolEvent")), accessFlags := 4122, slot := 11, constantValue := 0 }]
  methods := #[k6m0]
  instanceTypes := #[(.object "java/lang/String"), .int, .int, (.object "java/lang/String")]
  staticTypes := #[(.object "com/example/hot_pool/hotpool/stats/PoolEvent"), (.object "com/example/hot_pool/hotpool/stats/PoolEvent"), (.object "com/example/hot_pool/hotpool/stats/PoolEvent"), (.object "com/example/hot_pool/hotpool/stats/PoolEvent"), (.object "com/example/hot_pool/hotpool/stats/PoolEvent"), (.object "com/example/hot_pool/hotpool/stats/PoolEvent"), (.object "com/example/hot_pool/hotpool/stats/PoolEvent"), (.object "com/example/hot_pool/hotpool/stats/PoolEvent"), (.object "com/example/hot_pool/hotpool/stats/PoolEvent"), (.object "com/example/hot_pool/hotpool/stats/PoolEvent"), (.object "com/example/hot_pool/hotpool/stats/PoolEvent"), (.array (.object "com/example/hot_pool/hotpool/stats/PoolEvent"))]
  resolved := Array.replicate 113 none
  statics := some 0 }

def pool7 : Array CpInfo := pool [(1, .methodref 2 3), (0, .class_ 4), (0, .nameAndType 5 6), (0, u "java/lang/Object"), (0, u "<init>"), (0, u "()V"), (0, .methodref 8 9), (0, .class_ 10), (0, .nameAndType 11 12), (0, u "com/example/hot_pool/hotpool/stats/PoolEvent"), (0, u "values"), (0, u "()[Lcom/example/hot_pool/hotpool/stats/PoolEvent;"), (0, .fieldref 14 15), (0, .class_ 16), (0, .nameAndType 17 18), (0, u "com/example/hot_pool/hotpool/stats/PoolCounts"), (0, u "counts"), (0, u "[J"), (0, .methodref 14 20), (0, .nameAndType 21 22), (0, u "add"), (0, u "(Lcom/example/hot_pool/hotpool/stats/PoolEvent;J)V"), (0, .methodref 8 24), (0, .nameAndType 25 26), (0, u "ordinal"), (0, u "()I"), (0, .methodref 28 29), (0, .class_ 18), (0, .nameAndType 30 31), (0, u "clone"), (0, u "()Ljava/lang/Object;"), (0, .class_ 33), (0, u "com/example/hot_pool/hotpool/stats/HotPoolStatistics"), (0, .methodref 32 35), (0, .nameAndType 5 36), (0, u "(Ljava/lang/String;ZJJ[J)V"), (2, u "(Lcom/example/hot_pool/hotpool/stats/PoolEvent;)V"), (2, u "snapshot"), (0, u "(Ljava/lang/String;ZJJLcom/example/hot_pool/hotpool/stats/PoolCounts;)Lcom/example/hot_pool/hotpool/stats/HotPoolStatistics;")] 2

def k7c0 : Code := { maxStack := 2, maxLocals := 1, code := prog_65_method_1_code, exceptionTable := #[], attributes := #[] }
def k7m0 : Method := { name := "<init>", desc := "()V", sig := { parameters := [], returnType := none }, accessFlags := 1, code := some k7c0 }
def k7c1 : Code := { maxStack := 4, maxLocals := 2, code := prog_65_method_2_code, exceptionTable := #[], attributes := #[] }
def k7m1 : Method := { name := "add", desc := "(Lcom/example/hot_pool/hotpool/stats/PoolEvent;)V", sig := { parameters := [(.object "com/example/hot_pool/hotpool/stats/PoolEvent")], returnType := none }, accessFlags := 1, code := some k7c1 }
def k7c2 : Code := { maxStack := 6, maxLocals := 4, code := prog_65_method_3_code, exceptionTable := #[], attributes := #[] }
def k7m2 : Method := { name := "add", desc := "(Lcom/example/hot_pool/hotpool/stats/PoolEvent;J)V", sig := { parameters := [(.object "com/example/hot_pool/hotpool/stats/PoolEvent"), .long], returnType := none }, accessFlags := 1, code := some k7c2 }
def k7c3 : Code := { maxStack := 9, maxLocals := 10, code := prog_65_method_5_code, exceptionTable := #[], attributes := #[] }
def k7m3 : Method := { name := "snapshot", desc := "(Ljava/lang/String;ZJJLcom/example/hot_pool/hotpool/stats/PoolCounts;)Lcom/example/hot_pool/hotpool/stats/HotPoolStatistics;", sig := { parameters := [(.object "java/lang/String"), .boolean, .long, .long, (.object "com/example/hot_pool/hotpool/stats/PoolCounts")], returnType := some (.object "com/example/hot_pool/hotpool/stats/HotPoolStatistics") }, accessFlags := 1, code := some k7c3 }
/-- com/example/hot_pool/hotpool/stats/PoolCounts -/
def k7 : Class := { plain "com/example/hot_pool/hotpool/stats/PoolCounts" (some 0) with
  accessFlags := 49
  interfaces := #[]
  cf := some (fileOf pool7 14 #[] #[{ accessFlags := 1, nameIndex := 5, descriptorIndex := 6, attributes := #[] }, { accessFlags := 1, nameIndex := 21, descriptorIndex := 39, attributes := #[] }, { accessFlags := 1, nameIndex := 21, descriptorIndex := 22, attributes := #[] }, { accessFlags := 1, nameIndex := 42, descriptorIndex := 43, attributes := #[] }] 49 2 #[] #[{ accessFlags := 18, nameIndex := 17, descriptorIndex := 18, attributes := #[] }])
  fields := #[{ name := "counts", type := (.array .long), accessFlags := 18, slot := 0, constantValue := 0 }]
  methods := #[k7m0, k7m1, k7m2, k7m3]
  instanceTypes := #[(.array .long)]
  staticTypes := #[]
  resolved := Array.replicate 46 none
  statics := none }

def pool8 : Array CpInfo := pool [(1, .class_ 2), (0, u "java/lang/Cloneable"), (0, .class_ 4), (0, u "java/lang/Object")] 2

/-- java/lang/Cloneable -/
def k8 : Class := { plain "java/lang/Cloneable" (some 0) with
  accessFlags := 1537
  interfaces := #[]
  cf := some (fileOf pool8 1 #[] #[] 1537 3 #[] #[])
  fields := #[]
  methods := #[]
  instanceTypes := #[]
  staticTypes := #[]
  resolved := Array.replicate 7 none
  statics := none }

def pool9 : Array CpInfo := pool [(2, .class_ 4), (1, u "java/lang/CharSequence"), (42, .class_ 48), (0, u "java/lang/CharSequence$1CodePointIterator"), (10, .class_ 60), (0, u "java/lang/CharSequence$1CharIterator"), (5, .class_ 67), (0, u "java/lang/Object")] 63

/-- java/lang/CharSequence -/
def k9 : Class := { plain "java/lang/CharSequence" (some 0) with
  accessFlags := 1537
  interfaces := #[]
  cf := some (fileOf pool9 2 #[.nestMembers #[47, 59]] #[] 1537 66 #[] #[])
  fields := #[]
  methods := #[]
  instanceTypes := #[]
  staticTypes := #[]
  resolved := Array.replicate 131 none
  statics := none }

def pool10 : Array CpInfo := pool [(1, .class_ 2), (0, u "java/lang/constant/ConstantDesc"), (0, .class_ 4), (0, u "java/lang/Object")] 32

/-- java/lang/constant/ConstantDesc -/
def k10 : Class := { plain "java/lang/constant/ConstantDesc" (some 0) with
  accessFlags := 1537
  interfaces := #[]
  cf := some (fileOf pool10 1 #[] #[] 1537 3 #[] #[])
  fields := #[]
  methods := #[]
  instanceTypes := #[]
  staticTypes := #[]
  resolved := Array.replicate 37 none
  statics := none }

def pool11 : Array CpInfo := pool [(2, .class_ 4), (1, u "java/lang/Object"), (0, u "<init>"), (0, u "()V"), (3, .class_ 12), (1, u "java/lang/String"), (0, u "value"), (0, u "[B"), (2, u "coder"), (0, u "B"), (2, u "hash"), (0, u "I"), (2, u "hashIsZero"), (0, u "Z"), (13, u "COMPACT_STRINGS"), (534, .class_ 576), (0, u "java/lang/CharSequence"), (22, u "CASE_INSENSITIVE_ORDER"), (0, u "Ljava/util/Comparator;"), (500, u "serialPersistentFields"), (0, u "[Ljava/io/ObjectStreamField;"), (0, .class_ 1104), (0, u "java/lang/String$CaseInsensitiveComparator"), (1, .class_ 1107), (0, u "java/io/Serializable"), (0, .class_ 1109), (0, u "java/lang/Comparable"), (0, .class_ 1111), (0, u "java/lang/constant/Constable"), (0, .class_ 1113), (0, u "java/lang/constant/ConstantDesc"), (2, u "serialVersionUID"), (0, u "J"), (3, u "REPL"), (0, u "C"), (2, u "LATIN1"), (1, u "UTF16")] 323

def k11m0 : Method := { name := "<init>", desc := "()V", sig := { parameters := [], returnType := none }, accessFlags := 1, code := none }
/-- java/lang/String -/
def k11 : Class := { plain "java/lang/String" (some 0) with
  accessFlags := 49
  interfaces := #[4, 3, 9, 2, 10]
  cf := some (fileOf pool11 10 #[.nestMembers #[1103]] #[{ accessFlags := 1, nameIndex := 5, descriptorIndex := 6, attributes := #[] }] 49 2 #[1106, 1108, 575, 1110, 1112] #[{ accessFlags := 18, nameIndex := 13, descriptorIndex := 14, attributes := #[] }, { accessFlags := 18, nameIndex := 17, descriptorIndex := 18, attributes := #[] }, { accessFlags := 2, nameIndex := 21, descriptorIndex := 22, attributes := #[] }, { accessFlags := 2, nameIndex := 25, descriptorIndex := 26, attributes := #[] }, { accessFlags := 26, nameIndex := 1116, descriptorIndex := 1117, attributes := #[] }, { accessFlags := 24, nameIndex := 40, descriptorIndex := 26, attributes := #[] }, { accessFlags := 26, nameIndex := 1101, descriptorIndex := 1102, attributes := #[] }, { accessFlags := 26, nameIndex := 1121, descriptorIndex := 1122, attributes := #[] }, { accessFlags := 25, nameIndex := 599, descriptorIndex := 600, attributes := #[] }, { accessFlags := 24, nameIndex := 1125, descriptorIndex := 18, attributes := #[] }, { accessFlags := 24, nameIndex := 1127, descriptorIndex := 18, attributes := #[] }])
  fields := #[{ name := "value", type := (.array .byte), accessFlags := 18, slot := 0, constantValue := 0 }, { name := "coder", type := .byte, accessFlags := 18, slot := 1, constantValue := 0 }, { name := "hash", type := .int, accessFlags := 2, slot := 2, constantValue := 0 }, { name := "hashIsZero", type := .boolean, accessFlags := 2, slot := 3, constantValue := 0 }, { name := "serialVersionUID", type := .long, accessFlags := 26, slot := 0, constantValue := 0 }, { name := "COMPACT_STRINGS", type := .boolean, accessFlags := 24, slot := 1, constantValue := 0 }, { name := "serialPersistentFields", type := (.array (.object "java/io/ObjectStreamField")), accessFlags := 26, slot := 2, constantValue := 0 }, { name := "REPL", type := .char, accessFlags := 26, slot := 3, constantValue := 0 }, { name := "CASE_INSENSITIVE_ORDER", type := (.object "java/util/Comparator"), accessFlags := 25, slot := 4, constantValue := 0 }, { name := "LATIN1", type := .byte, accessFlags := 24, slot := 5, constantValue := 0 }, { name := "UTF16", type := .byte, accessFlags := 24, slot := 6, constantValue := 0 }]
  methods := #[k11m0]
  instanceTypes := #[(.array .byte), .byte, .int, .boolean]
  staticTypes := #[.long, .boolean, (.array (.object "java/io/ObjectStreamField")), .char, (.object "java/util/Comparator"), .byte, .byte]
  resolved := Array.replicate 1451 none
  statics := none }

def pool12 : Array CpInfo := pool [(1, .methodref 2 3), (0, .class_ 4), (0, .nameAndType 5 6), (0, u "java/lang/Object"), (0, u "<init>"), (0, u "()V"), (0, .fieldref 8 9), (0, .class_ 10), (0, .nameAndType 11 12), (0, u "com/example/hot_pool/hotpool/stats/HotPoolStatistics"), (0, u "poolName"), (0, u "Ljava/lang/String;"), (0, .fieldref 8 14), (0, .nameAndType 15 16), (0, u "suspended"), (0, u "Z"), (0, .fieldref 8 18), (0, .nameAndType 19 20), (0, u "available"), (0, u "J"), (0, .fieldref 8 22), (0, .nameAndType 23 20), (0, u "waiting"), (0, .fieldref 8 25), (0, .nameAndType 26 27), (0, u "counts"), (0, u "[J"), (2, u "getConnectionsCreated"), (0, u "()J"), (2, u "getConnectionsClosed"), (3, .fieldref 39 40), (0, .class_ 41), (0, .nameAndType 42 43), (0, u "com/example/hot_pool/hotpool/stats/PoolEvent"), (0, u "CONNECTION_CREATED"), (0, u "Lcom/example/hot_pool/hotpool/stats/PoolEvent;"), (0, .methodref 8 45), (0, .nameAndType 46 47), (0, u "count"), (0, u "(Lcom/example/hot_pool/hotpool/stats/PoolEvent;)J"), (0, .fieldref 39 49), (0, .nameAndType 50 43), (0, u "CONNECTION_CLOSED"), (0, .fieldref 39 52), (0, .nameAndType 53 43), (0, u "BORROW"), (0, .fieldref 39 55), (0, .nameAndType 56 43), (0, u "WAIT_TIMEOUT"), (0, .fieldref 39 58), (0, .nameAndType 59 43), (0, u "VALIDATION"), (0, .fieldref 39 61), (0, .nameAndType 62 43), (0, u "FAILED_VALIDATION"), (0, .fieldref 39 64), (0, .nameAndType 65 43), (0, u "RETIRED"), (0, .fieldref 39 67), (0, .nameAndType 68 43), (0, u "RECLAIMED"), (0, .fieldref 39 70), (0, .nameAndType 71 43), (0, u "STATEMENT_CACHE_HIT"), (0, .fieldref 39 73), (0, .nameAndType 74 43), (0, u "STATEMENT_CACHE_MISS"), (0, .fieldref 39 76), (0, .nameAndType 77 43), (0, u "STATEMENT_CACHE_EVICTION"), (44, .methodref 39 123), (0, .nameAndType 124 125), (0, u "ordinal"), (0, u "()I"), (0, u "(Ljava/lang/String;ZJJ[J)V"), (7, u "getBorrows"), (0, u "getWaitTimeouts"), (0, u "getValidations"), (0, u "getFailedValidations"), (0, u "getRetiredConnections"), (0, u "getReclaimedConnections"), (0, u "getStatementCacheHits"), (0, u "getStatementCacheMisses"), (0, u "getStatementCacheEvictions")] 5

def k12c0 : Code := { maxStack := 3, maxLocals := 8, code := prog_64_method_1_code, exceptionTable := #[], attributes := #[] }
def k12m0 : Method := { name := "<init>", desc := "(Ljava/lang/String;ZJJ[J)V", sig := { parameters := [(.object "java/lang/String"), .boolean, .long, .long, (.array .long)], returnType := none }, accessFlags := 0, code := some k12c0 }
def k12c1 : Code := { maxStack := 2, maxLocals := 1, code := prog_64_method_8_code, exceptionTable := #[], attributes := #[] }
def k12m1 : Method := { name := "getConnectionsCreated", desc := "()J", sig := { parameters := [], returnType := some .long }, accessFlags := 1, code := some k12c1 }
def k12c2 : Code := { maxStack := 2, maxLocals := 1, code := prog_64_method_9_code, exceptionTable := #[], attributes := #[] }
def k12m2 : Method := { name := "getConnectionsClosed", desc := "()J", sig := { parameters := [], returnType := some .long }, accessFlags := 1, code := some k12c2 }
def k12c3 : Code := { maxStack := 2, maxLocals := 1, code := prog_64_method_10_code, exceptionTable := #[], attributes := #[] }
def k12m3 : Method := { name := "getBorrows", desc := "()J", sig := { parameters := [], returnType := some .long }, accessFlags := 1, code := some k12c3 }
def k12c4 : Code := { maxStack := 2, maxLocals := 1, code := prog_64_method_11_code, exceptionTable := #[], attributes := #[] }
def k12m4 : Method := { name := "getWaitTimeouts", desc := "()J", sig := { parameters := [], returnType := some .long }, accessFlags := 1, code := some k12c4 }
def k12c5 : Code := { maxStack := 2, maxLocals := 1, code := prog_64_method_12_code, exceptionTable := #[], attributes := #[] }
def k12m5 : Method := { name := "getValidations", desc := "()J", sig := { parameters := [], returnType := some .long }, accessFlags := 1, code := some k12c5 }
def k12c6 : Code := { maxStack := 2, maxLocals := 1, code := prog_64_method_13_code, exceptionTable := #[], attributes := #[] }
def k12m6 : Method := { name := "getFailedValidations", desc := "()J", sig := { parameters := [], returnType := some .long }, accessFlags := 1, code := some k12c6 }
def k12c7 : Code := { maxStack := 2, maxLocals := 1, code := prog_64_method_14_code, exceptionTable := #[], attributes := #[] }
def k12m7 : Method := { name := "getRetiredConnections", desc := "()J", sig := { parameters := [], returnType := some .long }, accessFlags := 1, code := some k12c7 }
def k12c8 : Code := { maxStack := 2, maxLocals := 1, code := prog_64_method_15_code, exceptionTable := #[], attributes := #[] }
def k12m8 : Method := { name := "getReclaimedConnections", desc := "()J", sig := { parameters := [], returnType := some .long }, accessFlags := 1, code := some k12c8 }
def k12c9 : Code := { maxStack := 2, maxLocals := 1, code := prog_64_method_16_code, exceptionTable := #[], attributes := #[] }
def k12m9 : Method := { name := "getStatementCacheHits", desc := "()J", sig := { parameters := [], returnType := some .long }, accessFlags := 1, code := some k12c9 }
def k12c10 : Code := { maxStack := 2, maxLocals := 1, code := prog_64_method_17_code, exceptionTable := #[], attributes := #[] }
def k12m10 : Method := { name := "getStatementCacheMisses", desc := "()J", sig := { parameters := [], returnType := some .long }, accessFlags := 1, code := some k12c10 }
def k12c11 : Code := { maxStack := 2, maxLocals := 1, code := prog_64_method_18_code, exceptionTable := #[], attributes := #[] }
def k12m11 : Method := { name := "getStatementCacheEvictions", desc := "()J", sig := { parameters := [], returnType := some .long }, accessFlags := 1, code := some k12c11 }
def k12c12 : Code := { maxStack := 2, maxLocals := 2, code := prog_64_method_20_code, exceptionTable := #[], attributes := #[] }
def k12m12 : Method := { name := "count", desc := "(Lcom/example/hot_pool/hotpool/stats/PoolEvent;)J", sig := { parameters := [(.object "com/example/hot_pool/hotpool/stats/PoolEvent")], returnType := some .long }, accessFlags := 2, code := some k12c12 }
/-- com/example/hot_pool/hotpool/stats/HotPoolStatistics -/
def k12 : Class := { plain "com/example/hot_pool/hotpool/stats/HotPoolStatistics" (some 0) with
  accessFlags := 49
  interfaces := #[]
  cf := some (fileOf pool12 8 #[] #[{ accessFlags := 0, nameIndex := 5, descriptorIndex := 126, attributes := #[] }, { accessFlags := 1, nameIndex := 30, descriptorIndex := 31, attributes := #[] }, { accessFlags := 1, nameIndex := 34, descriptorIndex := 31, attributes := #[] }, { accessFlags := 1, nameIndex := 134, descriptorIndex := 31, attributes := #[] }, { accessFlags := 1, nameIndex := 135, descriptorIndex := 31, attributes := #[] }, { accessFlags := 1, nameIndex := 136, descriptorIndex := 31, attributes := #[] }, { accessFlags := 1, nameIndex := 137, descriptorIndex := 31, attributes := #[] }, { accessFlags := 1, nameIndex := 138, descriptorIndex := 31, attributes := #[] }, { accessFlags := 1, nameIndex := 139, descriptorIndex := 31, attributes := #[] }, { accessFlags := 1, nameIndex := 140, descriptorIndex := 31, attributes := #[] }, { accessFlags := 1, nameIndex := 141, descriptorIndex := 31, attributes := #[] }, { accessFlags := 1, nameIndex := 142, descriptorIndex := 31, attributes := #[] }, { accessFlags := 2, nameIndex := 46, descriptorIndex := 47, attributes := #[] }] 49 2 #[] #[{ accessFlags := 18, nameIndex := 11, descriptorIndex := 12, attributes := #[] }, { accessFlags := 18, nameIndex := 15, descriptorIndex := 16, attributes := #[] }, { accessFlags := 18, nameIndex := 19, descriptorIndex := 20, attributes := #[] }, { accessFlags := 18, nameIndex := 23, descriptorIndex := 20, attributes := #[] }, { accessFlags := 18, nameIndex := 26, descriptorIndex := 27, attributes := #[] }])
  fields := #[{ name := "poolName", type := (.object "java/lang/String"), accessFlags := 18, slot := 0, constantValue := 0 }, { name := "suspended", type := .boolean, accessFlags := 18, slot := 1, constantValue := 0 }, { name := "available", type := .long, accessFlags := 18, slot := 2, constantValue := 0 }, { name := "waiting", type := .long, accessFlags := 18, slot := 3, constantValue := 0 }, { name := "counts", type := (.array .long), accessFlags := 18, slot := 4, constantValue := 0 }]
  methods := #[k12m0, k12m1, k12m2, k12m3, k12m4, k12m5, k12m6, k12m7, k12m8, k12m9, k12m10, k12m11, k12m12]
  instanceTypes := #[(.object "java/lang/String"), .boolean, .long, .long, (.array .long)]
  staticTypes := #[]
  resolved := Array.replicate 148 none
  statics := none }

/-- the primitive byte -/
def k13 : Class := { plain "byte" none with kind := .primitive 'B', accessFlags := 0x411 }
/-- [B -/
def k14 : Class := { plain "[B" (some 0) with kind := .array 13 .byte, interfaces := #[8, 4], accessFlags := 1041 }

/-- the primitive int -/
def k15 : Class := { plain "int" none with kind := .primitive 'I', accessFlags := 0x411 }
/-- [I -/
def k16 : Class := { plain "[I" (some 0) with kind := .array 15 .int, interfaces := #[8, 4], accessFlags := 1041 }

/-- the primitive long -/
def k17 : Class := { plain "long" none with kind := .primitive 'J', accessFlags := 0x411 }
/-- [J -/
def k18 : Class := { plain "[J" (some 0) with kind := .array 17 .long, interfaces := #[8, 4], accessFlags := 1041 }

/-- [Lcom/example/hot_pool/hotpool/stats/PoolEvent; -/
def k19 : Class := { plain "[Lcom/example/hot_pool/hotpool/stats/PoolEvent;" (some 0) with kind := .array 6 (.object "com/example/hot_pool/hotpool/stats/PoolEvent"), interfaces := #[8, 4], accessFlags := 1041 }

def heap : Heap := #[{ cls := 6, slots := #[.ref 2, .ref 3, .ref 4, .ref 5, .ref 6, .ref 7, .ref 8, .ref 9, .ref 10, .ref 11, .ref 12, .ref 1], vm := .statics 6 },
  { cls := 19, slots := #[.ref 2, .ref 3, .ref 4, .ref 5, .ref 6, .ref 7, .ref 8, .ref 9, .ref 10, .ref 11, .ref 12], vm := .none },
  { cls := 6, slots := #[.null, .int 0, .int 0, .null], vm := .none },
  { cls := 6, slots := #[.null, .int 1, .int 0, .null], vm := .none },
  { cls := 6, slots := #[.null, .int 2, .int 0, .null], vm := .none },
  { cls := 6, slots := #[.null, .int 3, .int 0, .null], vm := .none },
  { cls := 6, slots := #[.null, .int 4, .int 0, .null], vm := .none },
  { cls := 6, slots := #[.null, .int 5, .int 0, .null], vm := .none },
  { cls := 6, slots := #[.null, .int 6, .int 0, .null], vm := .none },
  { cls := 6, slots := #[.null, .int 7, .int 0, .null], vm := .none },
  { cls := 6, slots := #[.null, .int 8, .int 0, .null], vm := .none },
  { cls := 6, slots := #[.null, .int 9, .int 0, .null], vm := .none },
  { cls := 6, slots := #[.null, .int 10, .int 0, .null], vm := .none }]
def classes : Array Class := #[k0, k1, k2, k3, k4, k5, k6, k7, k8, k9, k10, k11, k12, k13, k14, k15, k16, k17, k18, k19]
def interned : List (Array UInt16 × Addr) := []
def slotsUsed : Nat := 67
def theMethod : MethodId := ⟨1, 2⟩
def args0 : Array Value := #[.int 5, .int 1, .int 7, .int 8, .long 3]
def aboutOver (below : List Frame) : State where
  vm := { classes := classes, interned := interned.toArray }
  heap := heap
  slotsUsed := slotsUsed
  threads := #[{ frames := .invoking theMethod args0 :: below }]
def below0 : List Frame := [.native { method := ⟨0, 0⟩, args := #[] }]
def about1 : State := aboutOver below0
def p0 : Program := .bare "" "" ""
def e0 : Env := launch0.env 0 0 0
theorem w_frames : about1.frames = Frame.invoking theMethod args0 :: below0 := rfl
set_option maxRecDepth 65536 in
theorem w_args : argsFit about1.vm theMethod args0 = true := by decide +kernel
set_option maxRecDepth 65536 in
theorem w_heap : heapFits about1 = true := by decide +kernel
set_option maxRecDepth 65536 in
theorem w_runnable : about1.curStatus? = some .runnable := by decide +kernel
set_option maxRecDepth 65536 in
theorem w_alone : about1.alone = true := by decide +kernel
set_option maxRecDepth 65536 in
theorem w_named : about1.methodNamed? x = some theMethod := by decide +kernel
set_option maxRecDepth 65536 in
theorem w_hears : about1.hears theMethod below0 = true := by decide +kernel
set_option maxRecDepth 65536 in
theorem w_ripe : about1.ripe theMethod args0 below0 = true := by decide +kernel
theorem w_running : about1.status = .running := rfl
set_option maxRecDepth 65536 in
theorem w_room : about1.hasRoom e0.platform room_1 = true :=
  launch0.hasRoom_least _ room_1 (by decide +kernel) (by decide +kernel) (by decide +kernel) (by decide +kernel) (by decide +kernel) (by decide +kernel)
theorem allAtoms_all (ts : List Jvm.Cond) (a : Array Jvm.Value) (st : Jvm.State) : (allAtoms ts).before a st = ts.all (fun c => c.before a st) := by
  induction ts with
  | nil => rfl
  | cons c t ih =>
    show (Jvm.Cond.and c (allAtoms t)).before a st = _
    rw [Jvm.Cond.before_and, ih, List.all_cons]
def words1 : List Jvm.Cond := Jvm.Cond.code x code maxLocals ret :: tables_1
/-- a 'code' word, met by the world's own term for the bytes: nothing is compared byte by byte -/
theorem code_word {y : MethodName} {bytes : ByteArray} {mx : Nat} {rt : Option FieldType} {a : Array Value} {s : State} {m : MethodId} {meth : Method} {c : Code} (h1 : s.methodNamed? y = some m) (h2 : s.vm.method? m = some meth) (h3 : meth.code = some c) (h4 : c.code = bytes)
    (h5 : (c.maxLocals == mx && c.exceptionTable.isEmpty && decide (c.maxStack ≤ mostOperands) && decide (meth.sig.returnType = rt) && !meth.locks && decide (parseMethodDescriptor y.desc = some meth.sig)) = true) : (Jvm.Cond.code y bytes mx rt).before a s = true := by
  simp only [Bool.and_eq_true, beq_iff_eq, Bool.not_eq_true', decide_eq_true_eq] at h5
  obtain ⟨⟨⟨⟨⟨g1, g2⟩, g3⟩, g4⟩, g5⟩, g6⟩ := h5
  simp [Cond.before, Cond.holds, Cond.value, h1, h2, h3, h4, g1, g2, g3, g4, g5, g6]
def isCode : Jvm.Cond → Bool
  | .code _ _ _ _ => true
  | _ => false
theorem all_split {L : List Jvm.Cond} {P : Jvm.Cond → Bool} (h1 : L.all (fun c => isCode c || P c) = true) (h2 : ∀ c ∈ L.filter isCode, P c = true) : L.all P = true := by
  refine List.all_eq_true.mpr fun c hc => ?_
  have h := List.all_eq_true.mp h1 c hc
  rcases Bool.eq_false_or_eq_true (isCode c) with hi | hi
  · exact h2 c (List.mem_filter.mpr ⟨hc, hi⟩)
  · simpa [hi] using h
set_option maxRecDepth 65536 in
theorem w_c0 : (Jvm.Cond.code x code maxLocals ret).before args0 about1 = true := code_word (m := ⟨1, 2⟩) (meth := k1m2) (c := k1c2) (by decide +kernel) rfl rfl rfl (by decide +kernel)
set_option maxRecDepth 65536 in
theorem w_c1 : (Jvm.Cond.code ({ cls := "com/example/hot_pool/hotpool/stats/PoolCounts", name := "<init>", desc := "()V" } : Jvm.MethodName) prog_65_method_1_code (1 : Nat) (Option.none : Option Jvm.ClassFile.FieldType)).before args0 about1 = true := code_word (m := ⟨7, 0⟩) (meth := k7m0) (c := k7c0) (by decide +kernel) rfl rfl rfl (by decide +kernel)
set_option maxRecDepth 65536 in
theorem w_c2 : (Jvm.Cond.code ({ cls := "java/lang/Object", name := "<init>", desc := "()V" } : Jvm.MethodName) object_method_1_code (1 : Nat) (Option.none : Option Jvm.ClassFile.FieldType)).before args0 about1 = true := code_word (m := ⟨0, 0⟩) (meth := k0m0) (c := k0c0) (by decide +kernel) rfl rfl rfl (by decide +kernel)
set_option maxRecDepth 65536 in
theorem w_c3 : (Jvm.Cond.code ({ cls := "com/example/hot_pool/hotpool/stats/PoolEvent", name := "values", desc := "()[Lcom/example/hot_pool/hotpool/stats/PoolEvent;" } : Jvm.MethodName) prog_67_method_1_code (0 : Nat) (Option.some (Jvm.ClassFile.FieldType.array (Jvm.ClassFile.FieldType.object "com/example/hot_pool/hotpool/stats/PoolEvent")))).before args0 about1 = true := code_word (m := ⟨6, 0⟩) (meth := k6m0) (c := k6c0) (by decide +kernel) rfl rfl rfl (by decide +kernel)
set_option maxRecDepth 65536 in
theorem w_c4 : (Jvm.Cond.code ({ cls := "com/example/hot_pool/hotpool/stats/PoolCounts", name := "add", desc := "(Lcom/example/hot_pool/hotpool/stats/PoolEvent;J)V" } : Jvm.MethodName) prog_65_method_3_code (4 : Nat) (Option.none : Option Jvm.ClassFile.FieldType)).before args0 about1 = true := code_word (m := ⟨7, 2⟩) (meth := k7m2) (c := k7c2) (by decide +kernel) rfl rfl rfl (by decide +kernel)
set_option maxRecDepth 65536 in
theorem w_c5 : (Jvm.Cond.code ({ cls := "java/lang/Enum", name := "ordinal", desc := "()I" } : Jvm.MethodName) jdk_37_method_2_code (1 : Nat) (Option.some Jvm.ClassFile.FieldType.int)).before args0 about1 = true := code_word (m := ⟨5, 0⟩) (meth := k5m0) (c := k5c0) (by decide +kernel) rfl rfl rfl (by decide +kernel)
set_option maxRecDepth 65536 in
theorem w_c6 : (Jvm.Cond.code ({ cls := "com/example/hot_pool/hotpool/stats/PoolCounts", name := "add", desc := "(Lcom/example/hot_pool/hotpool/stats/PoolEvent;)V" } : Jvm.MethodName) prog_65_method_2_code (2 : Nat) (Option.none : Option Jvm.ClassFile.FieldType)).before args0 about1 = true := code_word (m := ⟨7, 1⟩) (meth := k7m1) (c := k7c1) (by decide +kernel) rfl rfl rfl (by decide +kernel)
set_option maxRecDepth 65536 in
theorem w_c7 : (Jvm.Cond.code ({ cls := "com/example/hot_pool/hotpool/stats/PoolCounts", name := "snapshot", desc := "(Ljava/lang/String;ZJJLcom/example/hot_pool/hotpool/stats/PoolCounts;)Lcom/example/hot_pool/hotpool/stats/HotPoolStatistics;" } : Jvm.MethodName) prog_65_method_5_code (10 : Nat) (Option.some (Jvm.ClassFile.FieldType.object "com/example/hot_pool/hotpool/stats/HotPoolStatistics"))).before args0 about1 = true := code_word (m := ⟨7, 3⟩) (meth := k7m3) (c := k7c3) (by decide +kernel) rfl rfl rfl (by decide +kernel)
set_option maxRecDepth 65536 in
theorem w_c8 : (Jvm.Cond.code ({ cls := "com/example/hot_pool/hotpool/stats/HotPoolStatistics", name := "<init>", desc := "(Ljava/lang/String;ZJJ[J)V" } : Jvm.MethodName) prog_64_method_1_code (8 : Nat) (Option.none : Option Jvm.ClassFile.FieldType)).before args0 about1 = true := code_word (m := ⟨12, 0⟩) (meth := k12m0) (c := k12c0) (by decide +kernel) rfl rfl rfl (by decide +kernel)
set_option maxRecDepth 65536 in
theorem w_c9 : (Jvm.Cond.code ({ cls := "com/example/hot_pool/hotpool/stats/PoolCountsAddPinLaw", name := "read", desc := "(Lcom/example/hot_pool/hotpool/stats/HotPoolStatistics;I)J" } : Jvm.MethodName) method_2_code (2 : Nat) (Option.some Jvm.ClassFile.FieldType.long)).before args0 about1 = true := code_word (m := ⟨1, 1⟩) (meth := k1m1) (c := k1c1) (by decide +kernel) rfl rfl rfl (by decide +kernel)
set_option maxRecDepth 65536 in
theorem w_c10 : (Jvm.Cond.code ({ cls := "com/example/hot_pool/hotpool/stats/HotPoolStatistics", name := "getConnectionsClosed", desc := "()J" } : Jvm.MethodName) prog_64_method_9_code (1 : Nat) (Option.some Jvm.ClassFile.FieldType.long)).before args0 about1 = true := code_word (m := ⟨12, 2⟩) (meth := k12m2) (c := k12c2) (by decide +kernel) rfl rfl rfl (by decide +kernel)
set_option maxRecDepth 65536 in
theorem w_c11 : (Jvm.Cond.code ({ cls := "com/example/hot_pool/hotpool/stats/HotPoolStatistics", name := "count", desc := "(Lcom/example/hot_pool/hotpool/stats/PoolEvent;)J" } : Jvm.MethodName) prog_64_method_20_code (2 : Nat) (Option.some Jvm.ClassFile.FieldType.long)).before args0 about1 = true := code_word (m := ⟨12, 12⟩) (meth := k12m12) (c := k12c12) (by decide +kernel) rfl rfl rfl (by decide +kernel)
set_option maxRecDepth 65536 in
theorem w_c12 : (Jvm.Cond.code ({ cls := "com/example/hot_pool/hotpool/stats/HotPoolStatistics", name := "getStatementCacheHits", desc := "()J" } : Jvm.MethodName) prog_64_method_16_code (1 : Nat) (Option.some Jvm.ClassFile.FieldType.long)).before args0 about1 = true := code_word (m := ⟨12, 9⟩) (meth := k12m9) (c := k12c9) (by decide +kernel) rfl rfl rfl (by decide +kernel)
set_option maxRecDepth 65536 in
theorem w_c13 : (Jvm.Cond.code ({ cls := "com/example/hot_pool/hotpool/stats/HotPoolStatistics", name := "getBorrows", desc := "()J" } : Jvm.MethodName) prog_64_method_10_code (1 : Nat) (Option.some Jvm.ClassFile.FieldType.long)).before args0 about1 = true := code_word (m := ⟨12, 3⟩) (meth := k12m3) (c := k12c3) (by decide +kernel) rfl rfl rfl (by decide +kernel)
set_option maxRecDepth 65536 in
theorem w_c14 : (Jvm.Cond.code ({ cls := "com/example/hot_pool/hotpool/stats/HotPoolStatistics", name := "getValidations", desc := "()J" } : Jvm.MethodName) prog_64_method_12_code (1 : Nat) (Option.some Jvm.ClassFile.FieldType.long)).before args0 about1 = true := code_word (m := ⟨12, 5⟩) (meth := k12m5) (c := k12c5) (by decide +kernel) rfl rfl rfl (by decide +kernel)
set_option maxRecDepth 65536 in
theorem w_c15 : (Jvm.Cond.code ({ cls := "com/example/hot_pool/hotpool/stats/HotPoolStatistics", name := "getWaitTimeouts", desc := "()J" } : Jvm.MethodName) prog_64_method_11_code (1 : Nat) (Option.some Jvm.ClassFile.FieldType.long)).before args0 about1 = true := code_word (m := ⟨12, 4⟩) (meth := k12m4) (c := k12c4) (by decide +kernel) rfl rfl rfl (by decide +kernel)
set_option maxRecDepth 65536 in
theorem w_c16 : (Jvm.Cond.code ({ cls := "com/example/hot_pool/hotpool/stats/HotPoolStatistics", name := "getConnectionsCreated", desc := "()J" } : Jvm.MethodName) prog_64_method_8_code (1 : Nat) (Option.some Jvm.ClassFile.FieldType.long)).before args0 about1 = true := code_word (m := ⟨12, 1⟩) (meth := k12m1) (c := k12c1) (by decide +kernel) rfl rfl rfl (by decide +kernel)
set_option maxRecDepth 65536 in
theorem w_c17 : (Jvm.Cond.code ({ cls := "com/example/hot_pool/hotpool/stats/HotPoolStatistics", name := "getStatementCacheMisses", desc := "()J" } : Jvm.MethodName) prog_64_method_17_code (1 : Nat) (Option.some Jvm.ClassFile.FieldType.long)).before args0 about1 = true := code_word (m := ⟨12, 10⟩) (meth := k12m10) (c := k12c10) (by decide +kernel) rfl rfl rfl (by decide +kernel)
set_option maxRecDepth 65536 in
theorem w_c18 : (Jvm.Cond.code ({ cls := "com/example/hot_pool/hotpool/stats/HotPoolStatistics", name := "getReclaimedConnections", desc := "()J" } : Jvm.MethodName) prog_64_method_15_code (1 : Nat) (Option.some Jvm.ClassFile.FieldType.long)).before args0 about1 = true := code_word (m := ⟨12, 8⟩) (meth := k12m8) (c := k12c8) (by decide +kernel) rfl rfl rfl (by decide +kernel)
set_option maxRecDepth 65536 in
theorem w_c19 : (Jvm.Cond.code ({ cls := "com/example/hot_pool/hotpool/stats/HotPoolStatistics", name := "getRetiredConnections", desc := "()J" } : Jvm.MethodName) prog_64_method_14_code (1 : Nat) (Option.some Jvm.ClassFile.FieldType.long)).before args0 about1 = true := code_word (m := ⟨12, 7⟩) (meth := k12m7) (c := k12c7) (by decide +kernel) rfl rfl rfl (by decide +kernel)
set_option maxRecDepth 65536 in
theorem w_c20 : (Jvm.Cond.code ({ cls := "com/example/hot_pool/hotpool/stats/HotPoolStatistics", name := "getFailedValidations", desc := "()J" } : Jvm.MethodName) prog_64_method_13_code (1 : Nat) (Option.some Jvm.ClassFile.FieldType.long)).before args0 about1 = true := code_word (m := ⟨12, 6⟩) (meth := k12m6) (c := k12c6) (by decide +kernel) rfl rfl rfl (by decide +kernel)
set_option maxRecDepth 65536 in
theorem w_c21 : (Jvm.Cond.code ({ cls := "com/example/hot_pool/hotpool/stats/HotPoolStatistics", name := "getStatementCacheEvictions", desc := "()J" } : Jvm.MethodName) prog_64_method_18_code (1 : Nat) (Option.some Jvm.ClassFile.FieldType.long)).before args0 about1 = true := code_word (m := ⟨12, 11⟩) (meth := k12m11) (c := k12c11) (by decide +kernel) rfl rfl rfl (by decide +kernel)
def codes1 : List Jvm.Cond := [Jvm.Cond.code x code maxLocals ret, Jvm.Cond.code ({ cls := "com/example/hot_pool/hotpool/stats/PoolCounts", name := "<init>", desc := "()V" } : Jvm.MethodName) prog_65_method_1_code (1 : Nat) (Option.none : Option Jvm.ClassFile.FieldType), Jvm.Cond.code ({ cls := "java/lang/Object", name := "<init>", desc := "()V" } : Jvm.MethodName) object_method_1_code (1 : Nat) (Option.none : Option Jvm.ClassFile.FieldType), Jvm.Cond.code ({ cls := "com/example/hot_pool/hotpool/stats/PoolEvent", name := "values", desc := "()[Lcom/example/hot_pool/hotpool/stats/PoolEvent;" } : Jvm.MethodName) prog_67_method_1_code (0 : Nat) (Option.some (Jvm.ClassFile.FieldType.array (Jvm.ClassFile.FieldType.object "com/example/hot_pool/hotpool/stats/PoolEvent"))), Jvm.Cond.code ({ cls := "com/example/hot_pool/hotpool/stats/PoolCounts", name := "add", desc := "(Lcom/example/hot_pool/hotpool/stats/PoolEvent;J)V" } : Jvm.MethodName) prog_65_method_3_code (4 : Nat) (Option.none : Option Jvm.ClassFile.FieldType), Jvm.Cond.code ({ cls := "java/lang/Enum", name := "ordinal", desc := "()I" } : Jvm.MethodName) jdk_37_method_2_code (1 : Nat) (Option.some Jvm.ClassFile.FieldType.int), Jvm.Cond.code ({ cls := "com/example/hot_pool/hotpool/stats/PoolCounts", name := "add", desc := "(Lcom/example/hot_pool/hotpool/stats/PoolEvent;)V" } : Jvm.MethodName) prog_65_method_2_code (2 : Nat) (Option.none : Option Jvm.ClassFile.FieldType), Jvm.Cond.code ({ cls := "com/example/hot_pool/hotpool/stats/PoolCounts", name := "snapshot", desc := "(Ljava/lang/String;ZJJLcom/example/hot_pool/hotpool/stats/PoolCounts;)Lcom/example/hot_pool/hotpool/stats/HotPoolStatistics;" } : Jvm.MethodName) prog_65_method_5_code (10 : Nat) (Option.some (Jvm.ClassFile.FieldType.object "com/example/hot_pool/hotpool/stats/HotPoolStatistics")), Jvm.Cond.code ({ cls := "com/example/hot_pool/hotpool/stats/HotPoolStatistics", name := "<init>", desc := "(Ljava/lang/String;ZJJ[J)V" } : Jvm.MethodName) prog_64_method_1_code (8 : Nat) (Option.none : Option Jvm.ClassFile.FieldType), Jvm.Cond.code ({ cls := "com/example/hot_pool/hotpool/stats/PoolCountsAddPinLaw", name := "read", desc := "(Lcom/example/hot_pool/hotpool/stats/HotPoolStatistics;I)J" } : Jvm.MethodName) method_2_code (2 : Nat) (Option.some Jvm.ClassFile.FieldType.long), Jvm.Cond.code ({ cls := "com/example/hot_pool/hotpool/stats/HotPoolStatistics", name := "getConnectionsClosed", desc := "()J" } : Jvm.MethodName) prog_64_method_9_code (1 : Nat) (Option.some Jvm.ClassFile.FieldType.long), Jvm.Cond.code ({ cls := "com/example/hot_pool/hotpool/stats/HotPoolStatistics", name := "count", desc := "(Lcom/example/hot_pool/hotpool/stats/PoolEvent;)J" } : Jvm.MethodName) prog_64_method_20_code (2 : Nat) (Option.some Jvm.ClassFile.FieldType.long), Jvm.Cond.code ({ cls := "com/example/hot_pool/hotpool/stats/HotPoolStatistics", name := "getStatementCacheHits", desc := "()J" } : Jvm.MethodName) prog_64_method_16_code (1 : Nat) (Option.some Jvm.ClassFile.FieldType.long), Jvm.Cond.code ({ cls := "com/example/hot_pool/hotpool/stats/HotPoolStatistics", name := "getBorrows", desc := "()J" } : Jvm.MethodName) prog_64_method_10_code (1 : Nat) (Option.some Jvm.ClassFile.FieldType.long), Jvm.Cond.code ({ cls := "com/example/hot_pool/hotpool/stats/HotPoolStatistics", name := "getValidations", desc := "()J" } : Jvm.MethodName) prog_64_method_12_code (1 : Nat) (Option.some Jvm.ClassFile.FieldType.long), Jvm.Cond.code ({ cls := "com/example/hot_pool/hotpool/stats/HotPoolStatistics", name := "getWaitTimeouts", desc := "()J" } : Jvm.MethodName) prog_64_method_11_code (1 : Nat) (Option.some Jvm.ClassFile.FieldType.long), Jvm.Cond.code ({ cls := "com/example/hot_pool/hotpool/stats/HotPoolStatistics", name := "getConnectionsCreated", desc := "()J" } : Jvm.MethodName) prog_64_method_8_code (1 : Nat) (Option.some Jvm.ClassFile.FieldType.long), Jvm.Cond.code ({ cls := "com/example/hot_pool/hotpool/stats/HotPoolStatistics", name := "getStatementCacheMisses", desc := "()J" } : Jvm.MethodName) prog_64_method_17_code (1 : Nat) (Option.some Jvm.ClassFile.FieldType.long), Jvm.Cond.code ({ cls := "com/example/hot_pool/hotpool/stats/HotPoolStatistics", name := "getReclaimedConnections", desc := "()J" } : Jvm.MethodName) prog_64_method_15_code (1 : Nat) (Option.some Jvm.ClassFile.FieldType.long), Jvm.Cond.code ({ cls := "com/example/hot_pool/hotpool/stats/HotPoolStatistics", name := "getRetiredConnections", desc := "()J" } : Jvm.MethodName) prog_64_method_14_code (1 : Nat) (Option.some Jvm.ClassFile.FieldType.long), Jvm.Cond.code ({ cls := "com/example/hot_pool/hotpool/stats/HotPoolStatistics", name := "getFailedValidations", desc := "()J" } : Jvm.MethodName) prog_64_method_13_code (1 : Nat) (Option.some Jvm.ClassFile.FieldType.long), Jvm.Cond.code ({ cls := "com/example/hot_pool/hotpool/stats/HotPoolStatistics", name := "getStatementCacheEvictions", desc := "()J" } : Jvm.MethodName) prog_64_method_18_code (1 : Nat) (Option.some Jvm.ClassFile.FieldType.long)]
set_option maxRecDepth 65536 in
theorem codes_eq : words1.filter isCode = codes1 := rfl
theorem w_codes : ∀ c ∈ words1.filter isCode, c.before args0 about1 = true := by
  rw [codes_eq]
  intro c hc
  simp only [codes1, List.mem_cons, List.not_mem_nil, or_false] at hc
  rcases hc with rfl | rfl | rfl | rfl | rfl | rfl | rfl | rfl | rfl | rfl | rfl | rfl | rfl | rfl | rfl | rfl | rfl | rfl | rfl | rfl | rfl | rfl
  · exact w_c0
  · exact w_c1
  · exact w_c2
  · exact w_c3
  · exact w_c4
  · exact w_c5
  · exact w_c6
  · exact w_c7
  · exact w_c8
  · exact w_c9
  · exact w_c10
  · exact w_c11
  · exact w_c12
  · exact w_c13
  · exact w_c14
  · exact w_c15
  · exact w_c16
  · exact w_c17
  · exact w_c18
  · exact w_c19
  · exact w_c20
  · exact w_c21
set_option maxRecDepth 65536 in
theorem w_t1 : (words1.take 24).all (fun c => isCode c || c.before args0 about1) = true := by decide +kernel
set_option maxRecDepth 65536 in
theorem w_t2 : ((words1.drop 24).take 24).all (fun c => isCode c || c.before args0 about1) = true := by decide +kernel
set_option maxRecDepth 65536 in
theorem w_t3 : (((words1.drop 24).drop 24).take 24).all (fun c => isCode c || c.before args0 about1) = true := by decide +kernel
set_option maxRecDepth 65536 in
theorem w_t4 : ((((words1.drop 24).drop 24).drop 24).take 24).all (fun c => isCode c || c.before args0 about1) = true := by decide +kernel
set_option maxRecDepth 65536 in
theorem w_t5 : (((((words1.drop 24).drop 24).drop 24).drop 24).take 24).all (fun c => isCode c || c.before args0 about1) = true := by decide +kernel
set_option maxRecDepth 65536 in
theorem w_t6 : ((((((words1.drop 24).drop 24).drop 24).drop 24).drop 24).take 24).all (fun c => isCode c || c.before args0 about1) = true := by decide +kernel
set_option maxRecDepth 65536 in
theorem w_t7 : (((((((words1.drop 24).drop 24).drop 24).drop 24).drop 24).drop 24).take 24).all (fun c => isCode c || c.before args0 about1) = true := by decide +kernel
set_option maxRecDepth 65536 in
theorem w_t8 : (((((((words1.drop 24).drop 24).drop 24).drop 24).drop 24).drop 24).drop 24).all (fun c => isCode c || c.before args0 about1) = true := by decide +kernel
theorem w_tables : (allAtoms (Jvm.Cond.code x code maxLocals ret :: tables_1)).before args0 about1 = true := by
  rw [allAtoms_all]
  show words1.all (fun c => c.before args0 about1) = true
  refine all_split ?_ w_codes
  rw [← List.take_append_drop 24 words1, List.all_append, w_t1, ← List.take_append_drop 24 (words1.drop 24), List.all_append, w_t2, ← List.take_append_drop 24 ((words1.drop 24).drop 24), List.all_append, w_t3, ← List.take_append_drop 24 (((words1.drop 24).drop 24).drop 24), List.all_append, w_t4, ← List.take_append_drop 24 ((((words1.drop 24).drop 24).drop 24).drop 24), List.all_append, w_t5, ← List.take_append_drop 24 (((((words1.drop 24).drop 24).drop 24).drop 24).drop 24), List.all_append, w_t6, ← List.take_append_drop 24 ((((((words1.drop 24).drop 24).drop 24).drop 24).drop 24).drop 24), List.all_append, w_t7, w_t8]
  rfl
set_option maxRecDepth 65536 in
theorem w_case : (Jvm.Cond.and given_1 narrow_1).before args0 about1 = true := by decide +kernel
theorem w_applies : (headSpec (Jvm.Cond.code x code maxLocals ret :: tables_1) room_1).applies x e0.platform about1 = true :=
  (Spec.applies_iff w_frames).mpr ⟨w_running, w_runnable, w_alone, w_named, w_hears, w_ripe, w_room, w_tables⟩
theorem atStart : AtStart classFile x code maxLocals ret World_1 tables_1 room_1 Calls_1 rest_1 Pre_1 launch0 p0 e0 about1 theMethod args0 below0 :=
  ⟨lists_1, trivial, launch0.admits_env _ _ _, launch0.least_env, fairChoices_fair.cas, fairChoices_fair.clock, w_frames, w_args, w_heap, w_applies, trivial, trivial, w_case⟩
end start1
theorem witness_1 : WitnessClaimed_1 := ⟨start1.p0, start1.e0, start1.about1, start1.theMethod, start1.args0, start1.below0, start1.atStart⟩
end Jvm.Pilot.@@N@@
