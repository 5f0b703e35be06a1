import JvmDerived
import JvmDerived.Pilot.@@N@@Statement
import JvmDerived.Pilot.@@N@@Code
set_option linter.unusedVariables false
set_option linter.unusedSimpArgs false
namespace Jvm.RoadKit
open Sem ClassFile Op Lib Jvm.Stand Jvm.Free Jvm.LawKit
section OwnGo
/-- from the state T with the frame g on top the run comes to a state of which K holds -/
def own_Go (tb : Tables) (e : Env) (below : List Frame) (K : State → Prop) (T : State) (g : JFrame) : Prop := ∃ t, Steps tb e below (T.setTop g) t ∧ K t
/-- the invocation has ended by a return, with what Q says of the value, the heap and the written places -/
def own_Fin (below : List Frame) (s : State) (Q : Option Value → Heap → List Loc → Prop) (k n : Nat) (t : State) : Prop := ∃ o, t.status = .running ∧ Ended t below o ∧ ∃ v L, o = .returned v ∧ Q v t.heap L ∧ FrameEnd s o t L k n
variable {p : Program} {l : Launch} {e : Env} {R : Room} {s : State} {m : MethodId} {args : Array Value} {below : List Frame} {meth : Method} {c : Code} {T : State} {locs : List Loc} {cells slots : Nat}
variable {K : State → Prop} {T' : State} {g g' : JFrame} {tb : Tables} {Q : Option Value → Heap → List Loc → Prop} {k n : Nat}
theorem own_st (h : ∀ t, Steps tb e below (T'.setTop g') t → Steps tb e below (T.setTop g) t) (q : own_Go tb e below K T' g') : own_Go tb e below K T g := by
  obtain ⟨t, h1, h2⟩ := q
  exact ⟨t, h _ h1, h2⟩
theorem own_tr (h : Steps tb e below (T.setTop g) (T'.setTop g')) (q : own_Go tb e below K T' g') : own_Go tb e below K T g := by
  obtain ⟨t, h1, h2⟩ := q
  exact ⟨t, h.trans h1, h2⟩
theorem own_in (h : g = g') (q : own_Go tb e below K T g') : own_Go tb e below K T g := h ▸ q
theorem own_out (q : own_Go tb e below (own_Fin below s Q k n) T g) : ∃ s₂ o, Steps tb e below (T.setTop g) s₂ ∧ s₂.status = .running ∧ Ended s₂ below o ∧ ∃ v L, o = .returned v ∧ Q v s₂.heap L ∧ FrameEnd s o s₂ L k n := by
  obtain ⟨t, h1, o, h2, h3, h4⟩ := q
  exact ⟨t, o, h1, h2, h3, h4⟩
theorem own_leave (X : Stand p l e R s m args below meth c T locs cells slots) (hlk : meth.locks = false) {v : Option Value} (hv : meth.sig.returnType = none → v = none) (hq : Q v T.heap locs) (hk : cells ≤ k) (hn : slots ≤ n)
    (st : ∀ fs, (∀ (f : JFrame) (acts : List Action), f.method = m → f.locked = none → f.entered = [] → (doReturn e (T.setTop f) acts v).1 = T.setFrames fs) → Steps p.tables e below (T.setTop g) (T.setFrames fs)) :
    own_Go p.tables e below (own_Fin below s Q k n) T g := by
  obtain ⟨fs, hr, hrun, hended, hW, hsame⟩ := X.leave (v := v) hv hlk
  exact ⟨_, st fs hr, _, hrun, hended, _, _, rfl, hq, ⟨_, rfl⟩, hW, hsame.mono hk hn⟩
variable {pc : Nat} {Ls : Array Slot} {rest : List Value}
theorem own_retV (X : Stand p l e R s m args below meth c T locs cells slots) (hx : p.tables.exec = Jvm.exec) (hlk : meth.locks = false) (hret : meth.sig.returnType = none) (hd : decode c.code pc = .ok (.return_, 1)) (hq : Q none T.heap locs) (hk : cells ≤ k) (hn : slots ≤ n) :
    own_Go p.tables e below (own_Fin below s Q k n) T (mkF m pc Ls []) :=
  own_leave X hlk (fun _ => rfl) hq hk hn fun _ hr => X.returnOut hx hret hd hr
theorem own_retW (X : Stand p l e R s m args below meth c T locs cells slots) (hx : p.tables.exec = Jvm.exec) (hlk : meth.locks = false) {w : Value} {t : FieldType} {i : Instr} (hret : meth.sig.returnType = some t) (hn' : narrow t w = w)
    (hi : (i = .ireturn ∧ (t = .int ∨ t = .boolean ∨ t = .byte ∨ t = .char ∨ t = .short) ∧ ∃ z, w = .int z) ∨ (i = .lreturn ∧ t = .long ∧ ∃ z, w = .long z) ∨ (i = .dreturn ∧ t = .double ∧ ∃ z, w = .double z) ∨ (i = .freturn ∧ t = .float ∧ ∃ z, w = .float z) ∨ (i = .areturn ∧ t.isReference = true ∧ w.isRef = true))
    (hd : decode c.code pc = .ok (i, 1)) (hq : Q (some w) T.heap locs) (hk : cells ≤ k) (hn : slots ≤ n) :
    own_Go p.tables e below (own_Fin below s Q k n) T (mkF m pc Ls (w :: rest)) :=
  own_leave X hlk (fun h => by rw [hret] at h; cases h) hq hk hn fun _ hr => retOut X hx hret hn' hi hd hr
theorem own_retI (X : Stand p l e R s m args below meth c T locs cells slots) (hx : p.tables.exec = Jvm.exec) (hlk : meth.locks = false) {z : Int32} (hret : meth.sig.returnType = some .int) (hd : decode c.code pc = .ok (.ireturn, 1)) (hq : Q (some (.int z)) T.heap locs) (hk : cells ≤ k) (hn : slots ≤ n) :
    own_Go p.tables e below (own_Fin below s Q k n) T (mkF m pc Ls (.int z :: rest)) :=
  own_retW X hx hlk hret rfl (Or.inl ⟨rfl, Or.inl rfl, _, rfl⟩) hd hq hk hn
theorem own_retJ (X : Stand p l e R s m args below meth c T locs cells slots) (hx : p.tables.exec = Jvm.exec) (hlk : meth.locks = false) {z : Int64} (hret : meth.sig.returnType = some .long) (hd : decode c.code pc = .ok (.lreturn, 1)) (hq : Q (some (.long z)) T.heap locs) (hk : cells ≤ k) (hn : slots ≤ n) :
    own_Go p.tables e below (own_Fin below s Q k n) T (mkF m pc Ls (.long z :: rest)) :=
  own_retW X hx hlk hret rfl (Or.inr (Or.inl ⟨rfl, rfl, _, rfl⟩)) hd hq hk hn
theorem own_retR (X : Stand p l e R s m args below meth c T locs cells slots) (hx : p.tables.exec = Jvm.exec) (hlk : meth.locks = false) {w : Value} {t : FieldType} (hret : meth.sig.returnType = some t) (ht : t.isReference = true) (hw : w.isRef = true) (hn' : narrow t w = w) (hd : decode c.code pc = .ok (.areturn, 1)) (hq : Q (some w) T.heap locs) (hk : cells ≤ k) (hn : slots ≤ n) :
    own_Go p.tables e below (own_Fin below s Q k n) T (mkF m pc Ls (w :: rest)) :=
  own_retW X hx hlk hret hn' (Or.inr (Or.inr (Or.inr (Or.inr ⟨rfl, ht, hw⟩)))) hd hq hk hn
theorem own_retN (X : Stand p l e R s m args below meth c T locs cells slots) (hx : p.tables.exec = Jvm.exec) (hlk : meth.locks = false) {z : Int32} {t : FieldType} (hret : meth.sig.returnType = some t) (ht : t = .boolean ∨ t = .byte ∨ t = .char ∨ t = .short) (hd : decode c.code pc = .ok (.ireturn, 1)) (hq : Q (some (.int (nar t z))) T.heap locs) (hk : cells ≤ k) (hn : slots ≤ n) :
    own_Go p.tables e below (own_Fin below s Q k n) T (mkF m pc Ls (.int z :: rest)) :=
  own_leave X hlk (fun h => by rw [hret] at h; cases h) hq hk hn fun _ hr => retN X hx hret ht hd hr
/-- the same, where String constants may have been resolved -/
def own_FinW (below : List Frame) (s : State) (Q : Option Value → Heap → List Loc → Prop) (k n : Nat) (t : State) : Prop := ∃ o, t.status = .running ∧ Ended t below o ∧ ∃ v L, o = .returned v ∧ Q v t.heap L ∧ ReturnedEndW s o t L k n
theorem own_outW (q : own_Go tb e below (own_FinW below s Q k n) T g) : ∃ s₂ o, Steps tb e below (T.setTop g) s₂ ∧ s₂.status = .running ∧ Ended s₂ below o ∧ ∃ v L, o = .returned v ∧ Q v s₂.heap L ∧ ReturnedEndW s o s₂ L k n := by
  obtain ⟨t, h1, o, h2, h3, h4⟩ := q
  exact ⟨t, o, h1, h2, h3, h4⟩
theorem own_leaveW {vm0 : Vm} {k0 : Nat} (X : Stand p l e R (s.setVm vm0) m args below meth c T locs cells slots) (hS : s.Since vm0 k0) (hk0 : k0 ≤ T.heap.size) (hlk : meth.locks = false) {v : Option Value} (hv : meth.sig.returnType = none → v = none) (hq : Q v T.heap locs) (hk : cells ≤ k) (hn : slots ≤ n)
    (st : ∀ fs, (∀ (f : JFrame) (acts : List Action), f.method = m → f.locked = none → f.entered = [] → (doReturn e (T.setTop f) acts v).1 = T.setFrames fs) → Steps p.tables e below (T.setTop g) (T.setFrames fs)) :
    own_Go p.tables e below (own_FinW below s Q k n) T g := by
  obtain ⟨fs, hr, hrun, hended, h1, h2, h3, h4⟩ := X.leaveW hS hk0 (v := v) hv hlk
  exact ⟨_, st fs hr, _, hrun, hended, _, _, rfl, hq, h1, h2, h3, h4.mono hk hn⟩
theorem own_retVW {vm0 : Vm} {k0 : Nat} (X : Stand p l e R (s.setVm vm0) m args below meth c T locs cells slots) (hS : s.Since vm0 k0) (hk0 : k0 ≤ T.heap.size) (hx : p.tables.exec = Jvm.exec) (hlk : meth.locks = false) (hret : meth.sig.returnType = none) (hd : decode c.code pc = .ok (.return_, 1)) (hq : Q none T.heap locs) (hk : cells ≤ k) (hn : slots ≤ n) :
    own_Go p.tables e below (own_FinW below s Q k n) T (mkF m pc Ls []) :=
  own_leaveW X hS hk0 hlk (fun _ => rfl) hq hk hn fun _ hr => X.returnOut hx hret hd hr
theorem own_retWW {vm0 : Vm} {k0 : Nat} (X : Stand p l e R (s.setVm vm0) m args below meth c T locs cells slots) (hS : s.Since vm0 k0) (hk0 : k0 ≤ T.heap.size) (hx : p.tables.exec = Jvm.exec) (hlk : meth.locks = false) {w : Value} {t : FieldType} {i : Instr} (hret : meth.sig.returnType = some t) (hn' : narrow t w = w)
    (hi : (i = .ireturn ∧ (t = .int ∨ t = .boolean ∨ t = .byte ∨ t = .char ∨ t = .short) ∧ ∃ z, w = .int z) ∨ (i = .lreturn ∧ t = .long ∧ ∃ z, w = .long z) ∨ (i = .dreturn ∧ t = .double ∧ ∃ z, w = .double z) ∨ (i = .freturn ∧ t = .float ∧ ∃ z, w = .float z) ∨ (i = .areturn ∧ t.isReference = true ∧ w.isRef = true))
    (hd : decode c.code pc = .ok (i, 1)) (hq : Q (some w) T.heap locs) (hk : cells ≤ k) (hn : slots ≤ n) :
    own_Go p.tables e below (own_FinW below s Q k n) T (mkF m pc Ls (w :: rest)) :=
  own_leaveW X hS hk0 hlk (fun h => by rw [hret] at h; cases h) hq hk hn fun _ hr => retOut X hx hret hn' hi hd hr
theorem own_retNW {vm0 : Vm} {k0 : Nat} (X : Stand p l e R (s.setVm vm0) m args below meth c T locs cells slots) (hS : s.Since vm0 k0) (hk0 : k0 ≤ T.heap.size) (hx : p.tables.exec = Jvm.exec) (hlk : meth.locks = false) {z : Int32} {t : FieldType} (hret : meth.sig.returnType = some t) (ht : t = .boolean ∨ t = .byte ∨ t = .char ∨ t = .short) (hd : decode c.code pc = .ok (.ireturn, 1)) (hq : Q (some (.int (nar t z))) T.heap locs) (hk : cells ≤ k) (hn : slots ≤ n) :
    own_Go p.tables e below (own_FinW below s Q k n) T (mkF m pc Ls (.int z :: rest)) :=
  own_leaveW X hS hk0 hlk (fun h => by rw [hret] at h; cases h) hq hk hn fun _ hr => retN X hx hret ht hd hr
theorem own_wz {Z : State} {vm0 vm1 : Vm} {k1 : Nat} (hZ : Z.Warmed39 vm0) (hs : (s.setVm vm0).Since vm1 k1) : Z.Warmed39 (s.setVm vm1).vm := State.Warmed39.trans (t := s.setVm vm0) hZ hs.1
theorem own_wo {vm0 vm1 : Vm} {k1 : Nat} {own : String} {q : ClassId} (h : (s.setVm vm0).vm.findClass own = some q) (hs : (s.setVm vm0).Since vm1 k1) : (s.setVm vm1).vm.findClass own = some q := by
  rw [show (s.setVm vm1).vm = vm1 from rfl, hs.1.alike.findClass]; exact h
theorem own_sta_keep {Z : State} {h h' : Heap} {C f d : String} {v : Value} {ws : List Addr} (F : Sta Z h C f d v) (K : Keep h h' ws) (hs : ∀ x ∈ ws, ∀ cl : Cell, h[x]? = some cl → cl.vm.isStatics = false) : Sta Z h' C f d v := by
  obtain ⟨cf, i, k, f', st, cell, h1, h2, h3, h4, h5, h6, h7⟩ := F
  refine ⟨cf, i, k, f', st, cell, h1, h2, h3, h4, K.2.1 _ _ h5 fun q => ?_, h6, h7⟩
  rw [hs st q cell h5] at h6
  cases h6
theorem own_fold {vm0 vm1 : Vm} (X : Stand p l e R ((s.setVm vm0).setVm vm1) m args below meth c T locs cells slots) : Stand p l e R (s.setVm vm1) m args below meth c T locs cells slots := X
theorem own_hide {k0 : Nat} (X : Stand p l e R s m args below meth c T locs cells slots) (N : Fr k0 locs) : ∃ L : List Loc, Stand p l e R s m args below meth c T L cells slots ∧ Fr k0 L := ⟨_, X, N⟩
theorem own_getD_int (es : List Int32) (i : Nat) : (es.map Value.int).getD i (.int 0) = .int (es.getD i 0) := by
  induction es generalizing i with
  | nil => rfl
  | cons a t ih => cases i with
    | zero => rfl
    | succ j => simpa using ih j
theorem own_getD_long (es : List Int64) (i : Nat) : (es.map Value.long).getD i (.long 0) = .long (es.getD i 0) := by
  induction es generalizing i with
  | nil => rfl
  | cons a t ih => cases i with
    | zero => rfl
    | succ j => simpa using ih j
theorem own_eq_int {args : Array Value} {s : State} {t : Term} {k : Int32} (h : (Cond.eq t (.int k)).value args s none s [] = some true) : t.eval args s none [] s = some (.int k) := by
  obtain ⟨x, y, e1, e2, hk, hk'⟩ := cmp_v (Or.inl h)
  have e3 : y = .int k := by simpa [Term.eval] using e2.symm
  subst e3
  cases x with
  | int z => simp [Cond.value, e1, e2] at h; rw [e1, h]
  | _ => simp [Kin] at hk'
end OwnGo
end Jvm.RoadKit
namespace Jvm.Pilot.@@N@@
open Jvm Jvm.ClassFile Sem Op Lib Jvm.Free Jvm.Stand Jvm.LawKit Jvm.RoadKit Bundle Jvm.Pilot.@@N@@.Jvm.D
/-! body 1: PoolSettings.<init> -/
theorem d1_0 : decode prog_5_method_1_code 0 = .ok (.aload_n 0, 1) := by decide +kernel
theorem d1_1 : decode prog_5_method_1_code 1 = .ok (.invokespecial 1, 3) := by decide +kernel
theorem d1_4 : decode prog_5_method_1_code 4 = .ok (.aload_n 0, 1) := by decide +kernel
theorem d1_5 : decode prog_5_method_1_code 5 = .ok (.bipush 10, 2) := by decide +kernel
theorem d1_7 : decode prog_5_method_1_code 7 = .ok (.putfield 7, 3) := by decide +kernel
theorem d1_10 : decode prog_5_method_1_code 10 = .ok (.aload_n 0, 1) := by decide +kernel
theorem d1_11 : decode prog_5_method_1_code 11 = .ok (.iconst 3, 1) := by decide +kernel
theorem d1_12 : decode prog_5_method_1_code 12 = .ok (.putfield 13, 3) := by decide +kernel
theorem d1_15 : decode prog_5_method_1_code 15 = .ok (.aload_n 0, 1) := by decide +kernel
theorem d1_16 : decode prog_5_method_1_code 16 = .ok (.bipush 30, 2) := by decide +kernel
theorem d1_18 : decode prog_5_method_1_code 18 = .ok (.putfield 16, 3) := by decide +kernel
theorem d1_21 : decode prog_5_method_1_code 21 = .ok (.aload_n 0, 1) := by decide +kernel
theorem d1_22 : decode prog_5_method_1_code 22 = .ok (.iconst 1, 1) := by decide +kernel
theorem d1_23 : decode prog_5_method_1_code 23 = .ok (.putfield 19, 3) := by decide +kernel
theorem d1_26 : decode prog_5_method_1_code 26 = .ok (.aload_n 0, 1) := by decide +kernel
theorem d1_27 : decode prog_5_method_1_code 27 = .ok (.iconst 3, 1) := by decide +kernel
theorem d1_28 : decode prog_5_method_1_code 28 = .ok (.putfield 23, 3) := by decide +kernel
theorem d1_31 : decode prog_5_method_1_code 31 = .ok (.aload_n 0, 1) := by decide +kernel
theorem d1_32 : decode prog_5_method_1_code 32 = .ok (.iconst 1, 1) := by decide +kernel
theorem d1_33 : decode prog_5_method_1_code 33 = .ok (.putfield 26, 3) := by decide +kernel
theorem d1_36 : decode prog_5_method_1_code 36 = .ok (.aload_n 0, 1) := by decide +kernel
theorem d1_37 : decode prog_5_method_1_code 37 = .ok (.iconst 1, 1) := by decide +kernel
theorem d1_38 : decode prog_5_method_1_code 38 = .ok (.putfield 29, 3) := by decide +kernel
theorem d1_41 : decode prog_5_method_1_code 41 = .ok (.aload_n 0, 1) := by decide +kernel
theorem d1_42 : decode prog_5_method_1_code 42 = .ok (.iconst 1, 1) := by decide +kernel
theorem d1_43 : decode prog_5_method_1_code 43 = .ok (.putfield 32, 3) := by decide +kernel
theorem d1_46 : decode prog_5_method_1_code 46 = .ok (.return_, 1) := by decide +kernel
theorem pn_com_example_hot_pool_hotpool_config_PoolSettings : plainName "com/example/hot_pool/hotpool/config/PoolSettings" = true := by first | (simp [plainName, overriddenIn]; done) | decide +kernel
theorem ef_1 (m : MethodId) (x0 : Addr) : entryFrame m #[(.ref x0)] 1 = mkF m 0 #[.val (.ref x0)] [] := by first | (simp [entryFrame, mkF, argsToLocals, Value.category]; done) | rfl
def Q1 (Z : State) (r0 : Addr) (h0 : Heap) (n0 : Nat) (v : Option Value) (h : Heap) (L : List Loc) : Prop := v = none ∧ Fr n0 L ∧ Keep h0 h [r0] ∧ Fld Z h r0 "com/example/hot_pool/hotpool/config/PoolSettings" "maxPoolSize" "I" (.int (10 : Int32)) ∧ Fld Z h r0 "com/example/hot_pool/hotpool/config/PoolSettings" "connectionWaitTimeout" "I" (.int (3 : Int32)) ∧ Fld Z h r0 "com/example/hot_pool/hotpool/config/PoolSettings" "propertyCycle" "I" (.int (30 : Int32)) ∧ Fld Z h r0 "com/example/hot_pool/hotpool/config/PoolSettings" "validateOnBorrow" "Z" (.int (nar .boolean (1 : Int32))) ∧ Fld Z h r0 "com/example/hot_pool/hotpool/config/PoolSettings" "validationTimeout" "I" (.int (3 : Int32)) ∧ Fld Z h r0 "com/example/hot_pool/hotpool/config/PoolSettings" "validationTrustTime" "I" (.int (1 : Int32)) ∧ Fld Z h r0 "com/example/hot_pool/hotpool/config/PoolSettings" "flushAfterFailedValidations" "I" (.int (1 : Int32)) ∧ Fld Z h r0 "com/example/hot_pool/hotpool/config/PoolSettings" "autoCommit" "Z" (.int (nar .boolean (1 : Int32))) ∧ Fld Z h r0 "com/example/hot_pool/hotpool/config/PoolSettings" "abandonedConnectionTimeout" "I" (.int (0 : Int32)) ∧ Fld Z h r0 "com/example/hot_pool/hotpool/config/PoolSettings" "borrowTimeToLive" "I" (.int (0 : Int32)) ∧ Fld Z h r0 "com/example/hot_pool/hotpool/config/PoolSettings" "maxConnectionAge" "I" (.int (0 : Int32)) ∧ Fld Z h r0 "com/example/hot_pool/hotpool/config/PoolSettings" "maxIdleTime" "I" (.int (0 : Int32))
set_option maxRecDepth 65536 in
set_option maxHeartbeats 40000000 in
theorem rm1 (l : Launch) (Z : State) (a0 : Array Value) (hw : ∀ d ∈ tables_1, d.before a0 Z = true) (ws : List Jvm.Cond) (r0 : Addr) (h0 : Heap) (n0 : Nat) (Z0 : n0 ≤ h0.size) (E_r0 : Exa Z h0 r0 "com/example/hot_pool/hotpool/config/PoolSettings") (F_maxPoolSize_r0 : Fld Z h0 r0 "com/example/hot_pool/hotpool/config/PoolSettings" "maxPoolSize" "I" (.int (0 : Int32))) (F_connectionWaitTimeout_r0 : Fld Z h0 r0 "com/example/hot_pool/hotpool/config/PoolSettings" "connectionWaitTimeout" "I" (.int (0 : Int32))) (F_propertyCycle_r0 : Fld Z h0 r0 "com/example/hot_pool/hotpool/config/PoolSettings" "propertyCycle" "I" (.int (0 : Int32))) (F_validateOnBorrow_r0 : Fld Z h0 r0 "com/example/hot_pool/hotpool/config/PoolSettings" "validateOnBorrow" "Z" (.int (0 : Int32))) (F_validationTimeout_r0 : Fld Z h0 r0 "com/example/hot_pool/hotpool/config/PoolSettings" "validationTimeout" "I" (.int (0 : Int32))) (F_validationTrustTime_r0 : Fld Z h0 r0 "com/example/hot_pool/hotpool/config/PoolSettings" "validationTrustTime" "I" (.int (0 : Int32))) (F_flushAfterFailedValidations_r0 : Fld Z h0 r0 "com/example/hot_pool/hotpool/config/PoolSettings" "flushAfterFailedValidations" "I" (.int (0 : Int32))) (F_autoCommit_r0 : Fld Z h0 r0 "com/example/hot_pool/hotpool/config/PoolSettings" "autoCommit" "Z" (.int (0 : Int32))) (F_abandonedConnectionTimeout_r0 : Fld Z h0 r0 "com/example/hot_pool/hotpool/config/PoolSettings" "abandonedConnectionTimeout" "I" (.int (0 : Int32))) (F_borrowTimeToLive_r0 : Fld Z h0 r0 "com/example/hot_pool/hotpool/config/PoolSettings" "borrowTimeToLive" "I" (.int (0 : Int32))) (F_maxConnectionAge_r0 : Fld Z h0 r0 "com/example/hot_pool/hotpool/config/PoolSettings" "maxConnectionAge" "I" (.int (0 : Int32))) (F_maxIdleTime_r0 : Fld Z h0 r0 "com/example/hot_pool/hotpool/config/PoolSettings" "maxIdleTime" "I" (.int (0 : Int32))) (g_r0 : n0 ≤ r0) :
    MetFree l (⟨"com/example/hot_pool/hotpool/config/PoolSettings", "<init>", "()V"⟩ : MethodName) (head1 (Jvm.Cond.code (⟨"com/example/hot_pool/hotpool/config/PoolSettings", "<init>", "()V"⟩ : MethodName) prog_5_method_1_code 1 none :: ws) ({ frames := 1, cells := 0, slots := 0, locals := 12 } : Room)) (fun a U => a = #[(.ref r0)] ∧ Z.Warmed39 U.vm ∧ U.heap = h0) (fun _ _ _ _ _ => True) (fun _ U o U' => ∃ v L, o = .returned v ∧ Q1 Z r0 h0 n0 v U'.heap L ∧ FrameEnd U o U' L ({ frames := 1, cells := 0, slots := 0, locals := 12 } : Room).cells ({ frames := 1, cells := 0, slots := 0, locals := 12 } : Room).slots) := by
  refine MetFree.of_bodySF (plainFor_of_name pn_com_example_hot_pool_hotpool_config_PoolSettings) hisR ?_
  intro p e s m args below meth c s₁ Bd hml0 hP hK
  obtain ⟨rfl, hZ, hh⟩ := hP
  have hx := Bd.exec
  have hby := Bd.bytes
  have hlk := Bd.notSynchronized
  have hrt := Bd.returns
  have hml : c.maxLocals = 1 := hml0
  have hown : s.vm.findClass "com/example/hot_pool/hotpool/config/PoolSettings" = some m.cls := findClass_of_methodNamed Bd.named
  have hnm := (name_of_methodNamed Bd.named Bd.method).1
  have X0 : Stand p l e ({ frames := 1, cells := 0, slots := 0, locals := 12 } : Room) s m #[(.ref r0)] below meth c s₁ [] 0 0 := Stand.of_body Bd
  have e0 : s₁.heap = h0 := by rw [← hh, Bd.state]; rfl
  have N0 := Fr.nil n0
  have K0 := Keep.refl h0 [r0]
  refine own_out (Q := Q1 Z r0 h0 n0) ?_
  refine own_in (ef_1 m r0) ?_
  show own_Go _ _ _ _ s₁ (mkF m 0 #[.val (.ref r0)] [])
  refine own_st (fun t k => XS.aloadN X0.here hx rfl (hb hby d1_0) rfl rfl k) ?_
  show own_Go _ _ _ _ s₁ (mkF m 1 #[.val (.ref r0)] [(.ref r0)])
  obtain ⟨T1, X1, e1, st1⟩ := initO X0 hx hZ hown (hw _ (List.mem_of_getElem? (i := 7) rfl)) (hw _ (List.mem_of_getElem? (i := 8) rfl)) (hw _ (List.mem_of_getElem? (i := 9) rfl)) e0 (g := (mkF m 1 #[.val (.ref r0)] [(.ref r0)])) rfl (by rw [hml]; rfl) rfl (hb hby d1_1) (by decide) (W := 0) (by show 2 * 0 + _ ≤ _; exact Nat.le_of_eq rfl) (by decide)
  refine own_st st1 ?_
  show own_Go _ _ _ _ T1 (mkF m 4 #[.val (.ref r0)] [])
  refine own_st (fun t k => XS.aloadN X1.here hx rfl (hb hby d1_4) rfl rfl k) ?_
  show own_Go _ _ _ _ T1 (mkF m 5 #[.val (.ref r0)] [(.ref r0)])
  refine own_st (fun t k => XS.bipush X1.here hx rfl (hb hby d1_5) k) ?_
  show own_Go _ _ _ _ T1 (mkF m 7 #[.val (.ref r0)] [(.int (10 : Int32)), (.ref r0)])
  obtain ⟨T2, h2, X2, e2, W2, st2⟩ := putF X1 hx hZ hown (host := "") (Or.inl (hw _ (List.mem_of_getElem? (i := 10) rfl))) Via.refl e1 F_maxPoolSize_r0 E_r0 (Or.inl (hw _ (List.mem_of_getElem? (i := 11) rfl))) (hw _ (List.mem_of_getElem? (i := 2) rfl)) (ty := .int) (by decide) rfl rfl (g := (mkF m 7 #[.val (.ref r0)] [(.int (10 : Int32)), (.ref r0)])) rfl rfl (hb hby d1_7)
  have F2 := F_maxPoolSize_r0.same W2
  obtain ⟨_, X2, N2⟩ := own_hide X2 (Fr.snoc X2 N0 g_r0)
  refine own_st st2 ?_
  show own_Go _ _ _ _ T2 (mkF m 10 #[.val (.ref r0)] [])
  refine own_st (fun t k => XS.aloadN X2.here hx rfl (hb hby d1_10) rfl rfl k) ?_
  show own_Go _ _ _ _ T2 (mkF m 11 #[.val (.ref r0)] [(.ref r0)])
  refine own_st (fun t k => XS.iconst X2.here hx rfl (hb hby d1_11) k) ?_
  show own_Go _ _ _ _ T2 (mkF m 12 #[.val (.ref r0)] [(.int (3 : Int32)), (.ref r0)])
  have F_connectionWaitTimeout_r0_3 := (F_connectionWaitTimeout_r0.other W2 (Or.inr (slot_ne (Or.inl (hw _ (List.mem_of_getElem? (i := 13) rfl))) (Or.inl (hw _ (List.mem_of_getElem? (i := 11) rfl))) (by decide) (t := .int) (t' := .int) (by decide) (by decide))))
  have E_r0_4 := (E_r0.wr W2)
  have K0_5 := (K0.wr W2 (Or.inl (List.mem_of_getElem? (i := 0) rfl)))
  obtain ⟨T6, h6, X6, e6, W6, st6⟩ := putF X2 hx hZ hown (host := "") (Or.inl (hw _ (List.mem_of_getElem? (i := 12) rfl))) Via.refl e2 F_connectionWaitTimeout_r0_3 E_r0_4 (Or.inl (hw _ (List.mem_of_getElem? (i := 13) rfl))) (hw _ (List.mem_of_getElem? (i := 2) rfl)) (ty := .int) (by decide) rfl rfl (g := (mkF m 12 #[.val (.ref r0)] [(.int (3 : Int32)), (.ref r0)])) rfl rfl (hb hby d1_12)
  have F6 := F_connectionWaitTimeout_r0_3.same W6
  obtain ⟨_, X6, N6⟩ := own_hide X6 (Fr.snoc X6 N2 g_r0)
  refine own_st st6 ?_
  show own_Go _ _ _ _ T6 (mkF m 15 #[.val (.ref r0)] [])
  refine own_st (fun t k => XS.aloadN X6.here hx rfl (hb hby d1_15) rfl rfl k) ?_
  show own_Go _ _ _ _ T6 (mkF m 16 #[.val (.ref r0)] [(.ref r0)])
  refine own_st (fun t k => XS.bipush X6.here hx rfl (hb hby d1_16) k) ?_
  show own_Go _ _ _ _ T6 (mkF m 18 #[.val (.ref r0)] [(.int (30 : Int32)), (.ref r0)])
  have F_propertyCycle_r0_7 := ((F_propertyCycle_r0.other W2 (Or.inr (slot_ne (Or.inl (hw _ (List.mem_of_getElem? (i := 15) rfl))) (Or.inl (hw _ (List.mem_of_getElem? (i := 11) rfl))) (by decide) (t := .int) (t' := .int) (by decide) (by decide)))).other W6 (Or.inr (slot_ne (Or.inl (hw _ (List.mem_of_getElem? (i := 15) rfl))) (Or.inl (hw _ (List.mem_of_getElem? (i := 13) rfl))) (by decide) (t := .int) (t' := .int) (by decide) (by decide))))
  have E_r0_8 := (E_r0_4.wr W6)
  have K0_9 := (K0_5.wr W6 (Or.inl (List.mem_of_getElem? (i := 0) rfl)))
  obtain ⟨T10, h10, X10, e10, W10, st10⟩ := putF X6 hx hZ hown (host := "") (Or.inl (hw _ (List.mem_of_getElem? (i := 14) rfl))) Via.refl e6 F_propertyCycle_r0_7 E_r0_8 (Or.inl (hw _ (List.mem_of_getElem? (i := 15) rfl))) (hw _ (List.mem_of_getElem? (i := 2) rfl)) (ty := .int) (by decide) rfl rfl (g := (mkF m 18 #[.val (.ref r0)] [(.int (30 : Int32)), (.ref r0)])) rfl rfl (hb hby d1_18)
  have F10 := F_propertyCycle_r0_7.same W10
  obtain ⟨_, X10, N10⟩ := own_hide X10 (Fr.snoc X10 N6 g_r0)
  refine own_st st10 ?_
  show own_Go _ _ _ _ T10 (mkF m 21 #[.val (.ref r0)] [])
  refine own_st (fun t k => XS.aloadN X10.here hx rfl (hb hby d1_21) rfl rfl k) ?_
  show own_Go _ _ _ _ T10 (mkF m 22 #[.val (.ref r0)] [(.ref r0)])
  refine own_st (fun t k => XS.iconst X10.here hx rfl (hb hby d1_22) k) ?_
  show own_Go _ _ _ _ T10 (mkF m 23 #[.val (.ref r0)] [(.int (1 : Int32)), (.ref r0)])
  have F_validateOnBorrow_r0_11 := (((F_validateOnBorrow_r0.other W2 (Or.inr (slot_ne (Or.inl (hw _ (List.mem_of_getElem? (i := 17) rfl))) (Or.inl (hw _ (List.mem_of_getElem? (i := 11) rfl))) (by decide) (t := .boolean) (t' := .int) (by decide) (by decide)))).other W6 (Or.inr (slot_ne (Or.inl (hw _ (List.mem_of_getElem? (i := 17) rfl))) (Or.inl (hw _ (List.mem_of_getElem? (i := 13) rfl))) (by decide) (t := .boolean) (t' := .int) (by decide) (by decide)))).other W10 (Or.inr (slot_ne (Or.inl (hw _ (List.mem_of_getElem? (i := 17) rfl))) (Or.inl (hw _ (List.mem_of_getElem? (i := 15) rfl))) (by decide) (t := .boolean) (t' := .int) (by decide) (by decide))))
  have E_r0_12 := (E_r0_8.wr W10)
  have K0_13 := (K0_9.wr W10 (Or.inl (List.mem_of_getElem? (i := 0) rfl)))
  obtain ⟨T14, h14, X14, e14, W14, st14⟩ := putFN X10 hx hZ hown (hw _ (List.mem_of_getElem? (i := 16) rfl)) Via.refl e10 F_validateOnBorrow_r0_11 E_r0_12 (Or.inl (hw _ (List.mem_of_getElem? (i := 17) rfl))) (hw _ (List.mem_of_getElem? (i := 2) rfl)) (ty := .boolean) (v' := (.int (nar .boolean (1 : Int32)))) (by decide) rfl (fits_nar_bool _) (g := (mkF m 23 #[.val (.ref r0)] [(.int (1 : Int32)), (.ref r0)])) rfl rfl (hb hby d1_23)
  have F14 := F_validateOnBorrow_r0_11.same W14
  obtain ⟨_, X14, N14⟩ := own_hide X14 (Fr.snoc X14 N10 g_r0)
  refine own_st st14 ?_
  show own_Go _ _ _ _ T14 (mkF m 26 #[.val (.ref r0)] [])
  refine own_st (fun t k => XS.aloadN X14.here hx rfl (hb hby d1_26) rfl rfl k) ?_
  show own_Go _ _ _ _ T14 (mkF m 27 #[.val (.ref r0)] [(.ref r0)])
  refine own_st (fun t k => XS.iconst X14.here hx rfl (hb hby d1_27) k) ?_
  show own_Go _ _ _ _ T14 (mkF m 28 #[.val (.ref r0)] [(.int (3 : Int32)), (.ref r0)])
  have F_validationTimeout_r0_15 := ((((F_validationTimeout_r0.other W2 (Or.inr (slot_ne (Or.inl (hw _ (List.mem_of_getElem? (i := 19) rfl))) (Or.inl (hw _ (List.mem_of_getElem? (i := 11) rfl))) (by decide) (t := .int) (t' := .int) (by decide) (by decide)))).other W6 (Or.inr (slot_ne (Or.inl (hw _ (List.mem_of_getElem? (i := 19) rfl))) (Or.inl (hw _ (List.mem_of_getElem? (i := 13) rfl))) (by decide) (t := .int) (t' := .int) (by decide) (by decide)))).other W10 (Or.inr (slot_ne (Or.inl (hw _ (List.mem_of_getElem? (i := 19) rfl))) (Or.inl (hw _ (List.mem_of_getElem? (i := 15) rfl))) (by decide) (t := .int) (t' := .int) (by decide) (by decide)))).other W14 (Or.inr (slot_ne (Or.inl (hw _ (List.mem_of_getElem? (i := 19) rfl))) (Or.inl (hw _ (List.mem_of_getElem? (i := 17) rfl))) (by decide) (t := .int) (t' := .boolean) (by decide) (by decide))))
  have E_r0_16 := (E_r0_12.wr W14)
  have K0_17 := (K0_13.wr W14 (Or.inl (List.mem_of_getElem? (i := 0) rfl)))
  obtain ⟨T18, h18, X18, e18, W18, st18⟩ := putF X14 hx hZ hown (host := "") (Or.inl (hw _ (List.mem_of_getElem? (i := 18) rfl))) Via.refl e14 F_validationTimeout_r0_15 E_r0_16 (Or.inl (hw _ (List.mem_of_getElem? (i := 19) rfl))) (hw _ (List.mem_of_getElem? (i := 2) rfl)) (ty := .int) (by decide) rfl rfl (g := (mkF m 28 #[.val (.ref r0)] [(.int (3 : Int32)), (.ref r0)])) rfl rfl (hb hby d1_28)
  have F18 := F_validationTimeout_r0_15.same W18
  obtain ⟨_, X18, N18⟩ := own_hide X18 (Fr.snoc X18 N14 g_r0)
  refine own_st st18 ?_
  show own_Go _ _ _ _ T18 (mkF m 31 #[.val (.ref r0)] [])
  refine own_st (fun t k => XS.aloadN X18.here hx rfl (hb hby d1_31) rfl rfl k) ?_
  show own_Go _ _ _ _ T18 (mkF m 32 #[.val (.ref r0)] [(.ref r0)])
  refine own_st (fun t k => XS.iconst X18.here hx rfl (hb hby d1_32) k) ?_
  show own_Go _ _ _ _ T18 (mkF m 33 #[.val (.ref r0)] [(.int (1 : Int32)), (.ref r0)])
  have F_validationTrustTime_r0_19 := (((((F_validationTrustTime_r0.other W2 (Or.inr (slot_ne (Or.inl (hw _ (List.mem_of_getElem? (i := 21) rfl))) (Or.inl (hw _ (List.mem_of_getElem? (i := 11) rfl))) (by decide) (t := .int) (t' := .int) (by decide) (by decide)))).other W6 (Or.inr (slot_ne (Or.inl (hw _ (List.mem_of_getElem? (i := 21) rfl))) (Or.inl (hw _ (List.mem_of_getElem? (i := 13) rfl))) (by decide) (t := .int) (t' := .int) (by decide) (by decide)))).other W10 (Or.inr (slot_ne (Or.inl (hw _ (List.mem_of_getElem? (i := 21) rfl))) (Or.inl (hw _ (List.mem_of_getElem? (i := 15) rfl))) (by decide) (t := .int) (t' := .int) (by decide) (by decide)))).other W14 (Or.inr (slot_ne (Or.inl (hw _ (List.mem_of_getElem? (i := 21) rfl))) (Or.inl (hw _ (List.mem_of_getElem? (i := 17) rfl))) (by decide) (t := .int) (t' := .boolean) (by decide) (by decide)))).other W18 (Or.inr (slot_ne (Or.inl (hw _ (List.mem_of_getElem? (i := 21) rfl))) (Or.inl (hw _ (List.mem_of_getElem? (i := 19) rfl))) (by decide) (t := .int) (t' := .int) (by decide) (by decide))))
  have E_r0_20 := (E_r0_16.wr W18)
  have K0_21 := (K0_17.wr W18 (Or.inl (List.mem_of_getElem? (i := 0) rfl)))
  obtain ⟨T22, h22, X22, e22, W22, st22⟩ := putF X18 hx hZ hown (host := "") (Or.inl (hw _ (List.mem_of_getElem? (i := 20) rfl))) Via.refl e18 F_validationTrustTime_r0_19 E_r0_20 (Or.inl (hw _ (List.mem_of_getElem? (i := 21) rfl))) (hw _ (List.mem_of_getElem? (i := 2) rfl)) (ty := .int) (by decide) rfl rfl (g := (mkF m 33 #[.val (.ref r0)] [(.int (1 : Int32)), (.ref r0)])) rfl rfl (hb hby d1_33)
  have F22 := F_validationTrustTime_r0_19.same W22
  obtain ⟨_, X22, N22⟩ := own_hide X22 (Fr.snoc X22 N18 g_r0)
  refine own_st st22 ?_
  show own_Go _ _ _ _ T22 (mkF m 36 #[.val (.ref r0)] [])
  refine own_st (fun t k => XS.aloadN X22.here hx rfl (hb hby d1_36) rfl rfl k) ?_
  show own_Go _ _ _ _ T22 (mkF m 37 #[.val (.ref r0)] [(.ref r0)])
  refine own_st (fun t k => XS.iconst X22.here hx rfl (hb hby d1_37) k) ?_
  show own_Go _ _ _ _ T22 (mkF m 38 #[.val (.ref r0)] [(.int (1 : Int32)), (.ref r0)])
  have F_flushAfterFailedValidations_r0_23 := ((((((F_flushAfterFailedValidations_r0.other W2 (Or.inr (slot_ne (Or.inl (hw _ (List.mem_of_getElem? (i := 23) rfl))) (Or.inl (hw _ (List.mem_of_getElem? (i := 11) rfl))) (by decide) (t := .int) (t' := .int) (by decide) (by decide)))).other W6 (Or.inr (slot_ne (Or.inl (hw _ (List.mem_of_getElem? (i := 23) rfl))) (Or.inl (hw _ (List.mem_of_getElem? (i := 13) rfl))) (by decide) (t := .int) (t' := .int) (by decide) (by decide)))).other W10 (Or.inr (slot_ne (Or.inl (hw _ (List.mem_of_getElem? (i := 23) rfl))) (Or.inl (hw _ (List.mem_of_getElem? (i := 15) rfl))) (by decide) (t := .int) (t' := .int) (by decide) (by decide)))).other W14 (Or.inr (slot_ne (Or.inl (hw _ (List.mem_of_getElem? (i := 23) rfl))) (Or.inl (hw _ (List.mem_of_getElem? (i := 17) rfl))) (by decide) (t := .int) (t' := .boolean) (by decide) (by decide)))).other W18 (Or.inr (slot_ne (Or.inl (hw _ (List.mem_of_getElem? (i := 23) rfl))) (Or.inl (hw _ (List.mem_of_getElem? (i := 19) rfl))) (by decide) (t := .int) (t' := .int) (by decide) (by decide)))).other W22 (Or.inr (slot_ne (Or.inl (hw _ (List.mem_of_getElem? (i := 23) rfl))) (Or.inl (hw _ (List.mem_of_getElem? (i := 21) rfl))) (by decide) (t := .int) (t' := .int) (by decide) (by decide))))
  have E_r0_24 := (E_r0_20.wr W22)
  have K0_25 := (K0_21.wr W22 (Or.inl (List.mem_of_getElem? (i := 0) rfl)))
  obtain ⟨T26, h26, X26, e26, W26, st26⟩ := putF X22 hx hZ hown (host := "") (Or.inl (hw _ (List.mem_of_getElem? (i := 22) rfl))) Via.refl e22 F_flushAfterFailedValidations_r0_23 E_r0_24 (Or.inl (hw _ (List.mem_of_getElem? (i := 23) rfl))) (hw _ (List.mem_of_getElem? (i := 2) rfl)) (ty := .int) (by decide) rfl rfl (g := (mkF m 38 #[.val (.ref r0)] [(.int (1 : Int32)), (.ref r0)])) rfl rfl (hb hby d1_38)
  have F26 := F_flushAfterFailedValidations_r0_23.same W26
  obtain ⟨_, X26, N26⟩ := own_hide X26 (Fr.snoc X26 N22 g_r0)
  refine own_st st26 ?_
  show own_Go _ _ _ _ T26 (mkF m 41 #[.val (.ref r0)] [])
  refine own_st (fun t k => XS.aloadN X26.here hx rfl (hb hby d1_41) rfl rfl k) ?_
  show own_Go _ _ _ _ T26 (mkF m 42 #[.val (.ref r0)] [(.ref r0)])
  refine own_st (fun t k => XS.iconst X26.here hx rfl (hb hby d1_42) k) ?_
  show own_Go _ _ _ _ T26 (mkF m 43 #[.val (.ref r0)] [(.int (1 : Int32)), (.ref r0)])
  have F_autoCommit_r0_27 := (((((((F_autoCommit_r0.other W2 (Or.inr (slot_ne (Or.inl (hw _ (List.mem_of_getElem? (i := 25) rfl))) (Or.inl (hw _ (List.mem_of_getElem? (i := 11) rfl))) (by decide) (t := .boolean) (t' := .int) (by decide) (by decide)))).other W6 (Or.inr (slot_ne (Or.inl (hw _ (List.mem_of_getElem? (i := 25) rfl))) (Or.inl (hw _ (List.mem_of_getElem? (i := 13) rfl))) (by decide) (t := .boolean) (t' := .int) (by decide) (by decide)))).other W10 (Or.inr (slot_ne (Or.inl (hw _ (List.mem_of_getElem? (i := 25) rfl))) (Or.inl (hw _ (List.mem_of_getElem? (i := 15) rfl))) (by decide) (t := .boolean) (t' := .int) (by decide) (by decide)))).other W14 (Or.inr (slot_ne (Or.inl (hw _ (List.mem_of_getElem? (i := 25) rfl))) (Or.inl (hw _ (List.mem_of_getElem? (i := 17) rfl))) (by decide) (t := .boolean) (t' := .boolean) (by decide) (by decide)))).other W18 (Or.inr (slot_ne (Or.inl (hw _ (List.mem_of_getElem? (i := 25) rfl))) (Or.inl (hw _ (List.mem_of_getElem? (i := 19) rfl))) (by decide) (t := .boolean) (t' := .int) (by decide) (by decide)))).other W22 (Or.inr (slot_ne (Or.inl (hw _ (List.mem_of_getElem? (i := 25) rfl))) (Or.inl (hw _ (List.mem_of_getElem? (i := 21) rfl))) (by decide) (t := .boolean) (t' := .int) (by decide) (by decide)))).other W26 (Or.inr (slot_ne (Or.inl (hw _ (List.mem_of_getElem? (i := 25) rfl))) (Or.inl (hw _ (List.mem_of_getElem? (i := 23) rfl))) (by decide) (t := .boolean) (t' := .int) (by decide) (by decide))))
  have E_r0_28 := (E_r0_24.wr W26)
  have K0_29 := (K0_25.wr W26 (Or.inl (List.mem_of_getElem? (i := 0) rfl)))
  obtain ⟨T30, h30, X30, e30, W30, st30⟩ := putFN X26 hx hZ hown (hw _ (List.mem_of_getElem? (i := 24) rfl)) Via.refl e26 F_autoCommit_r0_27 E_r0_28 (Or.inl (hw _ (List.mem_of_getElem? (i := 25) rfl))) (hw _ (List.mem_of_getElem? (i := 2) rfl)) (ty := .boolean) (v' := (.int (nar .boolean (1 : Int32)))) (by decide) rfl (fits_nar_bool _) (g := (mkF m 43 #[.val (.ref r0)] [(.int (1 : Int32)), (.ref r0)])) rfl rfl (hb hby d1_43)
  have F30 := F_autoCommit_r0_27.same W30
  obtain ⟨_, X30, N30⟩ := own_hide X30 (Fr.snoc X30 N26 g_r0)
  refine own_st st30 ?_
  show own_Go _ _ _ _ T30 (mkF m 46 #[.val (.ref r0)] [])
  have K0_31 := (K0_29.wr W30 (Or.inl (List.mem_of_getElem? (i := 0) rfl)))
  have F2_maxPoolSize_32 := (((((((F2.other W6 (Or.inr (slot_ne (Or.inl (hw _ (List.mem_of_getElem? (i := 11) rfl))) (Or.inl (hw _ (List.mem_of_getElem? (i := 13) rfl))) (by decide) (t := .int) (t' := .int) (by decide) (by decide)))).other W10 (Or.inr (slot_ne (Or.inl (hw _ (List.mem_of_getElem? (i := 11) rfl))) (Or.inl (hw _ (List.mem_of_getElem? (i := 15) rfl))) (by decide) (t := .int) (t' := .int) (by decide) (by decide)))).other W14 (Or.inr (slot_ne (Or.inl (hw _ (List.mem_of_getElem? (i := 11) rfl))) (Or.inl (hw _ (List.mem_of_getElem? (i := 17) rfl))) (by decide) (t := .int) (t' := .boolean) (by decide) (by decide)))).other W18 (Or.inr (slot_ne (Or.inl (hw _ (List.mem_of_getElem? (i := 11) rfl))) (Or.inl (hw _ (List.mem_of_getElem? (i := 19) rfl))) (by decide) (t := .int) (t' := .int) (by decide) (by decide)))).other W22 (Or.inr (slot_ne (Or.inl (hw _ (List.mem_of_getElem? (i := 11) rfl))) (Or.inl (hw _ (List.mem_of_getElem? (i := 21) rfl))) (by decide) (t := .int) (t' := .int) (by decide) (by decide)))).other W26 (Or.inr (slot_ne (Or.inl (hw _ (List.mem_of_getElem? (i := 11) rfl))) (Or.inl (hw _ (List.mem_of_getElem? (i := 23) rfl))) (by decide) (t := .int) (t' := .int) (by decide) (by decide)))).other W30 (Or.inr (slot_ne (Or.inl (hw _ (List.mem_of_getElem? (i := 11) rfl))) (Or.inl (hw _ (List.mem_of_getElem? (i := 25) rfl))) (by decide) (t := .int) (t' := .boolean) (by decide) (by decide))))
  have F6_connectionWaitTimeout_33 := ((((((F6.other W10 (Or.inr (slot_ne (Or.inl (hw _ (List.mem_of_getElem? (i := 13) rfl))) (Or.inl (hw _ (List.mem_of_getElem? (i := 15) rfl))) (by decide) (t := .int) (t' := .int) (by decide) (by decide)))).other W14 (Or.inr (slot_ne (Or.inl (hw _ (List.mem_of_getElem? (i := 13) rfl))) (Or.inl (hw _ (List.mem_of_getElem? (i := 17) rfl))) (by decide) (t := .int) (t' := .boolean) (by decide) (by decide)))).other W18 (Or.inr (slot_ne (Or.inl (hw _ (List.mem_of_getElem? (i := 13) rfl))) (Or.inl (hw _ (List.mem_of_getElem? (i := 19) rfl))) (by decide) (t := .int) (t' := .int) (by decide) (by decide)))).other W22 (Or.inr (slot_ne (Or.inl (hw _ (List.mem_of_getElem? (i := 13) rfl))) (Or.inl (hw _ (List.mem_of_getElem? (i := 21) rfl))) (by decide) (t := .int) (t' := .int) (by decide) (by decide)))).other W26 (Or.inr (slot_ne (Or.inl (hw _ (List.mem_of_getElem? (i := 13) rfl))) (Or.inl (hw _ (List.mem_of_getElem? (i := 23) rfl))) (by decide) (t := .int) (t' := .int) (by decide) (by decide)))).other W30 (Or.inr (slot_ne (Or.inl (hw _ (List.mem_of_getElem? (i := 13) rfl))) (Or.inl (hw _ (List.mem_of_getElem? (i := 25) rfl))) (by decide) (t := .int) (t' := .boolean) (by decide) (by decide))))
  have F10_propertyCycle_34 := (((((F10.other W14 (Or.inr (slot_ne (Or.inl (hw _ (List.mem_of_getElem? (i := 15) rfl))) (Or.inl (hw _ (List.mem_of_getElem? (i := 17) rfl))) (by decide) (t := .int) (t' := .boolean) (by decide) (by decide)))).other W18 (Or.inr (slot_ne (Or.inl (hw _ (List.mem_of_getElem? (i := 15) rfl))) (Or.inl (hw _ (List.mem_of_getElem? (i := 19) rfl))) (by decide) (t := .int) (t' := .int) (by decide) (by decide)))).other W22 (Or.inr (slot_ne (Or.inl (hw _ (List.mem_of_getElem? (i := 15) rfl))) (Or.inl (hw _ (List.mem_of_getElem? (i := 21) rfl))) (by decide) (t := .int) (t' := .int) (by decide) (by decide)))).other W26 (Or.inr (slot_ne (Or.inl (hw _ (List.mem_of_getElem? (i := 15) rfl))) (Or.inl (hw _ (List.mem_of_getElem? (i := 23) rfl))) (by decide) (t := .int) (t' := .int) (by decide) (by decide)))).other W30 (Or.inr (slot_ne (Or.inl (hw _ (List.mem_of_getElem? (i := 15) rfl))) (Or.inl (hw _ (List.mem_of_getElem? (i := 25) rfl))) (by decide) (t := .int) (t' := .boolean) (by decide) (by decide))))
  have F14_validateOnBorrow_35 := ((((F14.other W18 (Or.inr (slot_ne (Or.inl (hw _ (List.mem_of_getElem? (i := 17) rfl))) (Or.inl (hw _ (List.mem_of_getElem? (i := 19) rfl))) (by decide) (t := .boolean) (t' := .int) (by decide) (by decide)))).other W22 (Or.inr (slot_ne (Or.inl (hw _ (List.mem_of_getElem? (i := 17) rfl))) (Or.inl (hw _ (List.mem_of_getElem? (i := 21) rfl))) (by decide) (t := .boolean) (t' := .int) (by decide) (by decide)))).other W26 (Or.inr (slot_ne (Or.inl (hw _ (List.mem_of_getElem? (i := 17) rfl))) (Or.inl (hw _ (List.mem_of_getElem? (i := 23) rfl))) (by decide) (t := .boolean) (t' := .int) (by decide) (by decide)))).other W30 (Or.inr (slot_ne (Or.inl (hw _ (List.mem_of_getElem? (i := 17) rfl))) (Or.inl (hw _ (List.mem_of_getElem? (i := 25) rfl))) (by decide) (t := .boolean) (t' := .boolean) (by decide) (by decide))))
  have F18_validationTimeout_36 := (((F18.other W22 (Or.inr (slot_ne (Or.inl (hw _ (List.mem_of_getElem? (i := 19) rfl))) (Or.inl (hw _ (List.mem_of_getElem? (i := 21) rfl))) (by decide) (t := .int) (t' := .int) (by decide) (by decide)))).other W26 (Or.inr (slot_ne (Or.inl (hw _ (List.mem_of_getElem? (i := 19) rfl))) (Or.inl (hw _ (List.mem_of_getElem? (i := 23) rfl))) (by decide) (t := .int) (t' := .int) (by decide) (by decide)))).other W30 (Or.inr (slot_ne (Or.inl (hw _ (List.mem_of_getElem? (i := 19) rfl))) (Or.inl (hw _ (List.mem_of_getElem? (i := 25) rfl))) (by decide) (t := .int) (t' := .boolean) (by decide) (by decide))))
  have F22_validationTrustTime_37 := ((F22.other W26 (Or.inr (slot_ne (Or.inl (hw _ (List.mem_of_getElem? (i := 21) rfl))) (Or.inl (hw _ (List.mem_of_getElem? (i := 23) rfl))) (by decide) (t := .int) (t' := .int) (by decide) (by decide)))).other W30 (Or.inr (slot_ne (Or.inl (hw _ (List.mem_of_getElem? (i := 21) rfl))) (Or.inl (hw _ (List.mem_of_getElem? (i := 25) rfl))) (by decide) (t := .int) (t' := .boolean) (by decide) (by decide))))
  have F26_flushAfterFailedValidations_38 := (F26.other W30 (Or.inr (slot_ne (Or.inl (hw _ (List.mem_of_getElem? (i := 23) rfl))) (Or.inl (hw _ (List.mem_of_getElem? (i := 25) rfl))) (by decide) (t := .int) (t' := .boolean) (by decide) (by decide))))
  have F_abandonedConnectionTimeout_r0_39 := ((((((((F_abandonedConnectionTimeout_r0.other W2 (Or.inr (slot_ne (Or.inl (hw _ (List.mem_of_getElem? (i := 32) rfl))) (Or.inl (hw _ (List.mem_of_getElem? (i := 11) rfl))) (by decide) (t := .int) (t' := .int) (by decide) (by decide)))).other W6 (Or.inr (slot_ne (Or.inl (hw _ (List.mem_of_getElem? (i := 32) rfl))) (Or.inl (hw _ (List.mem_of_getElem? (i := 13) rfl))) (by decide) (t := .int) (t' := .int) (by decide) (by decide)))).other W10 (Or.inr (slot_ne (Or.inl (hw _ (List.mem_of_getElem? (i := 32) rfl))) (Or.inl (hw _ (List.mem_of_getElem? (i := 15) rfl))) (by decide) (t := .int) (t' := .int) (by decide) (by decide)))).other W14 (Or.inr (slot_ne (Or.inl (hw _ (List.mem_of_getElem? (i := 32) rfl))) (Or.inl (hw _ (List.mem_of_getElem? (i := 17) rfl))) (by decide) (t := .int) (t' := .boolean) (by decide) (by decide)))).other W18 (Or.inr (slot_ne (Or.inl (hw _ (List.mem_of_getElem? (i := 32) rfl))) (Or.inl (hw _ (List.mem_of_getElem? (i := 19) rfl))) (by decide) (t := .int) (t' := .int) (by decide) (by decide)))).other W22 (Or.inr (slot_ne (Or.inl (hw _ (List.mem_of_getElem? (i := 32) rfl))) (Or.inl (hw _ (List.mem_of_getElem? (i := 21) rfl))) (by decide) (t := .int) (t' := .int) (by decide) (by decide)))).other W26 (Or.inr (slot_ne (Or.inl (hw _ (List.mem_of_getElem? (i := 32) rfl))) (Or.inl (hw _ (List.mem_of_getElem? (i := 23) rfl))) (by decide) (t := .int) (t' := .int) (by decide) (by decide)))).other W30 (Or.inr (slot_ne (Or.inl (hw _ (List.mem_of_getElem? (i := 32) rfl))) (Or.inl (hw _ (List.mem_of_getElem? (i := 25) rfl))) (by decide) (t := .int) (t' := .boolean) (by decide) (by decide))))
  have F_borrowTimeToLive_r0_40 := ((((((((F_borrowTimeToLive_r0.other W2 (Or.inr (slot_ne (Or.inl (hw _ (List.mem_of_getElem? (i := 34) rfl))) (Or.inl (hw _ (List.mem_of_getElem? (i := 11) rfl))) (by decide) (t := .int) (t' := .int) (by decide) (by decide)))).other W6 (Or.inr (slot_ne (Or.inl (hw _ (List.mem_of_getElem? (i := 34) rfl))) (Or.inl (hw _ (List.mem_of_getElem? (i := 13) rfl))) (by decide) (t := .int) (t' := .int) (by decide) (by decide)))).other W10 (Or.inr (slot_ne (Or.inl (hw _ (List.mem_of_getElem? (i := 34) rfl))) (Or.inl (hw _ (List.mem_of_getElem? (i := 15) rfl))) (by decide) (t := .int) (t' := .int) (by decide) (by decide)))).other W14 (Or.inr (slot_ne (Or.inl (hw _ (List.mem_of_getElem? (i := 34) rfl))) (Or.inl (hw _ (List.mem_of_getElem? (i := 17) rfl))) (by decide) (t := .int) (t' := .boolean) (by decide) (by decide)))).other W18 (Or.inr (slot_ne (Or.inl (hw _ (List.mem_of_getElem? (i := 34) rfl))) (Or.inl (hw _ (List.mem_of_getElem? (i := 19) rfl))) (by decide) (t := .int) (t' := .int) (by decide) (by decide)))).other W22 (Or.inr (slot_ne (Or.inl (hw _ (List.mem_of_getElem? (i := 34) rfl))) (Or.inl (hw _ (List.mem_of_getElem? (i := 21) rfl))) (by decide) (t := .int) (t' := .int) (by decide) (by decide)))).other W26 (Or.inr (slot_ne (Or.inl (hw _ (List.mem_of_getElem? (i := 34) rfl))) (Or.inl (hw _ (List.mem_of_getElem? (i := 23) rfl))) (by decide) (t := .int) (t' := .int) (by decide) (by decide)))).other W30 (Or.inr (slot_ne (Or.inl (hw _ (List.mem_of_getElem? (i := 34) rfl))) (Or.inl (hw _ (List.mem_of_getElem? (i := 25) rfl))) (by decide) (t := .int) (t' := .boolean) (by decide) (by decide))))
  have F_maxConnectionAge_r0_41 := ((((((((F_maxConnectionAge_r0.other W2 (Or.inr (slot_ne (Or.inl (hw _ (List.mem_of_getElem? (i := 53) rfl))) (Or.inl (hw _ (List.mem_of_getElem? (i := 11) rfl))) (by decide) (t := .int) (t' := .int) (by decide) (by decide)))).other W6 (Or.inr (slot_ne (Or.inl (hw _ (List.mem_of_getElem? (i := 53) rfl))) (Or.inl (hw _ (List.mem_of_getElem? (i := 13) rfl))) (by decide) (t := .int) (t' := .int) (by decide) (by decide)))).other W10 (Or.inr (slot_ne (Or.inl (hw _ (List.mem_of_getElem? (i := 53) rfl))) (Or.inl (hw _ (List.mem_of_getElem? (i := 15) rfl))) (by decide) (t := .int) (t' := .int) (by decide) (by decide)))).other W14 (Or.inr (slot_ne (Or.inl (hw _ (List.mem_of_getElem? (i := 53) rfl))) (Or.inl (hw _ (List.mem_of_getElem? (i := 17) rfl))) (by decide) (t := .int) (t' := .boolean) (by decide) (by decide)))).other W18 (Or.inr (slot_ne (Or.inl (hw _ (List.mem_of_getElem? (i := 53) rfl))) (Or.inl (hw _ (List.mem_of_getElem? (i := 19) rfl))) (by decide) (t := .int) (t' := .int) (by decide) (by decide)))).other W22 (Or.inr (slot_ne (Or.inl (hw _ (List.mem_of_getElem? (i := 53) rfl))) (Or.inl (hw _ (List.mem_of_getElem? (i := 21) rfl))) (by decide) (t := .int) (t' := .int) (by decide) (by decide)))).other W26 (Or.inr (slot_ne (Or.inl (hw _ (List.mem_of_getElem? (i := 53) rfl))) (Or.inl (hw _ (List.mem_of_getElem? (i := 23) rfl))) (by decide) (t := .int) (t' := .int) (by decide) (by decide)))).other W30 (Or.inr (slot_ne (Or.inl (hw _ (List.mem_of_getElem? (i := 53) rfl))) (Or.inl (hw _ (List.mem_of_getElem? (i := 25) rfl))) (by decide) (t := .int) (t' := .boolean) (by decide) (by decide))))
  have F_maxIdleTime_r0_42 := ((((((((F_maxIdleTime_r0.other W2 (Or.inr (slot_ne (Or.inl (hw _ (List.mem_of_getElem? (i := 61) rfl))) (Or.inl (hw _ (List.mem_of_getElem? (i := 11) rfl))) (by decide) (t := .int) (t' := .int) (by decide) (by decide)))).other W6 (Or.inr (slot_ne (Or.inl (hw _ (List.mem_of_getElem? (i := 61) rfl))) (Or.inl (hw _ (List.mem_of_getElem? (i := 13) rfl))) (by decide) (t := .int) (t' := .int) (by decide) (by decide)))).other W10 (Or.inr (slot_ne (Or.inl (hw _ (List.mem_of_getElem? (i := 61) rfl))) (Or.inl (hw _ (List.mem_of_getElem? (i := 15) rfl))) (by decide) (t := .int) (t' := .int) (by decide) (by decide)))).other W14 (Or.inr (slot_ne (Or.inl (hw _ (List.mem_of_getElem? (i := 61) rfl))) (Or.inl (hw _ (List.mem_of_getElem? (i := 17) rfl))) (by decide) (t := .int) (t' := .boolean) (by decide) (by decide)))).other W18 (Or.inr (slot_ne (Or.inl (hw _ (List.mem_of_getElem? (i := 61) rfl))) (Or.inl (hw _ (List.mem_of_getElem? (i := 19) rfl))) (by decide) (t := .int) (t' := .int) (by decide) (by decide)))).other W22 (Or.inr (slot_ne (Or.inl (hw _ (List.mem_of_getElem? (i := 61) rfl))) (Or.inl (hw _ (List.mem_of_getElem? (i := 21) rfl))) (by decide) (t := .int) (t' := .int) (by decide) (by decide)))).other W26 (Or.inr (slot_ne (Or.inl (hw _ (List.mem_of_getElem? (i := 61) rfl))) (Or.inl (hw _ (List.mem_of_getElem? (i := 23) rfl))) (by decide) (t := .int) (t' := .int) (by decide) (by decide)))).other W30 (Or.inr (slot_ne (Or.inl (hw _ (List.mem_of_getElem? (i := 61) rfl))) (Or.inl (hw _ (List.mem_of_getElem? (i := 25) rfl))) (by decide) (t := .int) (t' := .boolean) (by decide) (by decide))))
  exact own_retV X30 hx hlk hrt (hb hby d1_46) (by rw [e30]; exact ⟨rfl, N30, K0_31, F2_maxPoolSize_32, F6_connectionWaitTimeout_33, F10_propertyCycle_34, F14_validateOnBorrow_35, F18_validationTimeout_36, F22_validationTrustTime_37, F26_flushAfterFailedValidations_38, F30, F_abandonedConnectionTimeout_r0_39, F_borrowTimeToLive_r0_40, F_maxConnectionAge_r0_41, F_maxIdleTime_r0_42⟩) (by decide) (by decide)
/-! body 5: Settings.requireNonNegative -/
theorem d5_0 : decode prog_8_method_2_code 0 = .ok (.iload_n 1, 1) := by decide +kernel
theorem d5_1 : decode prog_8_method_2_code 1 = .ok (.ifCond .ge 18, 3) := by decide +kernel
theorem d5_19 : decode prog_8_method_2_code 19 = .ok (.iload_n 1, 1) := by decide +kernel
theorem d5_20 : decode prog_8_method_2_code 20 = .ok (.ireturn, 1) := by decide +kernel
theorem pn_com_example_hot_pool_hotpool_config_Settings : plainName "com/example/hot_pool/hotpool/config/Settings" = true := by first | (simp [plainName, overriddenIn]; done) | decide +kernel
theorem ef_5 (m : MethodId) (x0 : Addr) (x1 : Int32) : entryFrame m #[(.ref x0), (.int x1)] 2 = mkF m 0 #[.val (.ref x0), .val (.int x1)] [] := by first | (simp [entryFrame, mkF, argsToLocals, Value.category]; done) | rfl
def Q5 (Z : State) (r0 : Addr) (p1 : Int32) (h0 : Heap) (n0 : Nat) (v : Option Value) (h : Heap) (L : List Loc) : Prop := v = some (.int p1) ∧ Fr n0 L ∧ h = h0
set_option maxRecDepth 65536 in
set_option maxHeartbeats 40000000 in
theorem rm5 (l : Launch) (Z : State) (a0 : Array Value) (hw : ∀ d ∈ tables_1, d.before a0 Z = true) (ws : List Jvm.Cond) (r0 : Addr) (p1 : Int32) (h0 : Heap) (n0 : Nat) (Z0 : n0 ≤ h0.size) (hpos : ¬ (p1 < (0 : Int32))) :
    MetFree l (⟨"com/example/hot_pool/hotpool/config/Settings", "requireNonNegative", "(Ljava/lang/String;I)I"⟩ : MethodName) (head1 (Jvm.Cond.code (⟨"com/example/hot_pool/hotpool/config/Settings", "requireNonNegative", "(Ljava/lang/String;I)I"⟩ : MethodName) prog_8_method_2_code 2 (some .int) :: ws) ({ frames := 0, cells := 0, slots := 0, locals := 0 } : Room)) (fun a U => a = #[(.ref r0), (.int p1)] ∧ Z.Warmed39 U.vm ∧ U.heap = h0) (fun _ _ _ _ _ => True) (fun _ U o U' => ∃ v L, o = .returned v ∧ Q5 Z r0 p1 h0 n0 v U'.heap L ∧ FrameEnd U o U' L ({ frames := 0, cells := 0, slots := 0, locals := 0 } : Room).cells ({ frames := 0, cells := 0, slots := 0, locals := 0 } : Room).slots) := by
  refine MetFree.of_bodySF (plainFor_of_name pn_com_example_hot_pool_hotpool_config_Settings) hisR ?_
  intro p e s m args below meth c s₁ Bd hml0 hP hK
  obtain ⟨rfl, hZ, hh⟩ := hP
  have hx := Bd.exec
  have hby := Bd.bytes
  have hlk := Bd.notSynchronized
  have hrt := Bd.returns
  have hml : c.maxLocals = 2 := hml0
  have hown : s.vm.findClass "com/example/hot_pool/hotpool/config/Settings" = some m.cls := findClass_of_methodNamed Bd.named
  have hnm := (name_of_methodNamed Bd.named Bd.method).1
  have X0 : Stand p l e ({ frames := 0, cells := 0, slots := 0, locals := 0 } : Room) s m #[(.ref r0), (.int p1)] below meth c s₁ [] 0 0 := Stand.of_body Bd
  have e0 : s₁.heap = h0 := by rw [← hh, Bd.state]; rfl
  have N0 := Fr.nil n0
  have K0 := Keep.refl h0 []
  refine own_out (Q := Q5 Z r0 p1 h0 n0) ?_
  refine own_in (ef_5 m r0 p1) ?_
  show own_Go _ _ _ _ s₁ (mkF m 0 #[.val (.ref r0), .val (.int p1)] [])
  refine own_st (fun t k => XS.iloadN X0.here hx rfl (hb hby d5_0) rfl k) ?_
  show own_Go _ _ _ _ s₁ (mkF m 1 #[.val (.ref r0), .val (.int p1)] [(.int p1)])
  refine own_st (fun t k => XS.ifYes X0.here hx rfl (pc0 := 1) (pc' := 19) rfl (hb hby d5_1) rfl ((if0 _ _).trans (flt hpos).2.1) (by decide) (by decide) k) ?_
  show own_Go _ _ _ _ s₁ (mkF m 19 #[.val (.ref r0), .val (.int p1)] [])
  refine own_st (fun t k => XS.iloadN X0.here hx rfl (hb hby d5_19) rfl k) ?_
  show own_Go _ _ _ _ s₁ (mkF m 20 #[.val (.ref r0), .val (.int p1)] [(.int p1)])
  exact own_retI X0 hx hlk hrt (hb hby d5_20) ⟨rfl, N0, e0⟩ (by decide) (by decide)
theorem own_sA {a0 : Array Value} {Z : State} (hw : ∀ d ∈ tables_1, d.before a0 Z = true) : ∀ a ∈ Bundle.stringAtoms, a.before a0 Z = true := by
  intro a ha
  simp only [Bundle.stringAtoms, List.mem_cons, List.not_mem_nil, or_false] at ha
  rcases ha with rfl | rfl | rfl | rfl | rfl | rfl | rfl
  · exact (hw _ (List.mem_of_getElem? (i := 41) rfl))
  · exact (hw _ (List.mem_of_getElem? (i := 42) rfl))
  · exact (hw _ (List.mem_of_getElem? (i := 43) rfl))
  · exact (hw _ (List.mem_of_getElem? (i := 44) rfl))
  · exact (hw _ (List.mem_of_getElem? (i := 45) rfl))
  · exact (hw _ (List.mem_of_getElem? (i := 46) rfl))
  · exact (hw _ (List.mem_of_getElem? (i := 47) rfl))
theorem pd__28Ljava_2flang_2fString_3bI_29I : parseMethodDescriptor "(Ljava/lang/String;I)I" = some ⟨[(.object "java/lang/String"), .int], some .int⟩ := by decide +kernel
/-! body 4: PoolSettings.setMaxConnectionAge -/
theorem d4_0 : decode prog_5_method_27_code 0 = .ok (.aload_n 0, 1) := by decide +kernel
theorem d4_1 : decode prog_5_method_27_code 1 = .ok (.ldc 77, 2) := by decide +kernel
theorem d4_3 : decode prog_5_method_27_code 3 = .ok (.iload_n 1, 1) := by decide +kernel
theorem d4_4 : decode prog_5_method_27_code 4 = .ok (.invokestatic 39, 3) := by decide +kernel
theorem d4_7 : decode prog_5_method_27_code 7 = .ok (.putfield 74, 3) := by decide +kernel
theorem d4_10 : decode prog_5_method_27_code 10 = .ok (.return_, 1) := by decide +kernel
theorem ef_4 (m : MethodId) (x0 : Addr) (x1 : Int32) : entryFrame m #[(.ref x0), (.int x1)] 2 = mkF m 0 #[.val (.ref x0), .val (.int x1)] [] := by first | (simp [entryFrame, mkF, argsToLocals, Value.category]; done) | rfl
def Q4 (Z : State) (r0 : Addr) (p1 : Int32) (v0 : Int32) (v1 : Int32) (v2 : Int32) (v3 : Int32) (h0 : Heap) (n0 : Nat) (v : Option Value) (h : Heap) (L : List Loc) : Prop := v = none ∧ Fr n0 L ∧ Keep h0 h [r0] ∧ Fld Z h r0 "com/example/hot_pool/hotpool/config/PoolSettings" "maxConnectionAge" "I" (.int p1) ∧ Fld Z h r0 "com/example/hot_pool/hotpool/config/PoolSettings" "maxIdleTime" "I" (.int v1) ∧ Fld Z h r0 "com/example/hot_pool/hotpool/config/PoolSettings" "abandonedConnectionTimeout" "I" (.int v2) ∧ Fld Z h r0 "com/example/hot_pool/hotpool/config/PoolSettings" "borrowTimeToLive" "I" (.int v3)
set_option maxRecDepth 65536 in
set_option maxHeartbeats 40000000 in
theorem rm4 (l : Launch) (Z : State) (a0 : Array Value) (hw : ∀ d ∈ tables_1, d.before a0 Z = true) (ws : List Jvm.Cond) (r0 : Addr) (p1 : Int32) (v0 : Int32) (v1 : Int32) (v2 : Int32) (v3 : Int32) (h0 : Heap) (n0 : Nat) (Z0 : n0 ≤ h0.size) (E_r0 : Exa Z h0 r0 "com/example/hot_pool/hotpool/config/PoolSettings") (F_maxConnectionAge_r0 : Fld Z h0 r0 "com/example/hot_pool/hotpool/config/PoolSettings" "maxConnectionAge" "I" (.int v0)) (F_maxIdleTime_r0 : Fld Z h0 r0 "com/example/hot_pool/hotpool/config/PoolSettings" "maxIdleTime" "I" (.int v1)) (F_abandonedConnectionTimeout_r0 : Fld Z h0 r0 "com/example/hot_pool/hotpool/config/PoolSettings" "abandonedConnectionTimeout" "I" (.int v2)) (F_borrowTimeToLive_r0 : Fld Z h0 r0 "com/example/hot_pool/hotpool/config/PoolSettings" "borrowTimeToLive" "I" (.int v3)) (g_r0 : n0 ≤ r0) (hpos : ¬ (p1 < (0 : Int32))) :
    MetFree l (⟨"com/example/hot_pool/hotpool/config/PoolSettings", "setMaxConnectionAge", "(I)V"⟩ : MethodName) (head1 (Jvm.Cond.code (⟨"com/example/hot_pool/hotpool/config/PoolSettings", "setMaxConnectionAge", "(I)V"⟩ : MethodName) prog_5_method_27_code 2 none :: ws) ({ frames := 1, cells := 2, slots := 68, locals := 14 } : Room)) (fun a U => a = #[(.ref r0), (.int p1)] ∧ Z.Warmed39 U.vm ∧ U.heap = h0) (fun _ _ _ _ _ => True) (fun _ U o U' => ∃ v L, o = .returned v ∧ Q4 Z r0 p1 v0 v1 v2 v3 h0 n0 v U'.heap L ∧ ReturnedEndW U o U' L ({ frames := 1, cells := 2, slots := 68, locals := 14 } : Room).cells ({ frames := 1, cells := 2, slots := 68, locals := 14 } : Room).slots) := by
  refine MetFree.of_bodySF (plainFor_of_name pn_com_example_hot_pool_hotpool_config_PoolSettings) hisR ?_
  intro p e s m args below meth c s₁ Bd hml0 hP hK
  obtain ⟨rfl, hZ, hh⟩ := hP
  have hx := Bd.exec
  have hby := Bd.bytes
  have hlk := Bd.notSynchronized
  have hrt := Bd.returns
  have hml : c.maxLocals = 2 := hml0
  have hown : s.vm.findClass "com/example/hot_pool/hotpool/config/PoolSettings" = some m.cls := findClass_of_methodNamed Bd.named
  have hnm := (name_of_methodNamed Bd.named Bd.method).1
  have X0 : Stand p l e ({ frames := 1, cells := 2, slots := 68, locals := 14 } : Room) (s.setVm s.vm) m #[(.ref r0), (.int p1)] below meth c s₁ [] 0 0 := Stand.of_body Bd
  have e0 : s₁.heap = h0 := by rw [← hh, Bd.state]; rfl
  have N0 := Fr.nil n0
  have K0 := Keep.refl h0 [r0]
  have hS0 : s.Since s.vm 0 := (State.WarmedH.refl s).since 0
  have hk0 : 0 ≤ h0.size := Nat.zero_le _
  refine own_outW (Q := Q4 Z r0 p1 v0 v1 v2 v3 h0 n0) ?_
  refine own_in (ef_4 m r0 p1) ?_
  show own_Go _ _ _ _ s₁ (mkF m 0 #[.val (.ref r0), .val (.int p1)] [])
  refine own_st (fun t k => XS.aloadN X0.here hx rfl (hb hby d4_0) rfl rfl k) ?_
  show own_Go _ _ _ _ s₁ (mkF m 1 #[.val (.ref r0), .val (.int p1)] [(.ref r0)])
  obtain ⟨b1, T1, h1, k1, X1, e1, E1, hS1, hk1, hZ1, hown1, st1⟩ := ldcS X0 hx hZ hown (hw _ (List.mem_of_getElem? (i := 40) rfl)) (own_sA hw) e0 hS0 hk0 (g := (mkF m 1 #[.val (.ref r0), .val (.int p1)] [(.ref r0)])) rfl (hb hby d4_1) (n := 64) (by decide) (by decide) (by decide) (by decide)
  refine own_st st1 ?_
  show own_Go _ _ _ _ T1 (mkF m 3 #[.val (.ref r0), .val (.int p1)] [(.ref b1), (.ref r0)])
  refine own_st (fun t k => XS.iloadN X1.here hx rfl (hb hby d4_3) rfl k) ?_
  show own_Go _ _ _ _ T1 (mkF m 4 #[.val (.ref r0), .val (.int p1)] [(.int p1), (.ref b1), (.ref r0)])
  have K0_3 := (K0.ext E1)
  obtain ⟨_, _, ⟨T2, L2, k2, n2⟩, -, X2, ⟨Lc2, hQ2, l2, y2, z2⟩, st2⟩ := Jvm.LawKit.callS X1 hx (y := (⟨"com/example/hot_pool/hotpool/config/Settings", "requireNonNegative", "(Ljava/lang/String;I)I"⟩ : MethodName)) hown1 (mvT hZ1 (hw _ (List.mem_of_getElem? (i := 48) rfl))) (mvT hZ1 (hw _ (List.mem_of_getElem? (i := 49) rfl))) (mvT hZ1 (hw _ (List.mem_of_getElem? (i := 50) rfl))) (mvT hZ1 (hw _ (List.mem_of_getElem? (i := 51) rfl))) (by decide) (backOf (W := 1) (rm5 l Z a0 hw [] b1 p1  h1 n0 (Nat.le_trans Z0 K0_3.1) hpos) hZ1 (hw _ (List.mem_of_getElem? (i := 51) rfl)) (hw _ (List.mem_of_getElem? (i := 50) rfl)) (by decide) (by decide)) (g := (mkF m 4 #[.val (.ref r0), .val (.int p1)] [(.int p1), (.ref b1), (.ref r0)])) rfl (by rw [hml]; rfl) (argsL := [(.ref b1), (.int p1)]) (rest := [(.ref r0)]) (lenOf pd__28Ljava_2flang_2fString_3bI_29I rfl) rfl (by show 2 * 0 + _ ≤ _; exact Nat.le_of_eq rfl) (hb hby d4_4) (fun _ _ => ⟨rfl, e1, (by decide : 2 + 0 ≤ _), (by decide : 68 + 0 ≤ _)⟩)
  dsimp only [Pt.U, Pt.locs, Pt.cells, Pt.slots] at X2 l2 y2 z2 st2 hQ2
  subst l2 y2 z2
  obtain ⟨rfl, N2q, e2⟩ := hQ2
  obtain ⟨_, X2, N2⟩ := own_hide X2 (Fr.app N0 N2q)
  refine own_st st2 ?_
  show own_Go _ _ _ _ T2 (mkF m 7 #[.val (.ref r0), .val (.int p1)] [(.int p1), (.ref r0)])
  have F_maxConnectionAge_r0_4 := (F_maxConnectionAge_r0.ext E1)
  have E_r0_5 := (E_r0.ext E1)
  obtain ⟨T6, h6, X6, e6, W6, st6⟩ := putF X2 hx hZ1 hown1 (host := "") (Or.inl (hw _ (List.mem_of_getElem? (i := 52) rfl))) Via.refl e2 F_maxConnectionAge_r0_4 E_r0_5 (Or.inl (hw _ (List.mem_of_getElem? (i := 53) rfl))) (hw _ (List.mem_of_getElem? (i := 2) rfl)) (ty := .int) (by decide) rfl rfl (g := (mkF m 7 #[.val (.ref r0), .val (.int p1)] [(.int p1), (.ref r0)])) rfl rfl (hb hby d4_7)
  have F6 := F_maxConnectionAge_r0_4.same W6
  obtain ⟨_, X6, N6⟩ := own_hide X6 (Fr.snoc X6 N2 g_r0)
  refine own_st st6 ?_
  show own_Go _ _ _ _ T6 (mkF m 10 #[.val (.ref r0), .val (.int p1)] [])
  have K0_7 := (K0_3.wr W6 (Or.inl (List.mem_of_getElem? (i := 0) rfl)))
  have F_maxIdleTime_r0_8 := ((F_maxIdleTime_r0.ext E1).other W6 (Or.inr (slot_ne (Or.inl (hw _ (List.mem_of_getElem? (i := 61) rfl))) (Or.inl (hw _ (List.mem_of_getElem? (i := 53) rfl))) (by decide) (t := .int) (t' := .int) (by decide) (by decide))))
  have F_abandonedConnectionTimeout_r0_9 := ((F_abandonedConnectionTimeout_r0.ext E1).other W6 (Or.inr (slot_ne (Or.inl (hw _ (List.mem_of_getElem? (i := 32) rfl))) (Or.inl (hw _ (List.mem_of_getElem? (i := 53) rfl))) (by decide) (t := .int) (t' := .int) (by decide) (by decide))))
  have F_borrowTimeToLive_r0_10 := ((F_borrowTimeToLive_r0.ext E1).other W6 (Or.inr (slot_ne (Or.inl (hw _ (List.mem_of_getElem? (i := 34) rfl))) (Or.inl (hw _ (List.mem_of_getElem? (i := 53) rfl))) (by decide) (t := .int) (t' := .int) (by decide) (by decide))))
  have hk1_11 := (Nat.le_trans hk1 (Nat.le_of_eq W6.size.symm))
  exact own_retVW X6 hS1 (by rw [e6]; exact hk1_11) hx hlk hrt (hb hby d4_10) (by rw [e6]; exact ⟨rfl, N6, K0_7, F6, F_maxIdleTime_r0_8, F_abandonedConnectionTimeout_r0_9, F_borrowTimeToLive_r0_10⟩) (by decide) (by decide)
/-! body 6: PoolSettings.setMaxIdleTime -/
theorem d6_0 : decode prog_5_method_11_code 0 = .ok (.aload_n 0, 1) := by decide +kernel
theorem d6_1 : decode prog_5_method_11_code 1 = .ok (.ldc 54, 2) := by decide +kernel
theorem d6_3 : decode prog_5_method_11_code 3 = .ok (.iload_n 1, 1) := by decide +kernel
theorem d6_4 : decode prog_5_method_11_code 4 = .ok (.invokestatic 39, 3) := by decide +kernel
theorem d6_7 : decode prog_5_method_11_code 7 = .ok (.putfield 51, 3) := by decide +kernel
theorem d6_10 : decode prog_5_method_11_code 10 = .ok (.return_, 1) := by decide +kernel
theorem ef_6 (m : MethodId) (x0 : Addr) (x1 : Int32) : entryFrame m #[(.ref x0), (.int x1)] 2 = mkF m 0 #[.val (.ref x0), .val (.int x1)] [] := by first | (simp [entryFrame, mkF, argsToLocals, Value.category]; done) | rfl
def Q6 (Z : State) (r0 : Addr) (p1 : Int32) (v0 : Int32) (v1 : Int32) (v2 : Int32) (v3 : Int32) (h0 : Heap) (n0 : Nat) (v : Option Value) (h : Heap) (L : List Loc) : Prop := v = none ∧ Fr n0 L ∧ Keep h0 h [r0] ∧ Fld Z h r0 "com/example/hot_pool/hotpool/config/PoolSettings" "maxConnectionAge" "I" (.int v0) ∧ Fld Z h r0 "com/example/hot_pool/hotpool/config/PoolSettings" "maxIdleTime" "I" (.int p1) ∧ Fld Z h r0 "com/example/hot_pool/hotpool/config/PoolSettings" "abandonedConnectionTimeout" "I" (.int v2) ∧ Fld Z h r0 "com/example/hot_pool/hotpool/config/PoolSettings" "borrowTimeToLive" "I" (.int v3)
set_option maxRecDepth 65536 in
set_option maxHeartbeats 40000000 in
theorem rm6 (l : Launch) (Z : State) (a0 : Array Value) (hw : ∀ d ∈ tables_1, d.before a0 Z = true) (ws : List Jvm.Cond) (r0 : Addr) (p1 : Int32) (v0 : Int32) (v1 : Int32) (v2 : Int32) (v3 : Int32) (h0 : Heap) (n0 : Nat) (Z0 : n0 ≤ h0.size) (E_r0 : Exa Z h0 r0 "com/example/hot_pool/hotpool/config/PoolSettings") (F_maxConnectionAge_r0 : Fld Z h0 r0 "com/example/hot_pool/hotpool/config/PoolSettings" "maxConnectionAge" "I" (.int v0)) (F_maxIdleTime_r0 : Fld Z h0 r0 "com/example/hot_pool/hotpool/config/PoolSettings" "maxIdleTime" "I" (.int v1)) (F_abandonedConnectionTimeout_r0 : Fld Z h0 r0 "com/example/hot_pool/hotpool/config/PoolSettings" "abandonedConnectionTimeout" "I" (.int v2)) (F_borrowTimeToLive_r0 : Fld Z h0 r0 "com/example/hot_pool/hotpool/config/PoolSettings" "borrowTimeToLive" "I" (.int v3)) (g_r0 : n0 ≤ r0) (hpos : ¬ (p1 < (0 : Int32))) :
    MetFree l (⟨"com/example/hot_pool/hotpool/config/PoolSettings", "setMaxIdleTime", "(I)V"⟩ : MethodName) (head1 (Jvm.Cond.code (⟨"com/example/hot_pool/hotpool/config/PoolSettings", "setMaxIdleTime", "(I)V"⟩ : MethodName) prog_5_method_11_code 2 none :: ws) ({ frames := 1, cells := 2, slots := 48, locals := 14 } : Room)) (fun a U => a = #[(.ref r0), (.int p1)] ∧ Z.Warmed39 U.vm ∧ U.heap = h0) (fun _ _ _ _ _ => True) (fun _ U o U' => ∃ v L, o = .returned v ∧ Q6 Z r0 p1 v0 v1 v2 v3 h0 n0 v U'.heap L ∧ ReturnedEndW U o U' L ({ frames := 1, cells := 2, slots := 48, locals := 14 } : Room).cells ({ frames := 1, cells := 2, slots := 48, locals := 14 } : Room).slots) := by
  refine MetFree.of_bodySF (plainFor_of_name pn_com_example_hot_pool_hotpool_config_PoolSettings) hisR ?_
  intro p e s m args below meth c s₁ Bd hml0 hP hK
  obtain ⟨rfl, hZ, hh⟩ := hP
  have hx := Bd.exec
  have hby := Bd.bytes
  have hlk := Bd.notSynchronized
  have hrt := Bd.returns
  have hml : c.maxLocals = 2 := hml0
  have hown : s.vm.findClass "com/example/hot_pool/hotpool/config/PoolSettings" = some m.cls := findClass_of_methodNamed Bd.named
  have hnm := (name_of_methodNamed Bd.named Bd.method).1
  have X0 : Stand p l e ({ frames := 1, cells := 2, slots := 48, locals := 14 } : Room) (s.setVm s.vm) m #[(.ref r0), (.int p1)] below meth c s₁ [] 0 0 := Stand.of_body Bd
  have e0 : s₁.heap = h0 := by rw [← hh, Bd.state]; rfl
  have N0 := Fr.nil n0
  have K0 := Keep.refl h0 [r0]
  have hS0 : s.Since s.vm 0 := (State.WarmedH.refl s).since 0
  have hk0 : 0 ≤ h0.size := Nat.zero_le _
  refine own_outW (Q := Q6 Z r0 p1 v0 v1 v2 v3 h0 n0) ?_
  refine own_in (ef_6 m r0 p1) ?_
  show own_Go _ _ _ _ s₁ (mkF m 0 #[.val (.ref r0), .val (.int p1)] [])
  refine own_st (fun t k => XS.aloadN X0.here hx rfl (hb hby d6_0) rfl rfl k) ?_
  show own_Go _ _ _ _ s₁ (mkF m 1 #[.val (.ref r0), .val (.int p1)] [(.ref r0)])
  obtain ⟨b1, T1, h1, k1, X1, e1, E1, hS1, hk1, hZ1, hown1, st1⟩ := ldcS X0 hx hZ hown (hw _ (List.mem_of_getElem? (i := 59) rfl)) (own_sA hw) e0 hS0 hk0 (g := (mkF m 1 #[.val (.ref r0), .val (.int p1)] [(.ref r0)])) rfl (hb hby d6_1) (n := 44) (by decide) (by decide) (by decide) (by decide)
  refine own_st st1 ?_
  show own_Go _ _ _ _ T1 (mkF m 3 #[.val (.ref r0), .val (.int p1)] [(.ref b1), (.ref r0)])
  refine own_st (fun t k => XS.iloadN X1.here hx rfl (hb hby d6_3) rfl k) ?_
  show own_Go _ _ _ _ T1 (mkF m 4 #[.val (.ref r0), .val (.int p1)] [(.int p1), (.ref b1), (.ref r0)])
  have K0_3 := (K0.ext E1)
  obtain ⟨_, _, ⟨T2, L2, k2, n2⟩, -, X2, ⟨Lc2, hQ2, l2, y2, z2⟩, st2⟩ := Jvm.LawKit.callS X1 hx (y := (⟨"com/example/hot_pool/hotpool/config/Settings", "requireNonNegative", "(Ljava/lang/String;I)I"⟩ : MethodName)) hown1 (mvT hZ1 (hw _ (List.mem_of_getElem? (i := 48) rfl))) (mvT hZ1 (hw _ (List.mem_of_getElem? (i := 49) rfl))) (mvT hZ1 (hw _ (List.mem_of_getElem? (i := 50) rfl))) (mvT hZ1 (hw _ (List.mem_of_getElem? (i := 51) rfl))) (by decide) (backOf (W := 1) (rm5 l Z a0 hw [] b1 p1  h1 n0 (Nat.le_trans Z0 K0_3.1) hpos) hZ1 (hw _ (List.mem_of_getElem? (i := 51) rfl)) (hw _ (List.mem_of_getElem? (i := 50) rfl)) (by decide) (by decide)) (g := (mkF m 4 #[.val (.ref r0), .val (.int p1)] [(.int p1), (.ref b1), (.ref r0)])) rfl (by rw [hml]; rfl) (argsL := [(.ref b1), (.int p1)]) (rest := [(.ref r0)]) (lenOf pd__28Ljava_2flang_2fString_3bI_29I rfl) rfl (by show 2 * 0 + _ ≤ _; exact Nat.le_of_eq rfl) (hb hby d6_4) (fun _ _ => ⟨rfl, e1, (by decide : 2 + 0 ≤ _), (by decide : 48 + 0 ≤ _)⟩)
  dsimp only [Pt.U, Pt.locs, Pt.cells, Pt.slots] at X2 l2 y2 z2 st2 hQ2
  subst l2 y2 z2
  obtain ⟨rfl, N2q, e2⟩ := hQ2
  obtain ⟨_, X2, N2⟩ := own_hide X2 (Fr.app N0 N2q)
  refine own_st st2 ?_
  show own_Go _ _ _ _ T2 (mkF m 7 #[.val (.ref r0), .val (.int p1)] [(.int p1), (.ref r0)])
  have F_maxIdleTime_r0_4 := (F_maxIdleTime_r0.ext E1)
  have E_r0_5 := (E_r0.ext E1)
  obtain ⟨T6, h6, X6, e6, W6, st6⟩ := putF X2 hx hZ1 hown1 (host := "") (Or.inl (hw _ (List.mem_of_getElem? (i := 60) rfl))) Via.refl e2 F_maxIdleTime_r0_4 E_r0_5 (Or.inl (hw _ (List.mem_of_getElem? (i := 61) rfl))) (hw _ (List.mem_of_getElem? (i := 2) rfl)) (ty := .int) (by decide) rfl rfl (g := (mkF m 7 #[.val (.ref r0), .val (.int p1)] [(.int p1), (.ref r0)])) rfl rfl (hb hby d6_7)
  have F6 := F_maxIdleTime_r0_4.same W6
  obtain ⟨_, X6, N6⟩ := own_hide X6 (Fr.snoc X6 N2 g_r0)
  refine own_st st6 ?_
  show own_Go _ _ _ _ T6 (mkF m 10 #[.val (.ref r0), .val (.int p1)] [])
  have K0_7 := (K0_3.wr W6 (Or.inl (List.mem_of_getElem? (i := 0) rfl)))
  have F_maxConnectionAge_r0_8 := ((F_maxConnectionAge_r0.ext E1).other W6 (Or.inr (slot_ne (Or.inl (hw _ (List.mem_of_getElem? (i := 53) rfl))) (Or.inl (hw _ (List.mem_of_getElem? (i := 61) rfl))) (by decide) (t := .int) (t' := .int) (by decide) (by decide))))
  have F_abandonedConnectionTimeout_r0_9 := ((F_abandonedConnectionTimeout_r0.ext E1).other W6 (Or.inr (slot_ne (Or.inl (hw _ (List.mem_of_getElem? (i := 32) rfl))) (Or.inl (hw _ (List.mem_of_getElem? (i := 61) rfl))) (by decide) (t := .int) (t' := .int) (by decide) (by decide))))
  have F_borrowTimeToLive_r0_10 := ((F_borrowTimeToLive_r0.ext E1).other W6 (Or.inr (slot_ne (Or.inl (hw _ (List.mem_of_getElem? (i := 34) rfl))) (Or.inl (hw _ (List.mem_of_getElem? (i := 61) rfl))) (by decide) (t := .int) (t' := .int) (by decide) (by decide))))
  have hk1_11 := (Nat.le_trans hk1 (Nat.le_of_eq W6.size.symm))
  exact own_retVW X6 hS1 (by rw [e6]; exact hk1_11) hx hlk hrt (hb hby d6_10) (by rw [e6]; exact ⟨rfl, N6, K0_7, F_maxConnectionAge_r0_8, F6, F_abandonedConnectionTimeout_r0_9, F_borrowTimeToLive_r0_10⟩) (by decide) (by decide)
/-! body 7: PoolSettings.setAbandonedConnectionTimeout -/
theorem d7_0 : decode prog_5_method_31_code 0 = .ok (.aload_n 0, 1) := by decide +kernel
theorem d7_1 : decode prog_5_method_31_code 1 = .ok (.ldc 85, 2) := by decide +kernel
theorem d7_3 : decode prog_5_method_31_code 3 = .ok (.iload_n 1, 1) := by decide +kernel
theorem d7_4 : decode prog_5_method_31_code 4 = .ok (.invokestatic 39, 3) := by decide +kernel
theorem d7_7 : decode prog_5_method_31_code 7 = .ok (.putfield 82, 3) := by decide +kernel
theorem d7_10 : decode prog_5_method_31_code 10 = .ok (.return_, 1) := by decide +kernel
theorem ef_7 (m : MethodId) (x0 : Addr) (x1 : Int32) : entryFrame m #[(.ref x0), (.int x1)] 2 = mkF m 0 #[.val (.ref x0), .val (.int x1)] [] := by first | (simp [entryFrame, mkF, argsToLocals, Value.category]; done) | rfl
def Q7 (Z : State) (r0 : Addr) (p1 : Int32) (v0 : Int32) (v1 : Int32) (v2 : Int32) (v3 : Int32) (h0 : Heap) (n0 : Nat) (v : Option Value) (h : Heap) (L : List Loc) : Prop := v = none ∧ Fr n0 L ∧ Keep h0 h [r0] ∧ Fld Z h r0 "com/example/hot_pool/hotpool/config/PoolSettings" "maxConnectionAge" "I" (.int v0) ∧ Fld Z h r0 "com/example/hot_pool/hotpool/config/PoolSettings" "maxIdleTime" "I" (.int v1) ∧ Fld Z h r0 "com/example/hot_pool/hotpool/config/PoolSettings" "abandonedConnectionTimeout" "I" (.int p1) ∧ Fld Z h r0 "com/example/hot_pool/hotpool/config/PoolSettings" "borrowTimeToLive" "I" (.int v3)
set_option maxRecDepth 65536 in
set_option maxHeartbeats 40000000 in
theorem rm7 (l : Launch) (Z : State) (a0 : Array Value) (hw : ∀ d ∈ tables_1, d.before a0 Z = true) (ws : List Jvm.Cond) (r0 : Addr) (p1 : Int32) (v0 : Int32) (v1 : Int32) (v2 : Int32) (v3 : Int32) (h0 : Heap) (n0 : Nat) (Z0 : n0 ≤ h0.size) (E_r0 : Exa Z h0 r0 "com/example/hot_pool/hotpool/config/PoolSettings") (F_maxConnectionAge_r0 : Fld Z h0 r0 "com/example/hot_pool/hotpool/config/PoolSettings" "maxConnectionAge" "I" (.int v0)) (F_maxIdleTime_r0 : Fld Z h0 r0 "com/example/hot_pool/hotpool/config/PoolSettings" "maxIdleTime" "I" (.int v1)) (F_abandonedConnectionTimeout_r0 : Fld Z h0 r0 "com/example/hot_pool/hotpool/config/PoolSettings" "abandonedConnectionTimeout" "I" (.int v2)) (F_borrowTimeToLive_r0 : Fld Z h0 r0 "com/example/hot_pool/hotpool/config/PoolSettings" "borrowTimeToLive" "I" (.int v3)) (g_r0 : n0 ≤ r0) (hpos : ¬ (p1 < (0 : Int32))) :
    MetFree l (⟨"com/example/hot_pool/hotpool/config/PoolSettings", "setAbandonedConnectionTimeout", "(I)V"⟩ : MethodName) (head1 (Jvm.Cond.code (⟨"com/example/hot_pool/hotpool/config/PoolSettings", "setAbandonedConnectionTimeout", "(I)V"⟩ : MethodName) prog_5_method_31_code 2 none :: ws) ({ frames := 1, cells := 2, slots := 108, locals := 14 } : Room)) (fun a U => a = #[(.ref r0), (.int p1)] ∧ Z.Warmed39 U.vm ∧ U.heap = h0) (fun _ _ _ _ _ => True) (fun _ U o U' => ∃ v L, o = .returned v ∧ Q7 Z r0 p1 v0 v1 v2 v3 h0 n0 v U'.heap L ∧ ReturnedEndW U o U' L ({ frames := 1, cells := 2, slots := 108, locals := 14 } : Room).cells ({ frames := 1, cells := 2, slots := 108, locals := 14 } : Room).slots) := by
  refine MetFree.of_bodySF (plainFor_of_name pn_com_example_hot_pool_hotpool_config_PoolSettings) hisR ?_
  intro p e s m args below meth c s₁ Bd hml0 hP hK
  obtain ⟨rfl, hZ, hh⟩ := hP
  have hx := Bd.exec
  have hby := Bd.bytes
  have hlk := Bd.notSynchronized
  have hrt := Bd.returns
  have hml : c.maxLocals = 2 := hml0
  have hown : s.vm.findClass "com/example/hot_pool/hotpool/config/PoolSettings" = some m.cls := findClass_of_methodNamed Bd.named
  have hnm := (name_of_methodNamed Bd.named Bd.method).1
  have X0 : Stand p l e ({ frames := 1, cells := 2, slots := 108, locals := 14 } : Room) (s.setVm s.vm) m #[(.ref r0), (.int p1)] below meth c s₁ [] 0 0 := Stand.of_body Bd
  have e0 : s₁.heap = h0 := by rw [← hh, Bd.state]; rfl
  have N0 := Fr.nil n0
  have K0 := Keep.refl h0 [r0]
  have hS0 : s.Since s.vm 0 := (State.WarmedH.refl s).since 0
  have hk0 : 0 ≤ h0.size := Nat.zero_le _
  refine own_outW (Q := Q7 Z r0 p1 v0 v1 v2 v3 h0 n0) ?_
  refine own_in (ef_7 m r0 p1) ?_
  show own_Go _ _ _ _ s₁ (mkF m 0 #[.val (.ref r0), .val (.int p1)] [])
  refine own_st (fun t k => XS.aloadN X0.here hx rfl (hb hby d7_0) rfl rfl k) ?_
  show own_Go _ _ _ _ s₁ (mkF m 1 #[.val (.ref r0), .val (.int p1)] [(.ref r0)])
  obtain ⟨b1, T1, h1, k1, X1, e1, E1, hS1, hk1, hZ1, hown1, st1⟩ := ldcS X0 hx hZ hown (hw _ (List.mem_of_getElem? (i := 67) rfl)) (own_sA hw) e0 hS0 hk0 (g := (mkF m 1 #[.val (.ref r0), .val (.int p1)] [(.ref r0)])) rfl (hb hby d7_1) (n := 104) (by decide) (by decide) (by decide) (by decide)
  refine own_st st1 ?_
  show own_Go _ _ _ _ T1 (mkF m 3 #[.val (.ref r0), .val (.int p1)] [(.ref b1), (.ref r0)])
  refine own_st (fun t k => XS.iloadN X1.here hx rfl (hb hby d7_3) rfl k) ?_
  show own_Go _ _ _ _ T1 (mkF m 4 #[.val (.ref r0), .val (.int p1)] [(.int p1), (.ref b1), (.ref r0)])
  have K0_3 := (K0.ext E1)
  obtain ⟨_, _, ⟨T2, L2, k2, n2⟩, -, X2, ⟨Lc2, hQ2, l2, y2, z2⟩, st2⟩ := Jvm.LawKit.callS X1 hx (y := (⟨"com/example/hot_pool/hotpool/config/Settings", "requireNonNegative", "(Ljava/lang/String;I)I"⟩ : MethodName)) hown1 (mvT hZ1 (hw _ (List.mem_of_getElem? (i := 48) rfl))) (mvT hZ1 (hw _ (List.mem_of_getElem? (i := 49) rfl))) (mvT hZ1 (hw _ (List.mem_of_getElem? (i := 50) rfl))) (mvT hZ1 (hw _ (List.mem_of_getElem? (i := 51) rfl))) (by decide) (backOf (W := 1) (rm5 l Z a0 hw [] b1 p1  h1 n0 (Nat.le_trans Z0 K0_3.1) hpos) hZ1 (hw _ (List.mem_of_getElem? (i := 51) rfl)) (hw _ (List.mem_of_getElem? (i := 50) rfl)) (by decide) (by decide)) (g := (mkF m 4 #[.val (.ref r0), .val (.int p1)] [(.int p1), (.ref b1), (.ref r0)])) rfl (by rw [hml]; rfl) (argsL := [(.ref b1), (.int p1)]) (rest := [(.ref r0)]) (lenOf pd__28Ljava_2flang_2fString_3bI_29I rfl) rfl (by show 2 * 0 + _ ≤ _; exact Nat.le_of_eq rfl) (hb hby d7_4) (fun _ _ => ⟨rfl, e1, (by decide : 2 + 0 ≤ _), (by decide : 108 + 0 ≤ _)⟩)
  dsimp only [Pt.U, Pt.locs, Pt.cells, Pt.slots] at X2 l2 y2 z2 st2 hQ2
  subst l2 y2 z2
  obtain ⟨rfl, N2q, e2⟩ := hQ2
  obtain ⟨_, X2, N2⟩ := own_hide X2 (Fr.app N0 N2q)
  refine own_st st2 ?_
  show own_Go _ _ _ _ T2 (mkF m 7 #[.val (.ref r0), .val (.int p1)] [(.int p1), (.ref r0)])
  have F_abandonedConnectionTimeout_r0_4 := (F_abandonedConnectionTimeout_r0.ext E1)
  have E_r0_5 := (E_r0.ext E1)
  obtain ⟨T6, h6, X6, e6, W6, st6⟩ := putF X2 hx hZ1 hown1 (host := "") (Or.inl (hw _ (List.mem_of_getElem? (i := 31) rfl))) Via.refl e2 F_abandonedConnectionTimeout_r0_4 E_r0_5 (Or.inl (hw _ (List.mem_of_getElem? (i := 32) rfl))) (hw _ (List.mem_of_getElem? (i := 2) rfl)) (ty := .int) (by decide) rfl rfl (g := (mkF m 7 #[.val (.ref r0), .val (.int p1)] [(.int p1), (.ref r0)])) rfl rfl (hb hby d7_7)
  have F6 := F_abandonedConnectionTimeout_r0_4.same W6
  obtain ⟨_, X6, N6⟩ := own_hide X6 (Fr.snoc X6 N2 g_r0)
  refine own_st st6 ?_
  show own_Go _ _ _ _ T6 (mkF m 10 #[.val (.ref r0), .val (.int p1)] [])
  have K0_7 := (K0_3.wr W6 (Or.inl (List.mem_of_getElem? (i := 0) rfl)))
  have F_maxConnectionAge_r0_8 := ((F_maxConnectionAge_r0.ext E1).other W6 (Or.inr (slot_ne (Or.inl (hw _ (List.mem_of_getElem? (i := 53) rfl))) (Or.inl (hw _ (List.mem_of_getElem? (i := 32) rfl))) (by decide) (t := .int) (t' := .int) (by decide) (by decide))))
  have F_maxIdleTime_r0_9 := ((F_maxIdleTime_r0.ext E1).other W6 (Or.inr (slot_ne (Or.inl (hw _ (List.mem_of_getElem? (i := 61) rfl))) (Or.inl (hw _ (List.mem_of_getElem? (i := 32) rfl))) (by decide) (t := .int) (t' := .int) (by decide) (by decide))))
  have F_borrowTimeToLive_r0_10 := ((F_borrowTimeToLive_r0.ext E1).other W6 (Or.inr (slot_ne (Or.inl (hw _ (List.mem_of_getElem? (i := 34) rfl))) (Or.inl (hw _ (List.mem_of_getElem? (i := 32) rfl))) (by decide) (t := .int) (t' := .int) (by decide) (by decide))))
  have hk1_11 := (Nat.le_trans hk1 (Nat.le_of_eq W6.size.symm))
  exact own_retVW X6 hS1 (by rw [e6]; exact hk1_11) hx hlk hrt (hb hby d7_10) (by rw [e6]; exact ⟨rfl, N6, K0_7, F_maxConnectionAge_r0_8, F_maxIdleTime_r0_9, F6, F_borrowTimeToLive_r0_10⟩) (by decide) (by decide)
/-! body 8: PoolSettings.setBorrowTimeToLive -/
theorem d8_0 : decode prog_5_method_33_code 0 = .ok (.aload_n 0, 1) := by decide +kernel
theorem d8_1 : decode prog_5_method_33_code 1 = .ok (.ldc 89, 2) := by decide +kernel
theorem d8_3 : decode prog_5_method_33_code 3 = .ok (.iload_n 1, 1) := by decide +kernel
theorem d8_4 : decode prog_5_method_33_code 4 = .ok (.invokestatic 39, 3) := by decide +kernel
theorem d8_7 : decode prog_5_method_33_code 7 = .ok (.putfield 86, 3) := by decide +kernel
theorem d8_10 : decode prog_5_method_33_code 10 = .ok (.return_, 1) := by decide +kernel
theorem ef_8 (m : MethodId) (x0 : Addr) (x1 : Int32) : entryFrame m #[(.ref x0), (.int x1)] 2 = mkF m 0 #[.val (.ref x0), .val (.int x1)] [] := by first | (simp [entryFrame, mkF, argsToLocals, Value.category]; done) | rfl
def Q8 (Z : State) (r0 : Addr) (p1 : Int32) (v0 : Int32) (v1 : Int32) (v2 : Int32) (v3 : Int32) (h0 : Heap) (n0 : Nat) (v : Option Value) (h : Heap) (L : List Loc) : Prop := v = none ∧ Fr n0 L ∧ Keep h0 h [r0] ∧ Fld Z h r0 "com/example/hot_pool/hotpool/config/PoolSettings" "maxConnectionAge" "I" (.int v0) ∧ Fld Z h r0 "com/example/hot_pool/hotpool/config/PoolSettings" "maxIdleTime" "I" (.int v1) ∧ Fld Z h r0 "com/example/hot_pool/hotpool/config/PoolSettings" "abandonedConnectionTimeout" "I" (.int v2) ∧ Fld Z h r0 "com/example/hot_pool/hotpool/config/PoolSettings" "borrowTimeToLive" "I" (.int p1)
set_option maxRecDepth 65536 in
set_option maxHeartbeats 40000000 in
theorem rm8 (l : Launch) (Z : State) (a0 : Array Value) (hw : ∀ d ∈ tables_1, d.before a0 Z = true) (ws : List Jvm.Cond) (r0 : Addr) (p1 : Int32) (v0 : Int32) (v1 : Int32) (v2 : Int32) (v3 : Int32) (h0 : Heap) (n0 : Nat) (Z0 : n0 ≤ h0.size) (E_r0 : Exa Z h0 r0 "com/example/hot_pool/hotpool/config/PoolSettings") (F_maxConnectionAge_r0 : Fld Z h0 r0 "com/example/hot_pool/hotpool/config/PoolSettings" "maxConnectionAge" "I" (.int v0)) (F_maxIdleTime_r0 : Fld Z h0 r0 "com/example/hot_pool/hotpool/config/PoolSettings" "maxIdleTime" "I" (.int v1)) (F_abandonedConnectionTimeout_r0 : Fld Z h0 r0 "com/example/hot_pool/hotpool/config/PoolSettings" "abandonedConnectionTimeout" "I" (.int v2)) (F_borrowTimeToLive_r0 : Fld Z h0 r0 "com/example/hot_pool/hotpool/config/PoolSettings" "borrowTimeToLive" "I" (.int v3)) (g_r0 : n0 ≤ r0) (hpos : ¬ (p1 < (0 : Int32))) :
    MetFree l (⟨"com/example/hot_pool/hotpool/config/PoolSettings", "setBorrowTimeToLive", "(I)V"⟩ : MethodName) (head1 (Jvm.Cond.code (⟨"com/example/hot_pool/hotpool/config/PoolSettings", "setBorrowTimeToLive", "(I)V"⟩ : MethodName) prog_5_method_33_code 2 none :: ws) ({ frames := 1, cells := 2, slots := 68, locals := 14 } : Room)) (fun a U => a = #[(.ref r0), (.int p1)] ∧ Z.Warmed39 U.vm ∧ U.heap = h0) (fun _ _ _ _ _ => True) (fun _ U o U' => ∃ v L, o = .returned v ∧ Q8 Z r0 p1 v0 v1 v2 v3 h0 n0 v U'.heap L ∧ ReturnedEndW U o U' L ({ frames := 1, cells := 2, slots := 68, locals := 14 } : Room).cells ({ frames := 1, cells := 2, slots := 68, locals := 14 } : Room).slots) := by
  refine MetFree.of_bodySF (plainFor_of_name pn_com_example_hot_pool_hotpool_config_PoolSettings) hisR ?_
  intro p e s m args below meth c s₁ Bd hml0 hP hK
  obtain ⟨rfl, hZ, hh⟩ := hP
  have hx := Bd.exec
  have hby := Bd.bytes
  have hlk := Bd.notSynchronized
  have hrt := Bd.returns
  have hml : c.maxLocals = 2 := hml0
  have hown : s.vm.findClass "com/example/hot_pool/hotpool/config/PoolSettings" = some m.cls := findClass_of_methodNamed Bd.named
  have hnm := (name_of_methodNamed Bd.named Bd.method).1
  have X0 : Stand p l e ({ frames := 1, cells := 2, slots := 68, locals := 14 } : Room) (s.setVm s.vm) m #[(.ref r0), (.int p1)] below meth c s₁ [] 0 0 := Stand.of_body Bd
  have e0 : s₁.heap = h0 := by rw [← hh, Bd.state]; rfl
  have N0 := Fr.nil n0
  have K0 := Keep.refl h0 [r0]
  have hS0 : s.Since s.vm 0 := (State.WarmedH.refl s).since 0
  have hk0 : 0 ≤ h0.size := Nat.zero_le _
  refine own_outW (Q := Q8 Z r0 p1 v0 v1 v2 v3 h0 n0) ?_
  refine own_in (ef_8 m r0 p1) ?_
  show own_Go _ _ _ _ s₁ (mkF m 0 #[.val (.ref r0), .val (.int p1)] [])
  refine own_st (fun t k => XS.aloadN X0.here hx rfl (hb hby d8_0) rfl rfl k) ?_
  show own_Go _ _ _ _ s₁ (mkF m 1 #[.val (.ref r0), .val (.int p1)] [(.ref r0)])
  obtain ⟨b1, T1, h1, k1, X1, e1, E1, hS1, hk1, hZ1, hown1, st1⟩ := ldcS X0 hx hZ hown (hw _ (List.mem_of_getElem? (i := 73) rfl)) (own_sA hw) e0 hS0 hk0 (g := (mkF m 1 #[.val (.ref r0), .val (.int p1)] [(.ref r0)])) rfl (hb hby d8_1) (n := 64) (by decide) (by decide) (by decide) (by decide)
  refine own_st st1 ?_
  show own_Go _ _ _ _ T1 (mkF m 3 #[.val (.ref r0), .val (.int p1)] [(.ref b1), (.ref r0)])
  refine own_st (fun t k => XS.iloadN X1.here hx rfl (hb hby d8_3) rfl k) ?_
  show own_Go _ _ _ _ T1 (mkF m 4 #[.val (.ref r0), .val (.int p1)] [(.int p1), (.ref b1), (.ref r0)])
  have K0_3 := (K0.ext E1)
  obtain ⟨_, _, ⟨T2, L2, k2, n2⟩, -, X2, ⟨Lc2, hQ2, l2, y2, z2⟩, st2⟩ := Jvm.LawKit.callS X1 hx (y := (⟨"com/example/hot_pool/hotpool/config/Settings", "requireNonNegative", "(Ljava/lang/String;I)I"⟩ : MethodName)) hown1 (mvT hZ1 (hw _ (List.mem_of_getElem? (i := 48) rfl))) (mvT hZ1 (hw _ (List.mem_of_getElem? (i := 49) rfl))) (mvT hZ1 (hw _ (List.mem_of_getElem? (i := 50) rfl))) (mvT hZ1 (hw _ (List.mem_of_getElem? (i := 51) rfl))) (by decide) (backOf (W := 1) (rm5 l Z a0 hw [] b1 p1  h1 n0 (Nat.le_trans Z0 K0_3.1) hpos) hZ1 (hw _ (List.mem_of_getElem? (i := 51) rfl)) (hw _ (List.mem_of_getElem? (i := 50) rfl)) (by decide) (by decide)) (g := (mkF m 4 #[.val (.ref r0), .val (.int p1)] [(.int p1), (.ref b1), (.ref r0)])) rfl (by rw [hml]; rfl) (argsL := [(.ref b1), (.int p1)]) (rest := [(.ref r0)]) (lenOf pd__28Ljava_2flang_2fString_3bI_29I rfl) rfl (by show 2 * 0 + _ ≤ _; exact Nat.le_of_eq rfl) (hb hby d8_4) (fun _ _ => ⟨rfl, e1, (by decide : 2 + 0 ≤ _), (by decide : 68 + 0 ≤ _)⟩)
  dsimp only [Pt.U, Pt.locs, Pt.cells, Pt.slots] at X2 l2 y2 z2 st2 hQ2
  subst l2 y2 z2
  obtain ⟨rfl, N2q, e2⟩ := hQ2
  obtain ⟨_, X2, N2⟩ := own_hide X2 (Fr.app N0 N2q)
  refine own_st st2 ?_
  show own_Go _ _ _ _ T2 (mkF m 7 #[.val (.ref r0), .val (.int p1)] [(.int p1), (.ref r0)])
  have F_borrowTimeToLive_r0_4 := (F_borrowTimeToLive_r0.ext E1)
  have E_r0_5 := (E_r0.ext E1)
  obtain ⟨T6, h6, X6, e6, W6, st6⟩ := putF X2 hx hZ1 hown1 (host := "") (Or.inl (hw _ (List.mem_of_getElem? (i := 33) rfl))) Via.refl e2 F_borrowTimeToLive_r0_4 E_r0_5 (Or.inl (hw _ (List.mem_of_getElem? (i := 34) rfl))) (hw _ (List.mem_of_getElem? (i := 2) rfl)) (ty := .int) (by decide) rfl rfl (g := (mkF m 7 #[.val (.ref r0), .val (.int p1)] [(.int p1), (.ref r0)])) rfl rfl (hb hby d8_7)
  have F6 := F_borrowTimeToLive_r0_4.same W6
  obtain ⟨_, X6, N6⟩ := own_hide X6 (Fr.snoc X6 N2 g_r0)
  refine own_st st6 ?_
  show own_Go _ _ _ _ T6 (mkF m 10 #[.val (.ref r0), .val (.int p1)] [])
  have K0_7 := (K0_3.wr W6 (Or.inl (List.mem_of_getElem? (i := 0) rfl)))
  have F_maxConnectionAge_r0_8 := ((F_maxConnectionAge_r0.ext E1).other W6 (Or.inr (slot_ne (Or.inl (hw _ (List.mem_of_getElem? (i := 53) rfl))) (Or.inl (hw _ (List.mem_of_getElem? (i := 34) rfl))) (by decide) (t := .int) (t' := .int) (by decide) (by decide))))
  have F_maxIdleTime_r0_9 := ((F_maxIdleTime_r0.ext E1).other W6 (Or.inr (slot_ne (Or.inl (hw _ (List.mem_of_getElem? (i := 61) rfl))) (Or.inl (hw _ (List.mem_of_getElem? (i := 34) rfl))) (by decide) (t := .int) (t' := .int) (by decide) (by decide))))
  have F_abandonedConnectionTimeout_r0_10 := ((F_abandonedConnectionTimeout_r0.ext E1).other W6 (Or.inr (slot_ne (Or.inl (hw _ (List.mem_of_getElem? (i := 32) rfl))) (Or.inl (hw _ (List.mem_of_getElem? (i := 34) rfl))) (by decide) (t := .int) (t' := .int) (by decide) (by decide))))
  have hk1_11 := (Nat.le_trans hk1 (Nat.le_of_eq W6.size.symm))
  exact own_retVW X6 hS1 (by rw [e6]; exact hk1_11) hx hlk hrt (hb hby d8_10) (by rw [e6]; exact ⟨rfl, N6, K0_7, F_maxConnectionAge_r0_8, F_maxIdleTime_r0_9, F_abandonedConnectionTimeout_r0_10, F6⟩) (by decide) (by decide)
/-! body 3: PoolSettings.isReclaiming -/
theorem d3_0 : decode prog_5_method_49_code 0 = .ok (.aload_n 0, 1) := by decide +kernel
theorem d3_1 : decode prog_5_method_49_code 1 = .ok (.getfield 82, 3) := by decide +kernel
theorem d3_4 : decode prog_5_method_49_code 4 = .ok (.ifCond .gt 10, 3) := by decide +kernel
theorem d3_7 : decode prog_5_method_49_code 7 = .ok (.aload_n 0, 1) := by decide +kernel
theorem d3_8 : decode prog_5_method_49_code 8 = .ok (.getfield 86, 3) := by decide +kernel
theorem d3_11 : decode prog_5_method_49_code 11 = .ok (.ifCond .le 7, 3) := by decide +kernel
theorem d3_14 : decode prog_5_method_49_code 14 = .ok (.iconst 1, 1) := by decide +kernel
theorem d3_15 : decode prog_5_method_49_code 15 = .ok (.goto 4, 3) := by decide +kernel
theorem d3_18 : decode prog_5_method_49_code 18 = .ok (.iconst 0, 1) := by decide +kernel
theorem d3_19 : decode prog_5_method_49_code 19 = .ok (.ireturn, 1) := by decide +kernel
theorem ef_3 (m : MethodId) (x0 : Addr) : entryFrame m #[(.ref x0)] 1 = mkF m 0 #[.val (.ref x0)] [] := by first | (simp [entryFrame, mkF, argsToLocals, Value.category]; done) | rfl
def own_r (ab : Int32) (bo : Int32) : Int32 := (if (0 : Int32) < ab then (1 : Int32) else (if (0 : Int32) < bo then (1 : Int32) else (0 : Int32)))
def Q3 (Z : State) (r0 : Addr) (ab : Int32) (bo : Int32) (h0 : Heap) (n0 : Nat) (v : Option Value) (h : Heap) (L : List Loc) : Prop := v = some (.int (own_r ab bo)) ∧ Fr n0 L ∧ h = h0
set_option maxRecDepth 65536 in
set_option maxHeartbeats 40000000 in
theorem rm3 (l : Launch) (Z : State) (a0 : Array Value) (hw : ∀ d ∈ tables_1, d.before a0 Z = true) (ws : List Jvm.Cond) (r0 : Addr) (ab : Int32) (bo : Int32) (h0 : Heap) (n0 : Nat) (Z0 : n0 ≤ h0.size) (F_abandonedConnectionTimeout_r0 : Fld Z h0 r0 "com/example/hot_pool/hotpool/config/PoolSettings" "abandonedConnectionTimeout" "I" (.int ab)) (F_borrowTimeToLive_r0 : Fld Z h0 r0 "com/example/hot_pool/hotpool/config/PoolSettings" "borrowTimeToLive" "I" (.int bo)) :
    MetFree l (⟨"com/example/hot_pool/hotpool/config/PoolSettings", "isReclaiming", "()Z"⟩ : MethodName) (head1 (Jvm.Cond.code (⟨"com/example/hot_pool/hotpool/config/PoolSettings", "isReclaiming", "()Z"⟩ : MethodName) prog_5_method_49_code 1 (some .boolean) :: ws) ({ frames := 0, cells := 0, slots := 0, locals := 0 } : Room)) (fun a U => a = #[(.ref r0)] ∧ Z.Warmed39 U.vm ∧ U.heap = h0) (fun _ _ _ _ _ => True) (fun _ U o U' => ∃ v L, o = .returned v ∧ Q3 Z r0 ab bo h0 n0 v U'.heap L ∧ FrameEnd U o U' L ({ frames := 0, cells := 0, slots := 0, locals := 0 } : Room).cells ({ frames := 0, cells := 0, slots := 0, locals := 0 } : Room).slots) := by
  refine MetFree.of_bodySF (plainFor_of_name pn_com_example_hot_pool_hotpool_config_PoolSettings) hisR ?_
  intro p e s m args below meth c s₁ Bd hml0 hP hK
  obtain ⟨rfl, hZ, hh⟩ := hP
  have hx := Bd.exec
  have hby := Bd.bytes
  have hlk := Bd.notSynchronized
  have hrt := Bd.returns
  have hml : c.maxLocals = 1 := hml0
  have hown : s.vm.findClass "com/example/hot_pool/hotpool/config/PoolSettings" = some m.cls := findClass_of_methodNamed Bd.named
  have hnm := (name_of_methodNamed Bd.named Bd.method).1
  have X0 : Stand p l e ({ frames := 0, cells := 0, slots := 0, locals := 0 } : Room) s m #[(.ref r0)] below meth c s₁ [] 0 0 := Stand.of_body Bd
  have e0 : s₁.heap = h0 := by rw [← hh, Bd.state]; rfl
  have N0 := Fr.nil n0
  have K0 := Keep.refl h0 []
  refine own_out (Q := Q3 Z r0 ab bo h0 n0) ?_
  refine own_in (ef_3 m r0) ?_
  show own_Go _ _ _ _ s₁ (mkF m 0 #[.val (.ref r0)] [])
  refine own_st (fun t k => XS.aloadN X0.here hx rfl (hb hby d3_0) rfl rfl k) ?_
  show own_Go _ _ _ _ s₁ (mkF m 1 #[.val (.ref r0)] [(.ref r0)])
  obtain ⟨T1, X1, e1, st1⟩ := getF X0 hx hZ hown (host := "") (Or.inl (hw _ (List.mem_of_getElem? (i := 31) rfl))) Via.refl e0 F_abandonedConnectionTimeout_r0 (g := (mkF m 1 #[.val (.ref r0)] [(.ref r0)])) rfl rfl (hb hby d3_1)
  refine own_st st1 ?_
  show own_Go _ _ _ _ T1 (mkF m 4 #[.val (.ref r0)] [(.int ab)])
  by_cases c4_2 : (0 : Int32) < ab
  ·
    refine own_st (fun t k => XS.ifYes X1.here hx rfl (pc0 := 4) (pc' := 14) rfl (hb hby d3_4) rfl ((if0 _ _).trans (tlt c4_2).2.2.1) (by decide) (by decide) k) ?_
    show own_Go _ _ _ _ T1 (mkF m 14 #[.val (.ref r0)] [])
    refine own_st (fun t k => XS.iconst X1.here hx rfl (hb hby d3_14) k) ?_
    show own_Go _ _ _ _ T1 (mkF m 15 #[.val (.ref r0)] [(.int (1 : Int32))])
    refine own_st (fun t k => XS.goto X1.here hx rfl (pc0 := 15) (pc' := 19) rfl (hb hby d3_15) (by decide) (by decide) k) ?_
    show own_Go _ _ _ _ T1 (mkF m 19 #[.val (.ref r0)] [(.int (1 : Int32))])
    exact own_retN X1 hx hlk (t := .boolean) hrt (by simp) (hb hby d3_19) ⟨(by simp only [own_r, if_pos c4_2]; first | rfl | done), N0, e1⟩ (by decide) (by decide)
  ·
    refine own_st (fun t k => XS.ifNo X1.here hx rfl (hb hby d3_4) rfl ((if0 _ _).trans (flt c4_2).2.2.1) k) ?_
    show own_Go _ _ _ _ T1 (mkF m 7 #[.val (.ref r0)] [])
    refine own_st (fun t k => XS.aloadN X1.here hx rfl (hb hby d3_7) rfl rfl k) ?_
    show own_Go _ _ _ _ T1 (mkF m 8 #[.val (.ref r0)] [(.ref r0)])
    obtain ⟨T3, X3, e3, st3⟩ := getF X1 hx hZ hown (host := "") (Or.inl (hw _ (List.mem_of_getElem? (i := 33) rfl))) Via.refl e1 F_borrowTimeToLive_r0 (g := (mkF m 8 #[.val (.ref r0)] [(.ref r0)])) rfl rfl (hb hby d3_8)
    refine own_st st3 ?_
    show own_Go _ _ _ _ T3 (mkF m 11 #[.val (.ref r0)] [(.int bo)])
    by_cases c11_4 : (0 : Int32) < bo
    ·
      refine own_st (fun t k => XS.ifNo X3.here hx rfl (hb hby d3_11) rfl ((if0 _ _).trans (tlt c11_4).2.2.2) k) ?_
      show own_Go _ _ _ _ T3 (mkF m 14 #[.val (.ref r0)] [])
      refine own_st (fun t k => XS.iconst X3.here hx rfl (hb hby d3_14) k) ?_
      show own_Go _ _ _ _ T3 (mkF m 15 #[.val (.ref r0)] [(.int (1 : Int32))])
      refine own_st (fun t k => XS.goto X3.here hx rfl (pc0 := 15) (pc' := 19) rfl (hb hby d3_15) (by decide) (by decide) k) ?_
      show own_Go _ _ _ _ T3 (mkF m 19 #[.val (.ref r0)] [(.int (1 : Int32))])
      exact own_retN X3 hx hlk (t := .boolean) hrt (by simp) (hb hby d3_19) ⟨(by simp only [own_r, if_neg c4_2, if_pos c11_4]; first | rfl | done), N0, e3⟩ (by decide) (by decide)
    ·
      refine own_st (fun t k => XS.ifYes X3.here hx rfl (pc0 := 11) (pc' := 18) rfl (hb hby d3_11) rfl ((if0 _ _).trans (flt c11_4).2.2.2) (by decide) (by decide) k) ?_
      show own_Go _ _ _ _ T3 (mkF m 18 #[.val (.ref r0)] [])
      refine own_st (fun t k => XS.iconst X3.here hx rfl (hb hby d3_18) k) ?_
      show own_Go _ _ _ _ T3 (mkF m 19 #[.val (.ref r0)] [(.int (0 : Int32))])
      exact own_retN X3 hx hlk (t := .boolean) hrt (by simp) (hb hby d3_19) ⟨(by simp only [own_r, if_neg c4_2, if_neg c11_4]; first | rfl | done), N0, e3⟩ (by decide) (by decide)
theorem own_nn (x : Int32) : ¬ ((x &&& (2147483647 : Int32)) < (0 : Int32)) := by
  have h := c_and x (2147483647 : Int32) (by decide)
  rw [Int32.lt_iff_toInt_lt]
  simp only [Int32.reduceToInt]
  omega
theorem own_mp {x : Int32} (h : ¬ (x &&& (2147483647 : Int32)) = (0 : Int32)) : (0 : Int32) < (x &&& (2147483647 : Int32)) := by
  have h1 := c_and x (2147483647 : Int32) (by decide)
  have h2 : ¬ (x &&& (2147483647 : Int32)).toInt = (0 : Int32).toInt := fun q => h (Int32.toInt_inj.mp q)
  rw [Int32.lt_iff_toInt_lt]
  simp only [Int32.reduceToInt] at *
  omega
theorem own_mz {x : Int32} (h : (x &&& (2147483647 : Int32)) = (0 : Int32)) : ¬ (0 : Int32) < (x &&& (2147483647 : Int32)) := by rw [h]; decide
theorem own_r_a {a b : Int32} (h : (0 : Int32) < a) : own_r a b = 1 := by simp only [own_r, if_pos h]
theorem own_r_b {a b : Int32} (h : ¬ (0 : Int32) < a) (q : (0 : Int32) < b) : own_r a b = 1 := by simp only [own_r, if_neg h, if_pos q]
theorem own_r_0 {a b : Int32} (h : ¬ (0 : Int32) < a) (q : ¬ (0 : Int32) < b) : own_r a b = 0 := by simp only [own_r, if_neg h, if_neg q]

theorem pd__28_29V : parseMethodDescriptor "()V" = some ⟨[], none⟩ := by decide +kernel
theorem pd__28_29Z : parseMethodDescriptor "()Z" = some ⟨[], some .boolean⟩ := by decide +kernel
theorem pd__28I_29V : parseMethodDescriptor "(I)V" = some ⟨[.int], none⟩ := by decide +kernel
/-! body 0: PoolSettingsIsReclaimingPinLaw.law -/
theorem pn_com_example_hot_pool_hotpool_config_PoolSettingsIsReclaimingPinLaw : plainName "com/example/hot_pool/hotpool/config/PoolSettingsIsReclaimingPinLaw" = true := by first | (simp [plainName, overriddenIn]; done) | decide +kernel
theorem ef_0 (m : MethodId) (x0 : Int32) (x1 : Int32) (x2 : Int32) (x3 : Int32) : entryFrame m #[(.int x0), (.int x1), (.int x2), (.int x3)] maxLocals = mkF m 0 #[.val (.int x0), .val (.int x1), .val (.int x2), .val (.int x3), .unset, .unset, .unset, .unset, .unset, .unset, .unset, .unset] [] := by first | (simp [entryFrame, mkF, argsToLocals, Value.category, maxLocals]; done) | rfl
def Q0 (Z : State) (p0 : Int32) (p1 : Int32) (p2 : Int32) (p3 : Int32) (h0 : Heap) (n0 : Nat) (v : Option Value) (h : Heap) (L : List Loc) : Prop := v = some (.int (1 : Int32)) ∧ Fr n0 L
set_option maxRecDepth 65536 in
set_option maxHeartbeats 40000000 in
theorem rm0 (l : Launch) (Z : State) (a0 : Array Value) (hw : ∀ d ∈ tables_1, d.before a0 Z = true) (ws : List Jvm.Cond) (p0 : Int32) (p1 : Int32) (p2 : Int32) (p3 : Int32) (h0 : Heap) (n0 : Nat) (Z0 : n0 ≤ h0.size) :
    MetFree l x (head1 (Jvm.Cond.code x code maxLocals ret :: ws) room_1) (fun a U => a = #[(.int p0), (.int p1), (.int p2), (.int p3)] ∧ Z.Warmed39 U.vm ∧ U.heap = h0) (fun _ _ _ _ _ => True) (fun _ U o U' => ∃ v L, o = .returned v ∧ Q0 Z p0 p1 p2 p3 h0 n0 v U'.heap L ∧ ReturnedEndW U o U' L 9 315) := by
  refine MetFree.of_bodySF (plainFor_of_name pn_com_example_hot_pool_hotpool_config_PoolSettingsIsReclaimingPinLaw) hisR ?_
  intro p e s m args below meth c s₁ Bd hml0 hP hK
  obtain ⟨rfl, hZ, hh⟩ := hP
  have hx := Bd.exec
  have hby := Bd.bytes
  have hlk := Bd.notSynchronized
  have hrt := Bd.returns
  have hml : c.maxLocals = 12 := hml0
  have hown : s.vm.findClass "com/example/hot_pool/hotpool/config/PoolSettingsIsReclaimingPinLaw" = some m.cls := findClass_of_methodNamed Bd.named
  have hnm := (name_of_methodNamed Bd.named Bd.method).1
  have X0 : Stand p l e room_1 (s.setVm s.vm) m #[(.int p0), (.int p1), (.int p2), (.int p3)] below meth c s₁ [] 0 0 := Stand.of_body Bd
  have e0 : s₁.heap = h0 := by rw [← hh, Bd.state]; rfl
  have N0 := Fr.nil n0
  have K0 := Keep.refl h0 []
  have hS0 : s.Since s.vm 0 := (State.WarmedH.refl s).since 0
  have hk0 : 0 ≤ h0.size := Nat.zero_le _
  refine own_outW (Q := Q0 Z p0 p1 p2 p3 h0 n0) ?_
  refine own_in (ef_0 m p0 p1 p2 p3) ?_
  show own_Go _ _ _ _ s₁ (mkF m 0 #[.val (.int p0), .val (.int p1), .val (.int p2), .val (.int p3), .unset, .unset, .unset, .unset, .unset, .unset, .unset, .unset] [])
  refine own_st (fun t k => XS.iloadN X0.here hx rfl (hb hby at_0) rfl k) ?_
  show own_Go _ _ _ _ s₁ (mkF m 1 #[.val (.int p0), .val (.int p1), .val (.int p2), .val (.int p3), .unset, .unset, .unset, .unset, .unset, .unset, .unset, .unset] [(.int p0)])
  refine own_st (fun t k => XS.iconst X0.here hx rfl (hb hby at_1) k) ?_
  show own_Go _ _ _ _ s₁ (mkF m 2 #[.val (.int p0), .val (.int p1), .val (.int p2), .val (.int p3), .unset, .unset, .unset, .unset, .unset, .unset, .unset, .unset] [(.int (1 : Int32)), (.int p0)])
  refine own_st (fun t k => XS.iand X0.here hx rfl (hb hby at_2) rfl k) ?_
  show own_Go _ _ _ _ s₁ (mkF m 3 #[.val (.int p0), .val (.int p1), .val (.int p2), .val (.int p3), .unset, .unset, .unset, .unset, .unset, .unset, .unset, .unset] [(.int (p0 &&& (1 : Int32)))])
  by_cases c3_1 : (p0 &&& (1 : Int32)) = (0 : Int32)
  ·
    refine own_st (fun t k => XS.ifYes X0.here hx rfl (pc0 := 3) (pc' := 10) rfl (hb hby at_3) rfl ((if0 _ _).trans (teq c3_1).1) (by decide) (by decide) k) ?_
    show own_Go _ _ _ _ s₁ (mkF m 10 #[.val (.int p0), .val (.int p1), .val (.int p2), .val (.int p3), .unset, .unset, .unset, .unset, .unset, .unset, .unset, .unset] [])
    refine own_st (fun t k => XS.iconst X0.here hx rfl (hb hby at_10) k) ?_
    show own_Go _ _ _ _ s₁ (mkF m 11 #[.val (.int p0), .val (.int p1), .val (.int p2), .val (.int p3), .unset, .unset, .unset, .unset, .unset, .unset, .unset, .unset] [(.int (0 : Int32))])
    refine own_st (fun t k => XS.istore X0.here hx rfl (hb hby at_11) rfl (l' := #[.val (.int p0), .val (.int p1), .val (.int p2), .val (.int p3), .val (.int (0 : Int32)), .unset, .unset, .unset, .unset, .unset, .unset, .unset]) rfl k) ?_
    show own_Go _ _ _ _ s₁ (mkF m 13 #[.val (.int p0), .val (.int p1), .val (.int p2), .val (.int p3), .val (.int (0 : Int32)), .unset, .unset, .unset, .unset, .unset, .unset, .unset] [])
    refine own_st (fun t k => XS.iloadN X0.here hx rfl (hb hby at_13) rfl k) ?_
    show own_Go _ _ _ _ s₁ (mkF m 14 #[.val (.int p0), .val (.int p1), .val (.int p2), .val (.int p3), .val (.int (0 : Int32)), .unset, .unset, .unset, .unset, .unset, .unset, .unset] [(.int p0)])
    refine own_st (fun t k => XS.iconst X0.here hx rfl (hb hby at_14) k) ?_
    show own_Go _ _ _ _ s₁ (mkF m 15 #[.val (.int p0), .val (.int p1), .val (.int p2), .val (.int p3), .val (.int (0 : Int32)), .unset, .unset, .unset, .unset, .unset, .unset, .unset] [(.int (2 : Int32)), (.int p0)])
    refine own_st (fun t k => XS.iand X0.here hx rfl (hb hby at_15) rfl k) ?_
    show own_Go _ _ _ _ s₁ (mkF m 16 #[.val (.int p0), .val (.int p1), .val (.int p2), .val (.int p3), .val (.int (0 : Int32)), .unset, .unset, .unset, .unset, .unset, .unset, .unset] [(.int (p0 &&& (2 : Int32)))])
    by_cases c16_2 : (p0 &&& (2 : Int32)) = (0 : Int32)
    ·
      refine own_st (fun t k => XS.ifYes X0.here hx rfl (pc0 := 16) (pc' := 23) rfl (hb hby at_16) rfl ((if0 _ _).trans (teq c16_2).1) (by decide) (by decide) k) ?_
      show own_Go _ _ _ _ s₁ (mkF m 23 #[.val (.int p0), .val (.int p1), .val (.int p2), .val (.int p3), .val (.int (0 : Int32)), .unset, .unset, .unset, .unset, .unset, .unset, .unset] [])
      refine own_st (fun t k => XS.iconst X0.here hx rfl (hb hby at_23) k) ?_
      show own_Go _ _ _ _ s₁ (mkF m 24 #[.val (.int p0), .val (.int p1), .val (.int p2), .val (.int p3), .val (.int (0 : Int32)), .unset, .unset, .unset, .unset, .unset, .unset, .unset] [(.int (0 : Int32))])
      refine own_st (fun t k => XS.istore X0.here hx rfl (hb hby at_24) rfl (l' := #[.val (.int p0), .val (.int p1), .val (.int p2), .val (.int p3), .val (.int (0 : Int32)), .val (.int (0 : Int32)), .unset, .unset, .unset, .unset, .unset, .unset]) rfl k) ?_
      show own_Go _ _ _ _ s₁ (mkF m 26 #[.val (.int p0), .val (.int p1), .val (.int p2), .val (.int p3), .val (.int (0 : Int32)), .val (.int (0 : Int32)), .unset, .unset, .unset, .unset, .unset, .unset] [])
      refine own_st (fun t k => XS.iloadN X0.here hx rfl (hb hby at_26) rfl k) ?_
      show own_Go _ _ _ _ s₁ (mkF m 27 #[.val (.int p0), .val (.int p1), .val (.int p2), .val (.int p3), .val (.int (0 : Int32)), .val (.int (0 : Int32)), .unset, .unset, .unset, .unset, .unset, .unset] [(.int p0)])
      refine own_st (fun t k => XS.iconst X0.here hx rfl (hb hby at_27) k) ?_
      show own_Go _ _ _ _ s₁ (mkF m 28 #[.val (.int p0), .val (.int p1), .val (.int p2), .val (.int p3), .val (.int (0 : Int32)), .val (.int (0 : Int32)), .unset, .unset, .unset, .unset, .unset, .unset] [(.int (4 : Int32)), (.int p0)])
      refine own_st (fun t k => XS.iand X0.here hx rfl (hb hby at_28) rfl k) ?_
      show own_Go _ _ _ _ s₁ (mkF m 29 #[.val (.int p0), .val (.int p1), .val (.int p2), .val (.int p3), .val (.int (0 : Int32)), .val (.int (0 : Int32)), .unset, .unset, .unset, .unset, .unset, .unset] [(.int (p0 &&& (4 : Int32)))])
      by_cases c29_3 : (p0 &&& (4 : Int32)) = (0 : Int32)
      ·
        refine own_st (fun t k => XS.ifYes X0.here hx rfl (pc0 := 29) (pc' := 36) rfl (hb hby at_29) rfl ((if0 _ _).trans (teq c29_3).1) (by decide) (by decide) k) ?_
        show own_Go _ _ _ _ s₁ (mkF m 36 #[.val (.int p0), .val (.int p1), .val (.int p2), .val (.int p3), .val (.int (0 : Int32)), .val (.int (0 : Int32)), .unset, .unset, .unset, .unset, .unset, .unset] [])
        refine own_st (fun t k => XS.iconst X0.here hx rfl (hb hby at_36) k) ?_
        show own_Go _ _ _ _ s₁ (mkF m 37 #[.val (.int p0), .val (.int p1), .val (.int p2), .val (.int p3), .val (.int (0 : Int32)), .val (.int (0 : Int32)), .unset, .unset, .unset, .unset, .unset, .unset] [(.int (0 : Int32))])
        refine own_st (fun t k => XS.istore X0.here hx rfl (hb hby at_37) rfl (l' := #[.val (.int p0), .val (.int p1), .val (.int p2), .val (.int p3), .val (.int (0 : Int32)), .val (.int (0 : Int32)), .val (.int (0 : Int32)), .unset, .unset, .unset, .unset, .unset]) rfl k) ?_
        show own_Go _ _ _ _ s₁ (mkF m 39 #[.val (.int p0), .val (.int p1), .val (.int p2), .val (.int p3), .val (.int (0 : Int32)), .val (.int (0 : Int32)), .val (.int (0 : Int32)), .unset, .unset, .unset, .unset, .unset] [])
        refine own_st (fun t k => XS.iloadN X0.here hx rfl (hb hby at_39) rfl k) ?_
        show own_Go _ _ _ _ s₁ (mkF m 40 #[.val (.int p0), .val (.int p1), .val (.int p2), .val (.int p3), .val (.int (0 : Int32)), .val (.int (0 : Int32)), .val (.int (0 : Int32)), .unset, .unset, .unset, .unset, .unset] [(.int p1)])
        refine own_st (X0.ldcInt hx hown (mvT hZ (hw _ (List.mem_of_getElem? (i := 0) rfl))) (g := (mkF m 40 #[.val (.int p0), .val (.int p1), .val (.int p2), .val (.int p3), .val (.int (0 : Int32)), .val (.int (0 : Int32)), .val (.int (0 : Int32)), .unset, .unset, .unset, .unset, .unset] [(.int p1)])) rfl (hb hby at_40)) ?_
        show own_Go _ _ _ _ s₁ (mkF m 42 #[.val (.int p0), .val (.int p1), .val (.int p2), .val (.int p3), .val (.int (0 : Int32)), .val (.int (0 : Int32)), .val (.int (0 : Int32)), .unset, .unset, .unset, .unset, .unset] [(.int (2147483647 : Int32)), (.int p1)])
        refine own_st (fun t k => XS.iand X0.here hx rfl (hb hby at_42) rfl k) ?_
        show own_Go _ _ _ _ s₁ (mkF m 43 #[.val (.int p0), .val (.int p1), .val (.int p2), .val (.int p3), .val (.int (0 : Int32)), .val (.int (0 : Int32)), .val (.int (0 : Int32)), .unset, .unset, .unset, .unset, .unset] [(.int (p1 &&& (2147483647 : Int32)))])
        refine own_st (fun t k => XS.istore X0.here hx rfl (hb hby at_43) rfl (l' := #[.val (.int p0), .val (.int p1), .val (.int p2), .val (.int p3), .val (.int (0 : Int32)), .val (.int (0 : Int32)), .val (.int (0 : Int32)), .val (.int (p1 &&& (2147483647 : Int32))), .unset, .unset, .unset, .unset]) rfl k) ?_
        show own_Go _ _ _ _ s₁ (mkF m 45 #[.val (.int p0), .val (.int p1), .val (.int p2), .val (.int p3), .val (.int (0 : Int32)), .val (.int (0 : Int32)), .val (.int (0 : Int32)), .val (.int (p1 &&& (2147483647 : Int32))), .unset, .unset, .unset, .unset] [])
        refine own_st (fun t k => XS.iloadN X0.here hx rfl (hb hby at_45) rfl k) ?_
        show own_Go _ _ _ _ s₁ (mkF m 46 #[.val (.int p0), .val (.int p1), .val (.int p2), .val (.int p3), .val (.int (0 : Int32)), .val (.int (0 : Int32)), .val (.int (0 : Int32)), .val (.int (p1 &&& (2147483647 : Int32))), .unset, .unset, .unset, .unset] [(.int p2)])
        refine own_st (X0.ldcInt hx hown (mvT hZ (hw _ (List.mem_of_getElem? (i := 0) rfl))) (g := (mkF m 46 #[.val (.int p0), .val (.int p1), .val (.int p2), .val (.int p3), .val (.int (0 : Int32)), .val (.int (0 : Int32)), .val (.int (0 : Int32)), .val (.int (p1 &&& (2147483647 : Int32))), .unset, .unset, .unset, .unset] [(.int p2)])) rfl (hb hby at_46)) ?_
        show own_Go _ _ _ _ s₁ (mkF m 48 #[.val (.int p0), .val (.int p1), .val (.int p2), .val (.int p3), .val (.int (0 : Int32)), .val (.int (0 : Int32)), .val (.int (0 : Int32)), .val (.int (p1 &&& (2147483647 : Int32))), .unset, .unset, .unset, .unset] [(.int (2147483647 : Int32)), (.int p2)])
        refine own_st (fun t k => XS.iand X0.here hx rfl (hb hby at_48) rfl k) ?_
        show own_Go _ _ _ _ s₁ (mkF m 49 #[.val (.int p0), .val (.int p1), .val (.int p2), .val (.int p3), .val (.int (0 : Int32)), .val (.int (0 : Int32)), .val (.int (0 : Int32)), .val (.int (p1 &&& (2147483647 : Int32))), .unset, .unset, .unset, .unset] [(.int (p2 &&& (2147483647 : Int32)))])
        refine own_st (fun t k => XS.istore X0.here hx rfl (hb hby at_49) rfl (l' := #[.val (.int p0), .val (.int p1), .val (.int p2), .val (.int p3), .val (.int (0 : Int32)), .val (.int (0 : Int32)), .val (.int (0 : Int32)), .val (.int (p1 &&& (2147483647 : Int32))), .val (.int (p2 &&& (2147483647 : Int32))), .unset, .unset, .unset]) rfl k) ?_
        show own_Go _ _ _ _ s₁ (mkF m 51 #[.val (.int p0), .val (.int p1), .val (.int p2), .val (.int p3), .val (.int (0 : Int32)), .val (.int (0 : Int32)), .val (.int (0 : Int32)), .val (.int (p1 &&& (2147483647 : Int32))), .val (.int (p2 &&& (2147483647 : Int32))), .unset, .unset, .unset] [])
        refine own_st (fun t k => XS.iloadN X0.here hx rfl (hb hby at_51) rfl k) ?_
        show own_Go _ _ _ _ s₁ (mkF m 52 #[.val (.int p0), .val (.int p1), .val (.int p2), .val (.int p3), .val (.int (0 : Int32)), .val (.int (0 : Int32)), .val (.int (0 : Int32)), .val (.int (p1 &&& (2147483647 : Int32))), .val (.int (p2 &&& (2147483647 : Int32))), .unset, .unset, .unset] [(.int p3)])
        refine own_st (X0.ldcInt hx hown (mvT hZ (hw _ (List.mem_of_getElem? (i := 0) rfl))) (g := (mkF m 52 #[.val (.int p0), .val (.int p1), .val (.int p2), .val (.int p3), .val (.int (0 : Int32)), .val (.int (0 : Int32)), .val (.int (0 : Int32)), .val (.int (p1 &&& (2147483647 : Int32))), .val (.int (p2 &&& (2147483647 : Int32))), .unset, .unset, .unset] [(.int p3)])) rfl (hb hby at_52)) ?_
        show own_Go _ _ _ _ s₁ (mkF m 54 #[.val (.int p0), .val (.int p1), .val (.int p2), .val (.int p3), .val (.int (0 : Int32)), .val (.int (0 : Int32)), .val (.int (0 : Int32)), .val (.int (p1 &&& (2147483647 : Int32))), .val (.int (p2 &&& (2147483647 : Int32))), .unset, .unset, .unset] [(.int (2147483647 : Int32)), (.int p3)])
        refine own_st (fun t k => XS.iand X0.here hx rfl (hb hby at_54) rfl k) ?_
        show own_Go _ _ _ _ s₁ (mkF m 55 #[.val (.int p0), .val (.int p1), .val (.int p2), .val (.int p3), .val (.int (0 : Int32)), .val (.int (0 : Int32)), .val (.int (0 : Int32)), .val (.int (p1 &&& (2147483647 : Int32))), .val (.int (p2 &&& (2147483647 : Int32))), .unset, .unset, .unset] [(.int (p3 &&& (2147483647 : Int32)))])
        refine own_st (fun t k => XS.istore X0.here hx rfl (hb hby at_55) rfl (l' := #[.val (.int p0), .val (.int p1), .val (.int p2), .val (.int p3), .val (.int (0 : Int32)), .val (.int (0 : Int32)), .val (.int (0 : Int32)), .val (.int (p1 &&& (2147483647 : Int32))), .val (.int (p2 &&& (2147483647 : Int32))), .val (.int (p3 &&& (2147483647 : Int32))), .unset, .unset]) rfl k) ?_
        show own_Go _ _ _ _ s₁ (mkF m 57 #[.val (.int p0), .val (.int p1), .val (.int p2), .val (.int p3), .val (.int (0 : Int32)), .val (.int (0 : Int32)), .val (.int (0 : Int32)), .val (.int (p1 &&& (2147483647 : Int32))), .val (.int (p2 &&& (2147483647 : Int32))), .val (.int (p3 &&& (2147483647 : Int32))), .unset, .unset] [])
        obtain ⟨T4, h4, X4, e4, E4, A4, D4, -, st4⟩ := newO X0 hx hZ hown (hw _ (List.mem_of_getElem? (i := 1) rfl)) (hw _ (List.mem_of_getElem? (i := 2) rfl)) (hw _ (List.mem_of_getElem? (i := 3) rfl)) e0 (g := (mkF m 57 #[.val (.int p0), .val (.int p1), .val (.int p2), .val (.int p3), .val (.int (0 : Int32)), .val (.int (0 : Int32)), .val (.int (0 : Int32)), .val (.int (p1 &&& (2147483647 : Int32))), .val (.int (p2 &&& (2147483647 : Int32))), .val (.int (p3 &&& (2147483647 : Int32))), .unset, .unset] [])) rfl (hb hby at_57) (by decide) (by decide)
        obtain ⟨b4, g4⟩ : ∃ z, z = h0.size := ⟨_, rfl⟩
        rw [← g4] at A4 D4 st4
        have sz_b4 : h0.size ≤ b4 := Nat.le_trans K0.1 (Nat.le_of_eq g4.symm)
        have g_b4 : n0 ≤ b4 := Nat.le_trans Z0 sz_b4
        have F4_maxPoolSize : Fld Z h4 b4 "com/example/hot_pool/hotpool/config/PoolSettings" "maxPoolSize" "I" (.int (0 : Int32)) := D4 (Or.inl (hw _ (List.mem_of_getElem? (i := 11) rfl))) (ty := .int) (by decide)
        have F4_connectionWaitTimeout : Fld Z h4 b4 "com/example/hot_pool/hotpool/config/PoolSettings" "connectionWaitTimeout" "I" (.int (0 : Int32)) := D4 (Or.inl (hw _ (List.mem_of_getElem? (i := 13) rfl))) (ty := .int) (by decide)
        have F4_propertyCycle : Fld Z h4 b4 "com/example/hot_pool/hotpool/config/PoolSettings" "propertyCycle" "I" (.int (0 : Int32)) := D4 (Or.inl (hw _ (List.mem_of_getElem? (i := 15) rfl))) (ty := .int) (by decide)
        have F4_validateOnBorrow : Fld Z h4 b4 "com/example/hot_pool/hotpool/config/PoolSettings" "validateOnBorrow" "Z" (.int (0 : Int32)) := D4 (Or.inl (hw _ (List.mem_of_getElem? (i := 17) rfl))) (ty := .boolean) (by decide)
        have F4_validationTimeout : Fld Z h4 b4 "com/example/hot_pool/hotpool/config/PoolSettings" "validationTimeout" "I" (.int (0 : Int32)) := D4 (Or.inl (hw _ (List.mem_of_getElem? (i := 19) rfl))) (ty := .int) (by decide)
        have F4_validationTrustTime : Fld Z h4 b4 "com/example/hot_pool/hotpool/config/PoolSettings" "validationTrustTime" "I" (.int (0 : Int32)) := D4 (Or.inl (hw _ (List.mem_of_getElem? (i := 21) rfl))) (ty := .int) (by decide)
        have F4_flushAfterFailedValidations : Fld Z h4 b4 "com/example/hot_pool/hotpool/config/PoolSettings" "flushAfterFailedValidations" "I" (.int (0 : Int32)) := D4 (Or.inl (hw _ (List.mem_of_getElem? (i := 23) rfl))) (ty := .int) (by decide)
        have F4_autoCommit : Fld Z h4 b4 "com/example/hot_pool/hotpool/config/PoolSettings" "autoCommit" "Z" (.int (0 : Int32)) := D4 (Or.inl (hw _ (List.mem_of_getElem? (i := 25) rfl))) (ty := .boolean) (by decide)
        have F4_abandonedConnectionTimeout : Fld Z h4 b4 "com/example/hot_pool/hotpool/config/PoolSettings" "abandonedConnectionTimeout" "I" (.int (0 : Int32)) := D4 (Or.inl (hw _ (List.mem_of_getElem? (i := 32) rfl))) (ty := .int) (by decide)
        have F4_borrowTimeToLive : Fld Z h4 b4 "com/example/hot_pool/hotpool/config/PoolSettings" "borrowTimeToLive" "I" (.int (0 : Int32)) := D4 (Or.inl (hw _ (List.mem_of_getElem? (i := 34) rfl))) (ty := .int) (by decide)
        have F4_maxConnectionAge : Fld Z h4 b4 "com/example/hot_pool/hotpool/config/PoolSettings" "maxConnectionAge" "I" (.int (0 : Int32)) := D4 (Or.inl (hw _ (List.mem_of_getElem? (i := 53) rfl))) (ty := .int) (by decide)
        have F4_maxIdleTime : Fld Z h4 b4 "com/example/hot_pool/hotpool/config/PoolSettings" "maxIdleTime" "I" (.int (0 : Int32)) := D4 (Or.inl (hw _ (List.mem_of_getElem? (i := 61) rfl))) (ty := .int) (by decide)
        refine own_st st4 ?_
        show own_Go _ _ _ _ T4 (mkF m 60 #[.val (.int p0), .val (.int p1), .val (.int p2), .val (.int p3), .val (.int (0 : Int32)), .val (.int (0 : Int32)), .val (.int (0 : Int32)), .val (.int (p1 &&& (2147483647 : Int32))), .val (.int (p2 &&& (2147483647 : Int32))), .val (.int (p3 &&& (2147483647 : Int32))), .unset, .unset] [(.ref b4)])
        refine own_st (fun t k => XS.dup X4.here hx rfl (hb hby at_60) rfl rfl k) ?_
        show own_Go _ _ _ _ T4 (mkF m 61 #[.val (.int p0), .val (.int p1), .val (.int p2), .val (.int p3), .val (.int (0 : Int32)), .val (.int (0 : Int32)), .val (.int (0 : Int32)), .val (.int (p1 &&& (2147483647 : Int32))), .val (.int (p2 &&& (2147483647 : Int32))), .val (.int (p3 &&& (2147483647 : Int32))), .unset, .unset] [(.ref b4), (.ref b4)])
        have K0_6 := (K0.ext E4)
        obtain ⟨_, _, ⟨T5, L5, k5, n5⟩, -, X5, ⟨Lc5, hQ5, l5, y5, z5⟩, st5⟩ := X4.specialBack hx (y := (⟨"com/example/hot_pool/hotpool/config/PoolSettings", "<init>", "()V"⟩ : MethodName)) rfl hown (mvT hZ (hw _ (List.mem_of_getElem? (i := 4) rfl))) (mvT hZ (hw _ (List.mem_of_getElem? (i := 5) rfl))) (mvT hZ (hw _ (List.mem_of_getElem? (i := 6) rfl))) (by decide) (backOf (W := 1) (rm1 l Z a0 hw [] b4  h4 n0 (Nat.le_trans Z0 K0_6.1) A4 F4_maxPoolSize F4_connectionWaitTimeout F4_propertyCycle F4_validateOnBorrow F4_validationTimeout F4_validationTrustTime F4_flushAfterFailedValidations F4_autoCommit F4_abandonedConnectionTimeout F4_borrowTimeToLive F4_maxConnectionAge F4_maxIdleTime g_b4) hZ (hw _ (List.mem_of_getElem? (i := 6) rfl)) (hw _ (List.mem_of_getElem? (i := 3) rfl)) (by decide) (by decide)) (g := (mkF m 61 #[.val (.int p0), .val (.int p1), .val (.int p2), .val (.int p3), .val (.int (0 : Int32)), .val (.int (0 : Int32)), .val (.int (0 : Int32)), .val (.int (p1 &&& (2147483647 : Int32))), .val (.int (p2 &&& (2147483647 : Int32))), .val (.int (p3 &&& (2147483647 : Int32))), .unset, .unset] [(.ref b4), (.ref b4)])) rfl (by rw [hml]; rfl) (Steps.refl _) (a := b4) (argsL := []) (rest := [(.ref b4)]) (lenOf pd__28_29V rfl) rfl (by show 2 * 0 + _ ≤ _; exact Nat.le_of_eq rfl) (hb hby at_61) (fun _ _ => ⟨rfl, e4, (by decide : 1 + 0 ≤ _), (by decide : 23 + 0 ≤ _)⟩)
        dsimp only [Pt.U, Pt.locs, Pt.cells, Pt.slots] at X5 l5 y5 z5 st5 hQ5
        subst l5 y5 z5
        obtain ⟨rfl, N5q, K5, G5_0, G5_1, G5_2, G5_3, G5_4, G5_5, G5_6, G5_7, G5_8, G5_9, G5_10, G5_11⟩ := hQ5
        obtain ⟨_, X5, N5⟩ := own_hide X5 (Fr.app N0 N5q)
        refine own_tr st5 ?_
        show own_Go _ _ _ _ T5 (mkF m 64 #[.val (.int p0), .val (.int p1), .val (.int p2), .val (.int p3), .val (.int (0 : Int32)), .val (.int (0 : Int32)), .val (.int (0 : Int32)), .val (.int (p1 &&& (2147483647 : Int32))), .val (.int (p2 &&& (2147483647 : Int32))), .val (.int (p3 &&& (2147483647 : Int32))), .unset, .unset] [(.ref b4)])
        refine own_st (fun t k => XS.astore X5.here hx rfl (hb hby at_64) rfl rfl (l' := #[.val (.int p0), .val (.int p1), .val (.int p2), .val (.int p3), .val (.int (0 : Int32)), .val (.int (0 : Int32)), .val (.int (0 : Int32)), .val (.int (p1 &&& (2147483647 : Int32))), .val (.int (p2 &&& (2147483647 : Int32))), .val (.int (p3 &&& (2147483647 : Int32))), .val (.ref b4), .unset]) rfl k) ?_
        show own_Go _ _ _ _ T5 (mkF m 66 #[.val (.int p0), .val (.int p1), .val (.int p2), .val (.int p3), .val (.int (0 : Int32)), .val (.int (0 : Int32)), .val (.int (0 : Int32)), .val (.int (p1 &&& (2147483647 : Int32))), .val (.int (p2 &&& (2147483647 : Int32))), .val (.int (p3 &&& (2147483647 : Int32))), .val (.ref b4), .unset] [])
        refine own_st (fun t k => XS.iload X5.here hx rfl (hb hby at_66) rfl k) ?_
        show own_Go _ _ _ _ T5 (mkF m 68 #[.val (.int p0), .val (.int p1), .val (.int p2), .val (.int p3), .val (.int (0 : Int32)), .val (.int (0 : Int32)), .val (.int (0 : Int32)), .val (.int (p1 &&& (2147483647 : Int32))), .val (.int (p2 &&& (2147483647 : Int32))), .val (.int (p3 &&& (2147483647 : Int32))), .val (.ref b4), .unset] [(.int (0 : Int32))])
        refine own_st (fun t k => XS.ifYes X5.here hx rfl (pc0 := 68) (pc' := 85) rfl (hb hby at_68) rfl ((if0 _ _).trans (teq (by decide : (0 : Int32) = (0 : Int32))).1) (by decide) (by decide) k) ?_
        show own_Go _ _ _ _ T5 (mkF m 85 #[.val (.int p0), .val (.int p1), .val (.int p2), .val (.int p3), .val (.int (0 : Int32)), .val (.int (0 : Int32)), .val (.int (0 : Int32)), .val (.int (p1 &&& (2147483647 : Int32))), .val (.int (p2 &&& (2147483647 : Int32))), .val (.int (p3 &&& (2147483647 : Int32))), .val (.ref b4), .unset] [])
        refine own_st (fun t k => XS.iload X5.here hx rfl (hb hby at_85) rfl k) ?_
        show own_Go _ _ _ _ T5 (mkF m 87 #[.val (.int p0), .val (.int p1), .val (.int p2), .val (.int p3), .val (.int (0 : Int32)), .val (.int (0 : Int32)), .val (.int (0 : Int32)), .val (.int (p1 &&& (2147483647 : Int32))), .val (.int (p2 &&& (2147483647 : Int32))), .val (.int (p3 &&& (2147483647 : Int32))), .val (.ref b4), .unset] [(.int (0 : Int32))])
        refine own_st (fun t k => XS.ifYes X5.here hx rfl (pc0 := 87) (pc' := 97) rfl (hb hby at_87) rfl ((if0 _ _).trans (teq (by decide : (0 : Int32) = (0 : Int32))).1) (by decide) (by decide) k) ?_
        show own_Go _ _ _ _ T5 (mkF m 97 #[.val (.int p0), .val (.int p1), .val (.int p2), .val (.int p3), .val (.int (0 : Int32)), .val (.int (0 : Int32)), .val (.int (0 : Int32)), .val (.int (p1 &&& (2147483647 : Int32))), .val (.int (p2 &&& (2147483647 : Int32))), .val (.int (p3 &&& (2147483647 : Int32))), .val (.ref b4), .unset] [])
        refine own_st (fun t k => XS.iload X5.here hx rfl (hb hby at_97) rfl k) ?_
        show own_Go _ _ _ _ T5 (mkF m 99 #[.val (.int p0), .val (.int p1), .val (.int p2), .val (.int p3), .val (.int (0 : Int32)), .val (.int (0 : Int32)), .val (.int (0 : Int32)), .val (.int (p1 &&& (2147483647 : Int32))), .val (.int (p2 &&& (2147483647 : Int32))), .val (.int (p3 &&& (2147483647 : Int32))), .val (.ref b4), .unset] [(.int (0 : Int32))])
        refine own_st (fun t k => XS.ifYes X5.here hx rfl (pc0 := 99) (pc' := 109) rfl (hb hby at_99) rfl ((if0 _ _).trans (teq (by decide : (0 : Int32) = (0 : Int32))).1) (by decide) (by decide) k) ?_
        show own_Go _ _ _ _ T5 (mkF m 109 #[.val (.int p0), .val (.int p1), .val (.int p2), .val (.int p3), .val (.int (0 : Int32)), .val (.int (0 : Int32)), .val (.int (0 : Int32)), .val (.int (p1 &&& (2147483647 : Int32))), .val (.int (p2 &&& (2147483647 : Int32))), .val (.int (p3 &&& (2147483647 : Int32))), .val (.ref b4), .unset] [])
        refine own_st (fun t k => XS.iconst X5.here hx rfl (hb hby at_109) k) ?_
        show own_Go _ _ _ _ T5 (mkF m 110 #[.val (.int p0), .val (.int p1), .val (.int p2), .val (.int p3), .val (.int (0 : Int32)), .val (.int (0 : Int32)), .val (.int (0 : Int32)), .val (.int (p1 &&& (2147483647 : Int32))), .val (.int (p2 &&& (2147483647 : Int32))), .val (.int (p3 &&& (2147483647 : Int32))), .val (.ref b4), .unset] [(.int (0 : Int32))])
        refine own_st (fun t k => XS.istore X5.here hx rfl (hb hby at_110) rfl (l' := #[.val (.int p0), .val (.int p1), .val (.int p2), .val (.int p3), .val (.int (0 : Int32)), .val (.int (0 : Int32)), .val (.int (0 : Int32)), .val (.int (p1 &&& (2147483647 : Int32))), .val (.int (p2 &&& (2147483647 : Int32))), .val (.int (p3 &&& (2147483647 : Int32))), .val (.ref b4), .val (.int (0 : Int32))]) rfl k) ?_
        show own_Go _ _ _ _ T5 (mkF m 112 #[.val (.int p0), .val (.int p1), .val (.int p2), .val (.int p3), .val (.int (0 : Int32)), .val (.int (0 : Int32)), .val (.int (0 : Int32)), .val (.int (p1 &&& (2147483647 : Int32))), .val (.int (p2 &&& (2147483647 : Int32))), .val (.int (p3 &&& (2147483647 : Int32))), .val (.ref b4), .val (.int (0 : Int32))] [])
        refine own_st (fun t k => XS.iload X5.here hx rfl (hb hby at_112) rfl k) ?_
        show own_Go _ _ _ _ T5 (mkF m 114 #[.val (.int p0), .val (.int p1), .val (.int p2), .val (.int p3), .val (.int (0 : Int32)), .val (.int (0 : Int32)), .val (.int (0 : Int32)), .val (.int (p1 &&& (2147483647 : Int32))), .val (.int (p2 &&& (2147483647 : Int32))), .val (.int (p3 &&& (2147483647 : Int32))), .val (.ref b4), .val (.int (0 : Int32))] [(.int (0 : Int32))])
        refine own_st (fun t k => XS.ifYes X5.here hx rfl (pc0 := 114) (pc' := 125) rfl (hb hby at_114) rfl ((if0 _ _).trans (teq (by decide : (0 : Int32) = (0 : Int32))).1) (by decide) (by decide) k) ?_
        show own_Go _ _ _ _ T5 (mkF m 125 #[.val (.int p0), .val (.int p1), .val (.int p2), .val (.int p3), .val (.int (0 : Int32)), .val (.int (0 : Int32)), .val (.int (0 : Int32)), .val (.int (p1 &&& (2147483647 : Int32))), .val (.int (p2 &&& (2147483647 : Int32))), .val (.int (p3 &&& (2147483647 : Int32))), .val (.ref b4), .val (.int (0 : Int32))] [])
        refine own_st (fun t k => XS.iload X5.here hx rfl (hb hby at_125) rfl k) ?_
        show own_Go _ _ _ _ T5 (mkF m 127 #[.val (.int p0), .val (.int p1), .val (.int p2), .val (.int p3), .val (.int (0 : Int32)), .val (.int (0 : Int32)), .val (.int (0 : Int32)), .val (.int (p1 &&& (2147483647 : Int32))), .val (.int (p2 &&& (2147483647 : Int32))), .val (.int (p3 &&& (2147483647 : Int32))), .val (.ref b4), .val (.int (0 : Int32))] [(.int (0 : Int32))])
        refine own_st (fun t k => XS.ifYes X5.here hx rfl (pc0 := 127) (pc' := 138) rfl (hb hby at_127) rfl ((if0 _ _).trans (teq (by decide : (0 : Int32) = (0 : Int32))).1) (by decide) (by decide) k) ?_
        show own_Go _ _ _ _ T5 (mkF m 138 #[.val (.int p0), .val (.int p1), .val (.int p2), .val (.int p3), .val (.int (0 : Int32)), .val (.int (0 : Int32)), .val (.int (0 : Int32)), .val (.int (p1 &&& (2147483647 : Int32))), .val (.int (p2 &&& (2147483647 : Int32))), .val (.int (p3 &&& (2147483647 : Int32))), .val (.ref b4), .val (.int (0 : Int32))] [])
        refine own_st (fun t k => XS.aload X5.here hx rfl (hb hby at_138) rfl rfl k) ?_
        show own_Go _ _ _ _ T5 (mkF m 140 #[.val (.int p0), .val (.int p1), .val (.int p2), .val (.int p3), .val (.int (0 : Int32)), .val (.int (0 : Int32)), .val (.int (0 : Int32)), .val (.int (p1 &&& (2147483647 : Int32))), .val (.int (p2 &&& (2147483647 : Int32))), .val (.int (p3 &&& (2147483647 : Int32))), .val (.ref b4), .val (.int (0 : Int32))] [(.ref b4)])
        have K0_8 := (K0_6.trans K5 (allS ((Or.inr sz_b4)) all0))
        have A4_9 := (A4.keep K5)
        obtain ⟨cq7, kq7, q7a, q7b, q7c⟩ := isOf hZ rfl A4_9
        obtain ⟨_, _, ⟨T7, L7, k7, n7⟩, -, X7, ⟨Lc7, hQ7, l7, y7, z7⟩, st7⟩ := X5.virtualBack hx (y := (⟨"com/example/hot_pool/hotpool/config/PoolSettings", "isReclaiming", "()Z"⟩ : MethodName)) (z := (⟨"com/example/hot_pool/hotpool/config/PoolSettings", "isReclaiming", "()Z"⟩ : MethodName)) hown (mvT hZ (hw _ (List.mem_of_getElem? (i := 26) rfl))) (mvT hZ (hw _ (List.mem_of_getElem? (i := 27) rfl))) (notFace_of_selects (args := #[]) (mvT hZ (hw _ (List.mem_of_getElem? (i := 29) rfl)))) (mvT hZ (hw _ (List.mem_of_getElem? (i := 29) rfl))) (mvT hZ (hw _ (List.mem_of_getElem? (i := 28) rfl))) (by decide) (backOf (W := 0) (rm3 l Z a0 hw [] b4 (0 : Int32) (0 : Int32)  T5.heap n0 (Nat.le_trans Z0 K0_8.1) G5_8 G5_9) hZ (hw _ (List.mem_of_getElem? (i := 30) rfl)) (hw _ (List.mem_of_getElem? (i := 3) rfl)) (by decide) (by decide)) q7a q7c (g := (mkF m 140 #[.val (.int p0), .val (.int p1), .val (.int p2), .val (.int p3), .val (.int (0 : Int32)), .val (.int (0 : Int32)), .val (.int (0 : Int32)), .val (.int (p1 &&& (2147483647 : Int32))), .val (.int (p2 &&& (2147483647 : Int32))), .val (.int (p3 &&& (2147483647 : Int32))), .val (.ref b4), .val (.int (0 : Int32))] [(.ref b4)])) rfl (by rw [hml]; rfl) (Steps.refl _) (argsL := []) (rest := []) (lenOf pd__28_29Z rfl) rfl (by show 2 * 0 + _ ≤ _; exact Nat.le_of_eq rfl) (hb hby at_140) (fun _ _ => ⟨rfl, rfl, (by decide : 1 + 0 ≤ _), (by decide : 23 + 0 ≤ _)⟩)
        dsimp only [Pt.U, Pt.locs, Pt.cells, Pt.slots] at X7 l7 y7 z7 st7 hQ7
        subst l7 y7 z7
        obtain ⟨rfl, N7q, e7⟩ := hQ7
        obtain ⟨_, X7, N7⟩ := own_hide X7 (Fr.app N5 N7q)
        refine own_tr st7 ?_
        show own_Go _ _ _ _ T7 (mkF m 143 #[.val (.int p0), .val (.int p1), .val (.int p2), .val (.int p3), .val (.int (0 : Int32)), .val (.int (0 : Int32)), .val (.int (0 : Int32)), .val (.int (p1 &&& (2147483647 : Int32))), .val (.int (p2 &&& (2147483647 : Int32))), .val (.int (p3 &&& (2147483647 : Int32))), .val (.ref b4), .val (.int (0 : Int32))] [(.int (own_r (0 : Int32) (0 : Int32)))])
        refine own_st (fun t k => XS.iload X7.here hx rfl (hb hby at_143) rfl k) ?_
        show own_Go _ _ _ _ T7 (mkF m 145 #[.val (.int p0), .val (.int p1), .val (.int p2), .val (.int p3), .val (.int (0 : Int32)), .val (.int (0 : Int32)), .val (.int (0 : Int32)), .val (.int (p1 &&& (2147483647 : Int32))), .val (.int (p2 &&& (2147483647 : Int32))), .val (.int (p3 &&& (2147483647 : Int32))), .val (.ref b4), .val (.int (0 : Int32))] [(.int (0 : Int32)), (.int (own_r (0 : Int32) (0 : Int32)))])
        refine own_st (fun t k => XS.icmpNo X7.here hx rfl (hb hby at_145) rfl (teq (own_r_0 (by decide) (by decide) : (own_r (0 : Int32) (0 : Int32)) = (0 : Int32))).2 k) ?_
        show own_Go _ _ _ _ T7 (mkF m 148 #[.val (.int p0), .val (.int p1), .val (.int p2), .val (.int p3), .val (.int (0 : Int32)), .val (.int (0 : Int32)), .val (.int (0 : Int32)), .val (.int (p1 &&& (2147483647 : Int32))), .val (.int (p2 &&& (2147483647 : Int32))), .val (.int (p3 &&& (2147483647 : Int32))), .val (.ref b4), .val (.int (0 : Int32))] [])
        refine own_st (fun t k => XS.iconst X7.here hx rfl (hb hby at_148) k) ?_
        show own_Go _ _ _ _ T7 (mkF m 149 #[.val (.int p0), .val (.int p1), .val (.int p2), .val (.int p3), .val (.int (0 : Int32)), .val (.int (0 : Int32)), .val (.int (0 : Int32)), .val (.int (p1 &&& (2147483647 : Int32))), .val (.int (p2 &&& (2147483647 : Int32))), .val (.int (p3 &&& (2147483647 : Int32))), .val (.ref b4), .val (.int (0 : Int32))] [(.int (1 : Int32))])
        refine own_st (fun t k => XS.goto X7.here hx rfl (pc0 := 149) (pc' := 153) rfl (hb hby at_149) (by decide) (by decide) k) ?_
        show own_Go _ _ _ _ T7 (mkF m 153 #[.val (.int p0), .val (.int p1), .val (.int p2), .val (.int p3), .val (.int (0 : Int32)), .val (.int (0 : Int32)), .val (.int (0 : Int32)), .val (.int (p1 &&& (2147483647 : Int32))), .val (.int (p2 &&& (2147483647 : Int32))), .val (.int (p3 &&& (2147483647 : Int32))), .val (.ref b4), .val (.int (0 : Int32))] [(.int (1 : Int32))])
        have hk0_10 := (Nat.le_trans (Nat.le_trans hk0 E4.1) K5.1)
        exact own_retNW X7 hS0 (by rw [e7]; exact hk0_10) hx hlk (t := .boolean) hrt (by simp) (hb hby at_153) ⟨rfl, N7⟩ (by decide) (by decide)
      ·
        refine own_st (fun t k => XS.ifNo X0.here hx rfl (hb hby at_29) rfl ((if0 _ _).trans (feq c29_3).1) k) ?_
        show own_Go _ _ _ _ s₁ (mkF m 32 #[.val (.int p0), .val (.int p1), .val (.int p2), .val (.int p3), .val (.int (0 : Int32)), .val (.int (0 : Int32)), .unset, .unset, .unset, .unset, .unset, .unset] [])
        refine own_st (fun t k => XS.iconst X0.here hx rfl (hb hby at_32) k) ?_
        show own_Go _ _ _ _ s₁ (mkF m 33 #[.val (.int p0), .val (.int p1), .val (.int p2), .val (.int p3), .val (.int (0 : Int32)), .val (.int (0 : Int32)), .unset, .unset, .unset, .unset, .unset, .unset] [(.int (1 : Int32))])
        refine own_st (fun t k => XS.goto X0.here hx rfl (pc0 := 33) (pc' := 37) rfl (hb hby at_33) (by decide) (by decide) k) ?_
        show own_Go _ _ _ _ s₁ (mkF m 37 #[.val (.int p0), .val (.int p1), .val (.int p2), .val (.int p3), .val (.int (0 : Int32)), .val (.int (0 : Int32)), .unset, .unset, .unset, .unset, .unset, .unset] [(.int (1 : Int32))])
        refine own_st (fun t k => XS.istore X0.here hx rfl (hb hby at_37) rfl (l' := #[.val (.int p0), .val (.int p1), .val (.int p2), .val (.int p3), .val (.int (0 : Int32)), .val (.int (0 : Int32)), .val (.int (1 : Int32)), .unset, .unset, .unset, .unset, .unset]) rfl k) ?_
        show own_Go _ _ _ _ s₁ (mkF m 39 #[.val (.int p0), .val (.int p1), .val (.int p2), .val (.int p3), .val (.int (0 : Int32)), .val (.int (0 : Int32)), .val (.int (1 : Int32)), .unset, .unset, .unset, .unset, .unset] [])
        refine own_st (fun t k => XS.iloadN X0.here hx rfl (hb hby at_39) rfl k) ?_
        show own_Go _ _ _ _ s₁ (mkF m 40 #[.val (.int p0), .val (.int p1), .val (.int p2), .val (.int p3), .val (.int (0 : Int32)), .val (.int (0 : Int32)), .val (.int (1 : Int32)), .unset, .unset, .unset, .unset, .unset] [(.int p1)])
        refine own_st (X0.ldcInt hx hown (mvT hZ (hw _ (List.mem_of_getElem? (i := 0) rfl))) (g := (mkF m 40 #[.val (.int p0), .val (.int p1), .val (.int p2), .val (.int p3), .val (.int (0 : Int32)), .val (.int (0 : Int32)), .val (.int (1 : Int32)), .unset, .unset, .unset, .unset, .unset] [(.int p1)])) rfl (hb hby at_40)) ?_
        show own_Go _ _ _ _ s₁ (mkF m 42 #[.val (.int p0), .val (.int p1), .val (.int p2), .val (.int p3), .val (.int (0 : Int32)), .val (.int (0 : Int32)), .val (.int (1 : Int32)), .unset, .unset, .unset, .unset, .unset] [(.int (2147483647 : Int32)), (.int p1)])
        refine own_st (fun t k => XS.iand X0.here hx rfl (hb hby at_42) rfl k) ?_
        show own_Go _ _ _ _ s₁ (mkF m 43 #[.val (.int p0), .val (.int p1), .val (.int p2), .val (.int p3), .val (.int (0 : Int32)), .val (.int (0 : Int32)), .val (.int (1 : Int32)), .unset, .unset, .unset, .unset, .unset] [(.int (p1 &&& (2147483647 : Int32)))])
        refine own_st (fun t k => XS.istore X0.here hx rfl (hb hby at_43) rfl (l' := #[.val (.int p0), .val (.int p1), .val (.int p2), .val (.int p3), .val (.int (0 : Int32)), .val (.int (0 : Int32)), .val (.int (1 : Int32)), .val (.int (p1 &&& (2147483647 : Int32))), .unset, .unset, .unset, .unset]) rfl k) ?_
        show own_Go _ _ _ _ s₁ (mkF m 45 #[.val (.int p0), .val (.int p1), .val (.int p2), .val (.int p3), .val (.int (0 : Int32)), .val (.int (0 : Int32)), .val (.int (1 : Int32)), .val (.int (p1 &&& (2147483647 : Int32))), .unset, .unset, .unset, .unset] [])
        refine own_st (fun t k => XS.iloadN X0.here hx rfl (hb hby at_45) rfl k) ?_
        show own_Go _ _ _ _ s₁ (mkF m 46 #[.val (.int p0), .val (.int p1), .val (.int p2), .val (.int p3), .val (.int (0 : Int32)), .val (.int (0 : Int32)), .val (.int (1 : Int32)), .val (.int (p1 &&& (2147483647 : Int32))), .unset, .unset, .unset, .unset] [(.int p2)])
        refine own_st (X0.ldcInt hx hown (mvT hZ (hw _ (List.mem_of_getElem? (i := 0) rfl))) (g := (mkF m 46 #[.val (.int p0), .val (.int p1), .val (.int p2), .val (.int p3), .val (.int (0 : Int32)), .val (.int (0 : Int32)), .val (.int (1 : Int32)), .val (.int (p1 &&& (2147483647 : Int32))), .unset, .unset, .unset, .unset] [(.int p2)])) rfl (hb hby at_46)) ?_
        show own_Go _ _ _ _ s₁ (mkF m 48 #[.val (.int p0), .val (.int p1), .val (.int p2), .val (.int p3), .val (.int (0 : Int32)), .val (.int (0 : Int32)), .val (.int (1 : Int32)), .val (.int (p1 &&& (2147483647 : Int32))), .unset, .unset, .unset, .unset] [(.int (2147483647 : Int32)), (.int p2)])
        refine own_st (fun t k => XS.iand X0.here hx rfl (hb hby at_48) rfl k) ?_
        show own_Go _ _ _ _ s₁ (mkF m 49 #[.val (.int p0), .val (.int p1), .val (.int p2), .val (.int p3), .val (.int (0 : Int32)), .val (.int (0 : Int32)), .val (.int (1 : Int32)), .val (.int (p1 &&& (2147483647 : Int32))), .unset, .unset, .unset, .unset] [(.int (p2 &&& (2147483647 : Int32)))])
        refine own_st (fun t k => XS.istore X0.here hx rfl (hb hby at_49) rfl (l' := #[.val (.int p0), .val (.int p1), .val (.int p2), .val (.int p3), .val (.int (0 : Int32)), .val (.int (0 : Int32)), .val (.int (1 : Int32)), .val (.int (p1 &&& (2147483647 : Int32))), .val (.int (p2 &&& (2147483647 : Int32))), .unset, .unset, .unset]) rfl k) ?_
        show own_Go _ _ _ _ s₁ (mkF m 51 #[.val (.int p0), .val (.int p1), .val (.int p2), .val (.int p3), .val (.int (0 : Int32)), .val (.int (0 : Int32)), .val (.int (1 : Int32)), .val (.int (p1 &&& (2147483647 : Int32))), .val (.int (p2 &&& (2147483647 : Int32))), .unset, .unset, .unset] [])
        refine own_st (fun t k => XS.iloadN X0.here hx rfl (hb hby at_51) rfl k) ?_
        show own_Go _ _ _ _ s₁ (mkF m 52 #[.val (.int p0), .val (.int p1), .val (.int p2), .val (.int p3), .val (.int (0 : Int32)), .val (.int (0 : Int32)), .val (.int (1 : Int32)), .val (.int (p1 &&& (2147483647 : Int32))), .val (.int (p2 &&& (2147483647 : Int32))), .unset, .unset, .unset] [(.int p3)])
        refine own_st (X0.ldcInt hx hown (mvT hZ (hw _ (List.mem_of_getElem? (i := 0) rfl))) (g := (mkF m 52 #[.val (.int p0), .val (.int p1), .val (.int p2), .val (.int p3), .val (.int (0 : Int32)), .val (.int (0 : Int32)), .val (.int (1 : Int32)), .val (.int (p1 &&& (2147483647 : Int32))), .val (.int (p2 &&& (2147483647 : Int32))), .unset, .unset, .unset] [(.int p3)])) rfl (hb hby at_52)) ?_
        show own_Go _ _ _ _ s₁ (mkF m 54 #[.val (.int p0), .val (.int p1), .val (.int p2), .val (.int p3), .val (.int (0 : Int32)), .val (.int (0 : Int32)), .val (.int (1 : Int32)), .val (.int (p1 &&& (2147483647 : Int32))), .val (.int (p2 &&& (2147483647 : Int32))), .unset, .unset, .unset] [(.int (2147483647 : Int32)), (.int p3)])
        refine own_st (fun t k => XS.iand X0.here hx rfl (hb hby at_54) rfl k) ?_
        show own_Go _ _ _ _ s₁ (mkF m 55 #[.val (.int p0), .val (.int p1), .val (.int p2), .val (.int p3), .val (.int (0 : Int32)), .val (.int (0 : Int32)), .val (.int (1 : Int32)), .val (.int (p1 &&& (2147483647 : Int32))), .val (.int (p2 &&& (2147483647 : Int32))), .unset, .unset, .unset] [(.int (p3 &&& (2147483647 : Int32)))])
        refine own_st (fun t k => XS.istore X0.here hx rfl (hb hby at_55) rfl (l' := #[.val (.int p0), .val (.int p1), .val (.int p2), .val (.int p3), .val (.int (0 : Int32)), .val (.int (0 : Int32)), .val (.int (1 : Int32)), .val (.int (p1 &&& (2147483647 : Int32))), .val (.int (p2 &&& (2147483647 : Int32))), .val (.int (p3 &&& (2147483647 : Int32))), .unset, .unset]) rfl k) ?_
        show own_Go _ _ _ _ s₁ (mkF m 57 #[.val (.int p0), .val (.int p1), .val (.int p2), .val (.int p3), .val (.int (0 : Int32)), .val (.int (0 : Int32)), .val (.int (1 : Int32)), .val (.int (p1 &&& (2147483647 : Int32))), .val (.int (p2 &&& (2147483647 : Int32))), .val (.int (p3 &&& (2147483647 : Int32))), .unset, .unset] [])
        obtain ⟨T11, h11, X11, e11, E11, A11, D11, -, st11⟩ := newO X0 hx hZ hown (hw _ (List.mem_of_getElem? (i := 1) rfl)) (hw _ (List.mem_of_getElem? (i := 2) rfl)) (hw _ (List.mem_of_getElem? (i := 3) rfl)) e0 (g := (mkF m 57 #[.val (.int p0), .val (.int p1), .val (.int p2), .val (.int p3), .val (.int (0 : Int32)), .val (.int (0 : Int32)), .val (.int (1 : Int32)), .val (.int (p1 &&& (2147483647 : Int32))), .val (.int (p2 &&& (2147483647 : Int32))), .val (.int (p3 &&& (2147483647 : Int32))), .unset, .unset] [])) rfl (hb hby at_57) (by decide) (by decide)
        obtain ⟨b11, g11⟩ : ∃ z, z = h0.size := ⟨_, rfl⟩
        rw [← g11] at A11 D11 st11
        have sz_b11 : h0.size ≤ b11 := Nat.le_trans K0.1 (Nat.le_of_eq g11.symm)
        have g_b11 : n0 ≤ b11 := Nat.le_trans Z0 sz_b11
        have F11_maxPoolSize : Fld Z h11 b11 "com/example/hot_pool/hotpool/config/PoolSettings" "maxPoolSize" "I" (.int (0 : Int32)) := D11 (Or.inl (hw _ (List.mem_of_getElem? (i := 11) rfl))) (ty := .int) (by decide)
        have F11_connectionWaitTimeout : Fld Z h11 b11 "com/example/hot_pool/hotpool/config/PoolSettings" "connectionWaitTimeout" "I" (.int (0 : Int32)) := D11 (Or.inl (hw _ (List.mem_of_getElem? (i := 13) rfl))) (ty := .int) (by decide)
        have F11_propertyCycle : Fld Z h11 b11 "com/example/hot_pool/hotpool/config/PoolSettings" "propertyCycle" "I" (.int (0 : Int32)) := D11 (Or.inl (hw _ (List.mem_of_getElem? (i := 15) rfl))) (ty := .int) (by decide)
        have F11_validateOnBorrow : Fld Z h11 b11 "com/example/hot_pool/hotpool/config/PoolSettings" "validateOnBorrow" "Z" (.int (0 : Int32)) := D11 (Or.inl (hw _ (List.mem_of_getElem? (i := 17) rfl))) (ty := .boolean) (by decide)
        have F11_validationTimeout : Fld Z h11 b11 "com/example/hot_pool/hotpool/config/PoolSettings" "validationTimeout" "I" (.int (0 : Int32)) := D11 (Or.inl (hw _ (List.mem_of_getElem? (i := 19) rfl))) (ty := .int) (by decide)
        have F11_validationTrustTime : Fld Z h11 b11 "com/example/hot_pool/hotpool/config/PoolSettings" "validationTrustTime" "I" (.int (0 : Int32)) := D11 (Or.inl (hw _ (List.mem_of_getElem? (i := 21) rfl))) (ty := .int) (by decide)
        have F11_flushAfterFailedValidations : Fld Z h11 b11 "com/example/hot_pool/hotpool/config/PoolSettings" "flushAfterFailedValidations" "I" (.int (0 : Int32)) := D11 (Or.inl (hw _ (List.mem_of_getElem? (i := 23) rfl))) (ty := .int) (by decide)
        have F11_autoCommit : Fld Z h11 b11 "com/example/hot_pool/hotpool/config/PoolSettings" "autoCommit" "Z" (.int (0 : Int32)) := D11 (Or.inl (hw _ (List.mem_of_getElem? (i := 25) rfl))) (ty := .boolean) (by decide)
        have F11_abandonedConnectionTimeout : Fld Z h11 b11 "com/example/hot_pool/hotpool/config/PoolSettings" "abandonedConnectionTimeout" "I" (.int (0 : Int32)) := D11 (Or.inl (hw _ (List.mem_of_getElem? (i := 32) rfl))) (ty := .int) (by decide)
        have F11_borrowTimeToLive : Fld Z h11 b11 "com/example/hot_pool/hotpool/config/PoolSettings" "borrowTimeToLive" "I" (.int (0 : Int32)) := D11 (Or.inl (hw _ (List.mem_of_getElem? (i := 34) rfl))) (ty := .int) (by decide)
        have F11_maxConnectionAge : Fld Z h11 b11 "com/example/hot_pool/hotpool/config/PoolSettings" "maxConnectionAge" "I" (.int (0 : Int32)) := D11 (Or.inl (hw _ (List.mem_of_getElem? (i := 53) rfl))) (ty := .int) (by decide)
        have F11_maxIdleTime : Fld Z h11 b11 "com/example/hot_pool/hotpool/config/PoolSettings" "maxIdleTime" "I" (.int (0 : Int32)) := D11 (Or.inl (hw _ (List.mem_of_getElem? (i := 61) rfl))) (ty := .int) (by decide)
        refine own_st st11 ?_
        show own_Go _ _ _ _ T11 (mkF m 60 #[.val (.int p0), .val (.int p1), .val (.int p2), .val (.int p3), .val (.int (0 : Int32)), .val (.int (0 : Int32)), .val (.int (1 : Int32)), .val (.int (p1 &&& (2147483647 : Int32))), .val (.int (p2 &&& (2147483647 : Int32))), .val (.int (p3 &&& (2147483647 : Int32))), .unset, .unset] [(.ref b11)])
        refine own_st (fun t k => XS.dup X11.here hx rfl (hb hby at_60) rfl rfl k) ?_
        show own_Go _ _ _ _ T11 (mkF m 61 #[.val (.int p0), .val (.int p1), .val (.int p2), .val (.int p3), .val (.int (0 : Int32)), .val (.int (0 : Int32)), .val (.int (1 : Int32)), .val (.int (p1 &&& (2147483647 : Int32))), .val (.int (p2 &&& (2147483647 : Int32))), .val (.int (p3 &&& (2147483647 : Int32))), .unset, .unset] [(.ref b11), (.ref b11)])
        have K0_13 := (K0.ext E11)
        obtain ⟨_, _, ⟨T12, L12, k12, n12⟩, -, X12, ⟨Lc12, hQ12, l12, y12, z12⟩, st12⟩ := X11.specialBack hx (y := (⟨"com/example/hot_pool/hotpool/config/PoolSettings", "<init>", "()V"⟩ : MethodName)) rfl hown (mvT hZ (hw _ (List.mem_of_getElem? (i := 4) rfl))) (mvT hZ (hw _ (List.mem_of_getElem? (i := 5) rfl))) (mvT hZ (hw _ (List.mem_of_getElem? (i := 6) rfl))) (by decide) (backOf (W := 1) (rm1 l Z a0 hw [] b11  h11 n0 (Nat.le_trans Z0 K0_13.1) A11 F11_maxPoolSize F11_connectionWaitTimeout F11_propertyCycle F11_validateOnBorrow F11_validationTimeout F11_validationTrustTime F11_flushAfterFailedValidations F11_autoCommit F11_abandonedConnectionTimeout F11_borrowTimeToLive F11_maxConnectionAge F11_maxIdleTime g_b11) hZ (hw _ (List.mem_of_getElem? (i := 6) rfl)) (hw _ (List.mem_of_getElem? (i := 3) rfl)) (by decide) (by decide)) (g := (mkF m 61 #[.val (.int p0), .val (.int p1), .val (.int p2), .val (.int p3), .val (.int (0 : Int32)), .val (.int (0 : Int32)), .val (.int (1 : Int32)), .val (.int (p1 &&& (2147483647 : Int32))), .val (.int (p2 &&& (2147483647 : Int32))), .val (.int (p3 &&& (2147483647 : Int32))), .unset, .unset] [(.ref b11), (.ref b11)])) rfl (by rw [hml]; rfl) (Steps.refl _) (a := b11) (argsL := []) (rest := [(.ref b11)]) (lenOf pd__28_29V rfl) rfl (by show 2 * 0 + _ ≤ _; exact Nat.le_of_eq rfl) (hb hby at_61) (fun _ _ => ⟨rfl, e11, (by decide : 1 + 0 ≤ _), (by decide : 23 + 0 ≤ _)⟩)
        dsimp only [Pt.U, Pt.locs, Pt.cells, Pt.slots] at X12 l12 y12 z12 st12 hQ12
        subst l12 y12 z12
        obtain ⟨rfl, N12q, K12, G12_0, G12_1, G12_2, G12_3, G12_4, G12_5, G12_6, G12_7, G12_8, G12_9, G12_10, G12_11⟩ := hQ12
        obtain ⟨_, X12, N12⟩ := own_hide X12 (Fr.app N0 N12q)
        refine own_tr st12 ?_
        show own_Go _ _ _ _ T12 (mkF m 64 #[.val (.int p0), .val (.int p1), .val (.int p2), .val (.int p3), .val (.int (0 : Int32)), .val (.int (0 : Int32)), .val (.int (1 : Int32)), .val (.int (p1 &&& (2147483647 : Int32))), .val (.int (p2 &&& (2147483647 : Int32))), .val (.int (p3 &&& (2147483647 : Int32))), .unset, .unset] [(.ref b11)])
        refine own_st (fun t k => XS.astore X12.here hx rfl (hb hby at_64) rfl rfl (l' := #[.val (.int p0), .val (.int p1), .val (.int p2), .val (.int p3), .val (.int (0 : Int32)), .val (.int (0 : Int32)), .val (.int (1 : Int32)), .val (.int (p1 &&& (2147483647 : Int32))), .val (.int (p2 &&& (2147483647 : Int32))), .val (.int (p3 &&& (2147483647 : Int32))), .val (.ref b11), .unset]) rfl k) ?_
        show own_Go _ _ _ _ T12 (mkF m 66 #[.val (.int p0), .val (.int p1), .val (.int p2), .val (.int p3), .val (.int (0 : Int32)), .val (.int (0 : Int32)), .val (.int (1 : Int32)), .val (.int (p1 &&& (2147483647 : Int32))), .val (.int (p2 &&& (2147483647 : Int32))), .val (.int (p3 &&& (2147483647 : Int32))), .val (.ref b11), .unset] [])
        refine own_st (fun t k => XS.iload X12.here hx rfl (hb hby at_66) rfl k) ?_
        show own_Go _ _ _ _ T12 (mkF m 68 #[.val (.int p0), .val (.int p1), .val (.int p2), .val (.int p3), .val (.int (0 : Int32)), .val (.int (0 : Int32)), .val (.int (1 : Int32)), .val (.int (p1 &&& (2147483647 : Int32))), .val (.int (p2 &&& (2147483647 : Int32))), .val (.int (p3 &&& (2147483647 : Int32))), .val (.ref b11), .unset] [(.int (1 : Int32))])
        refine own_st (fun t k => XS.ifNo X12.here hx rfl (hb hby at_68) rfl ((if0 _ _).trans (feq (by decide : ¬ ((1 : Int32) = (0 : Int32)))).1) k) ?_
        show own_Go _ _ _ _ T12 (mkF m 71 #[.val (.int p0), .val (.int p1), .val (.int p2), .val (.int p3), .val (.int (0 : Int32)), .val (.int (0 : Int32)), .val (.int (1 : Int32)), .val (.int (p1 &&& (2147483647 : Int32))), .val (.int (p2 &&& (2147483647 : Int32))), .val (.int (p3 &&& (2147483647 : Int32))), .val (.ref b11), .unset] [])
        refine own_st (fun t k => XS.aload X12.here hx rfl (hb hby at_71) rfl rfl k) ?_
        show own_Go _ _ _ _ T12 (mkF m 73 #[.val (.int p0), .val (.int p1), .val (.int p2), .val (.int p3), .val (.int (0 : Int32)), .val (.int (0 : Int32)), .val (.int (1 : Int32)), .val (.int (p1 &&& (2147483647 : Int32))), .val (.int (p2 &&& (2147483647 : Int32))), .val (.int (p3 &&& (2147483647 : Int32))), .val (.ref b11), .unset] [(.ref b11)])
        refine own_st (fun t k => XS.iload X12.here hx rfl (hb hby at_73) rfl k) ?_
        show own_Go _ _ _ _ T12 (mkF m 75 #[.val (.int p0), .val (.int p1), .val (.int p2), .val (.int p3), .val (.int (0 : Int32)), .val (.int (0 : Int32)), .val (.int (1 : Int32)), .val (.int (p1 &&& (2147483647 : Int32))), .val (.int (p2 &&& (2147483647 : Int32))), .val (.int (p3 &&& (2147483647 : Int32))), .val (.ref b11), .unset] [(.int (p3 &&& (2147483647 : Int32))), (.ref b11)])
        have A11_14 := (A11.keep K12)
        have K0_16 := (K0_13.trans K12 (allS ((Or.inr sz_b11)) all0))
        have hk0_17 := (Nat.le_trans (Nat.le_trans hk0 E11.1) K12.1)
        obtain ⟨cq15, kq15, q15a, q15b, q15c⟩ := isOf hZ rfl A11_14
        obtain ⟨_, _, ⟨T15, L15, k15, n15⟩, -, X15, hs15, hg15, ⟨Lc15, hQ15, l15, y15, z15⟩, st15⟩ := X12.virtualBackS hx (y := (⟨"com/example/hot_pool/hotpool/config/PoolSettings", "setMaxConnectionAge", "(I)V"⟩ : MethodName)) (z := (⟨"com/example/hot_pool/hotpool/config/PoolSettings", "setMaxConnectionAge", "(I)V"⟩ : MethodName)) hown (mvT hZ (hw _ (List.mem_of_getElem? (i := 35) rfl))) (mvT hZ (hw _ (List.mem_of_getElem? (i := 36) rfl))) (notFace_of_selects (args := #[]) (mvT hZ (hw _ (List.mem_of_getElem? (i := 38) rfl)))) (mvT hZ (hw _ (List.mem_of_getElem? (i := 38) rfl))) (mvT hZ (hw _ (List.mem_of_getElem? (i := 37) rfl))) (by decide) (backOfS (W := 0) (rm4 l Z a0 hw [] b11 (p3 &&& (2147483647 : Int32)) (0 : Int32) (0 : Int32) (0 : Int32) (0 : Int32)  T12.heap n0 (Nat.le_trans Z0 K0_16.1) A11_14 G12_10 G12_11 G12_8 G12_9 g_b11 (own_nn _)) hZ (hw _ (List.mem_of_getElem? (i := 39) rfl)) (hw _ (List.mem_of_getElem? (i := 3) rfl)) (by decide) (by decide)) q15a q15c (g := (mkF m 75 #[.val (.int p0), .val (.int p1), .val (.int p2), .val (.int p3), .val (.int (0 : Int32)), .val (.int (0 : Int32)), .val (.int (1 : Int32)), .val (.int (p1 &&& (2147483647 : Int32))), .val (.int (p2 &&& (2147483647 : Int32))), .val (.int (p3 &&& (2147483647 : Int32))), .val (.ref b11), .unset] [(.int (p3 &&& (2147483647 : Int32))), (.ref b11)])) rfl (by rw [hml]; rfl) (Steps.refl _) (argsL := [(.int (p3 &&& (2147483647 : Int32)))]) (rest := []) (lenOf pd__28I_29V rfl) rfl (by show 2 * 0 + _ ≤ _; exact Nat.le_of_eq rfl) (hb hby at_75) (fun _ _ => ⟨rfl, rfl, (by decide : 1 + 2 ≤ _), (by decide : 23 + 68 ≤ _)⟩)
        dsimp only [Pt.U, Pt.locs, Pt.cells, Pt.slots] at X15 l15 y15 z15 st15 hQ15 hs15 hg15
        subst l15 y15 z15
        obtain ⟨rfl, N15q, K15, G15_0, G15_1, G15_2, G15_3⟩ := hQ15
        obtain ⟨_, X15, N15⟩ := own_hide X15 (Fr.app N12 N15q)
        have X15 := own_fold X15
        have hS15 := foldS hS0 hk0_17 hs15 hg15
        have hZ15 : Z.Warmed39 (s.setVm T15.vm).vm := own_wz hZ hs15
        have hown15 : (s.setVm T15.vm).vm.findClass "com/example/hot_pool/hotpool/config/PoolSettingsIsReclaimingPinLaw" = some m.cls := own_wo hown hs15
        refine own_tr st15 ?_
        show own_Go _ _ _ _ T15 (mkF m 78 #[.val (.int p0), .val (.int p1), .val (.int p2), .val (.int p3), .val (.int (0 : Int32)), .val (.int (0 : Int32)), .val (.int (1 : Int32)), .val (.int (p1 &&& (2147483647 : Int32))), .val (.int (p2 &&& (2147483647 : Int32))), .val (.int (p3 &&& (2147483647 : Int32))), .val (.ref b11), .unset] [])
        refine own_st (fun t k => XS.aload X15.here hx rfl (hb hby at_78) rfl rfl k) ?_
        show own_Go _ _ _ _ T15 (mkF m 80 #[.val (.int p0), .val (.int p1), .val (.int p2), .val (.int p3), .val (.int (0 : Int32)), .val (.int (0 : Int32)), .val (.int (1 : Int32)), .val (.int (p1 &&& (2147483647 : Int32))), .val (.int (p2 &&& (2147483647 : Int32))), .val (.int (p3 &&& (2147483647 : Int32))), .val (.ref b11), .unset] [(.ref b11)])
        refine own_st (fun t k => XS.iload X15.here hx rfl (hb hby at_80) rfl k) ?_
        show own_Go _ _ _ _ T15 (mkF m 82 #[.val (.int p0), .val (.int p1), .val (.int p2), .val (.int p3), .val (.int (0 : Int32)), .val (.int (0 : Int32)), .val (.int (1 : Int32)), .val (.int (p1 &&& (2147483647 : Int32))), .val (.int (p2 &&& (2147483647 : Int32))), .val (.int (p3 &&& (2147483647 : Int32))), .val (.ref b11), .unset] [(.int (p3 &&& (2147483647 : Int32))), (.ref b11)])
        have A11_18 := (A11_14.keep K15)
        have K0_20 := (K0_16.trans K15 (allS ((Or.inr sz_b11)) all0))
        obtain ⟨cq19, kq19, q19a, q19b, q19c⟩ := isOf hZ15 rfl A11_18
        obtain ⟨_, _, ⟨T19, L19, k19, n19⟩, -, X19, hs19, hg19, ⟨Lc19, hQ19, l19, y19, z19⟩, st19⟩ := X15.virtualBackS hx (y := (⟨"com/example/hot_pool/hotpool/config/PoolSettings", "setMaxIdleTime", "(I)V"⟩ : MethodName)) (z := (⟨"com/example/hot_pool/hotpool/config/PoolSettings", "setMaxIdleTime", "(I)V"⟩ : MethodName)) hown15 (mvT hZ15 (hw _ (List.mem_of_getElem? (i := 54) rfl))) (mvT hZ15 (hw _ (List.mem_of_getElem? (i := 55) rfl))) (notFace_of_selects (args := #[]) (mvT hZ15 (hw _ (List.mem_of_getElem? (i := 57) rfl)))) (mvT hZ15 (hw _ (List.mem_of_getElem? (i := 57) rfl))) (mvT hZ15 (hw _ (List.mem_of_getElem? (i := 56) rfl))) (by decide) (backOfS (W := 0) (rm6 l Z a0 hw [] b11 (p3 &&& (2147483647 : Int32)) (p3 &&& (2147483647 : Int32)) (0 : Int32) (0 : Int32) (0 : Int32)  T15.heap n0 (Nat.le_trans Z0 K0_20.1) A11_18 G15_0 G15_1 G15_2 G15_3 g_b11 (own_nn _)) hZ15 (hw _ (List.mem_of_getElem? (i := 58) rfl)) (hw _ (List.mem_of_getElem? (i := 3) rfl)) (by decide) (by decide)) q19a q19c (g := (mkF m 82 #[.val (.int p0), .val (.int p1), .val (.int p2), .val (.int p3), .val (.int (0 : Int32)), .val (.int (0 : Int32)), .val (.int (1 : Int32)), .val (.int (p1 &&& (2147483647 : Int32))), .val (.int (p2 &&& (2147483647 : Int32))), .val (.int (p3 &&& (2147483647 : Int32))), .val (.ref b11), .unset] [(.int (p3 &&& (2147483647 : Int32))), (.ref b11)])) rfl (by rw [hml]; rfl) (Steps.refl _) (argsL := [(.int (p3 &&& (2147483647 : Int32)))]) (rest := []) (lenOf pd__28I_29V rfl) rfl (by show 2 * 0 + _ ≤ _; exact Nat.le_of_eq rfl) (hb hby at_82) (fun _ _ => ⟨rfl, rfl, (by decide : 3 + 2 ≤ _), (by decide : 91 + 48 ≤ _)⟩)
        dsimp only [Pt.U, Pt.locs, Pt.cells, Pt.slots] at X19 l19 y19 z19 st19 hQ19 hs19 hg19
        subst l19 y19 z19
        obtain ⟨rfl, N19q, K19, G19_0, G19_1, G19_2, G19_3⟩ := hQ19
        obtain ⟨_, X19, N19⟩ := own_hide X19 (Fr.app N15 N19q)
        have X19 := own_fold X19
        have hS19 := foldS hS15 (Nat.le_refl T15.heap.size) hs19 hg19
        have hZ19 : Z.Warmed39 (s.setVm T19.vm).vm := own_wz hZ15 hs19
        have hown19 : (s.setVm T19.vm).vm.findClass "com/example/hot_pool/hotpool/config/PoolSettingsIsReclaimingPinLaw" = some m.cls := own_wo hown15 hs19
        refine own_tr st19 ?_
        show own_Go _ _ _ _ T19 (mkF m 85 #[.val (.int p0), .val (.int p1), .val (.int p2), .val (.int p3), .val (.int (0 : Int32)), .val (.int (0 : Int32)), .val (.int (1 : Int32)), .val (.int (p1 &&& (2147483647 : Int32))), .val (.int (p2 &&& (2147483647 : Int32))), .val (.int (p3 &&& (2147483647 : Int32))), .val (.ref b11), .unset] [])
        refine own_st (fun t k => XS.iload X19.here hx rfl (hb hby at_85) rfl k) ?_
        show own_Go _ _ _ _ T19 (mkF m 87 #[.val (.int p0), .val (.int p1), .val (.int p2), .val (.int p3), .val (.int (0 : Int32)), .val (.int (0 : Int32)), .val (.int (1 : Int32)), .val (.int (p1 &&& (2147483647 : Int32))), .val (.int (p2 &&& (2147483647 : Int32))), .val (.int (p3 &&& (2147483647 : Int32))), .val (.ref b11), .unset] [(.int (0 : Int32))])
        refine own_st (fun t k => XS.ifYes X19.here hx rfl (pc0 := 87) (pc' := 97) rfl (hb hby at_87) rfl ((if0 _ _).trans (teq (by decide : (0 : Int32) = (0 : Int32))).1) (by decide) (by decide) k) ?_
        show own_Go _ _ _ _ T19 (mkF m 97 #[.val (.int p0), .val (.int p1), .val (.int p2), .val (.int p3), .val (.int (0 : Int32)), .val (.int (0 : Int32)), .val (.int (1 : Int32)), .val (.int (p1 &&& (2147483647 : Int32))), .val (.int (p2 &&& (2147483647 : Int32))), .val (.int (p3 &&& (2147483647 : Int32))), .val (.ref b11), .unset] [])
        refine own_st (fun t k => XS.iload X19.here hx rfl (hb hby at_97) rfl k) ?_
        show own_Go _ _ _ _ T19 (mkF m 99 #[.val (.int p0), .val (.int p1), .val (.int p2), .val (.int p3), .val (.int (0 : Int32)), .val (.int (0 : Int32)), .val (.int (1 : Int32)), .val (.int (p1 &&& (2147483647 : Int32))), .val (.int (p2 &&& (2147483647 : Int32))), .val (.int (p3 &&& (2147483647 : Int32))), .val (.ref b11), .unset] [(.int (0 : Int32))])
        refine own_st (fun t k => XS.ifYes X19.here hx rfl (pc0 := 99) (pc' := 109) rfl (hb hby at_99) rfl ((if0 _ _).trans (teq (by decide : (0 : Int32) = (0 : Int32))).1) (by decide) (by decide) k) ?_
        show own_Go _ _ _ _ T19 (mkF m 109 #[.val (.int p0), .val (.int p1), .val (.int p2), .val (.int p3), .val (.int (0 : Int32)), .val (.int (0 : Int32)), .val (.int (1 : Int32)), .val (.int (p1 &&& (2147483647 : Int32))), .val (.int (p2 &&& (2147483647 : Int32))), .val (.int (p3 &&& (2147483647 : Int32))), .val (.ref b11), .unset] [])
        refine own_st (fun t k => XS.iconst X19.here hx rfl (hb hby at_109) k) ?_
        show own_Go _ _ _ _ T19 (mkF m 110 #[.val (.int p0), .val (.int p1), .val (.int p2), .val (.int p3), .val (.int (0 : Int32)), .val (.int (0 : Int32)), .val (.int (1 : Int32)), .val (.int (p1 &&& (2147483647 : Int32))), .val (.int (p2 &&& (2147483647 : Int32))), .val (.int (p3 &&& (2147483647 : Int32))), .val (.ref b11), .unset] [(.int (0 : Int32))])
        refine own_st (fun t k => XS.istore X19.here hx rfl (hb hby at_110) rfl (l' := #[.val (.int p0), .val (.int p1), .val (.int p2), .val (.int p3), .val (.int (0 : Int32)), .val (.int (0 : Int32)), .val (.int (1 : Int32)), .val (.int (p1 &&& (2147483647 : Int32))), .val (.int (p2 &&& (2147483647 : Int32))), .val (.int (p3 &&& (2147483647 : Int32))), .val (.ref b11), .val (.int (0 : Int32))]) rfl k) ?_
        show own_Go _ _ _ _ T19 (mkF m 112 #[.val (.int p0), .val (.int p1), .val (.int p2), .val (.int p3), .val (.int (0 : Int32)), .val (.int (0 : Int32)), .val (.int (1 : Int32)), .val (.int (p1 &&& (2147483647 : Int32))), .val (.int (p2 &&& (2147483647 : Int32))), .val (.int (p3 &&& (2147483647 : Int32))), .val (.ref b11), .val (.int (0 : Int32))] [])
        refine own_st (fun t k => XS.iload X19.here hx rfl (hb hby at_112) rfl k) ?_
        show own_Go _ _ _ _ T19 (mkF m 114 #[.val (.int p0), .val (.int p1), .val (.int p2), .val (.int p3), .val (.int (0 : Int32)), .val (.int (0 : Int32)), .val (.int (1 : Int32)), .val (.int (p1 &&& (2147483647 : Int32))), .val (.int (p2 &&& (2147483647 : Int32))), .val (.int (p3 &&& (2147483647 : Int32))), .val (.ref b11), .val (.int (0 : Int32))] [(.int (0 : Int32))])
        refine own_st (fun t k => XS.ifYes X19.here hx rfl (pc0 := 114) (pc' := 125) rfl (hb hby at_114) rfl ((if0 _ _).trans (teq (by decide : (0 : Int32) = (0 : Int32))).1) (by decide) (by decide) k) ?_
        show own_Go _ _ _ _ T19 (mkF m 125 #[.val (.int p0), .val (.int p1), .val (.int p2), .val (.int p3), .val (.int (0 : Int32)), .val (.int (0 : Int32)), .val (.int (1 : Int32)), .val (.int (p1 &&& (2147483647 : Int32))), .val (.int (p2 &&& (2147483647 : Int32))), .val (.int (p3 &&& (2147483647 : Int32))), .val (.ref b11), .val (.int (0 : Int32))] [])
        refine own_st (fun t k => XS.iload X19.here hx rfl (hb hby at_125) rfl k) ?_
        show own_Go _ _ _ _ T19 (mkF m 127 #[.val (.int p0), .val (.int p1), .val (.int p2), .val (.int p3), .val (.int (0 : Int32)), .val (.int (0 : Int32)), .val (.int (1 : Int32)), .val (.int (p1 &&& (2147483647 : Int32))), .val (.int (p2 &&& (2147483647 : Int32))), .val (.int (p3 &&& (2147483647 : Int32))), .val (.ref b11), .val (.int (0 : Int32))] [(.int (0 : Int32))])
        refine own_st (fun t k => XS.ifYes X19.here hx rfl (pc0 := 127) (pc' := 138) rfl (hb hby at_127) rfl ((if0 _ _).trans (teq (by decide : (0 : Int32) = (0 : Int32))).1) (by decide) (by decide) k) ?_
        show own_Go _ _ _ _ T19 (mkF m 138 #[.val (.int p0), .val (.int p1), .val (.int p2), .val (.int p3), .val (.int (0 : Int32)), .val (.int (0 : Int32)), .val (.int (1 : Int32)), .val (.int (p1 &&& (2147483647 : Int32))), .val (.int (p2 &&& (2147483647 : Int32))), .val (.int (p3 &&& (2147483647 : Int32))), .val (.ref b11), .val (.int (0 : Int32))] [])
        refine own_st (fun t k => XS.aload X19.here hx rfl (hb hby at_138) rfl rfl k) ?_
        show own_Go _ _ _ _ T19 (mkF m 140 #[.val (.int p0), .val (.int p1), .val (.int p2), .val (.int p3), .val (.int (0 : Int32)), .val (.int (0 : Int32)), .val (.int (1 : Int32)), .val (.int (p1 &&& (2147483647 : Int32))), .val (.int (p2 &&& (2147483647 : Int32))), .val (.int (p3 &&& (2147483647 : Int32))), .val (.ref b11), .val (.int (0 : Int32))] [(.ref b11)])
        have K0_22 := (K0_20.trans K19 (allS ((Or.inr sz_b11)) all0))
        have A11_23 := (A11_18.keep K19)
        obtain ⟨cq21, kq21, q21a, q21b, q21c⟩ := isOf hZ19 rfl A11_23
        obtain ⟨_, _, ⟨T21, L21, k21, n21⟩, -, X21, ⟨Lc21, hQ21, l21, y21, z21⟩, st21⟩ := X19.virtualBack hx (y := (⟨"com/example/hot_pool/hotpool/config/PoolSettings", "isReclaiming", "()Z"⟩ : MethodName)) (z := (⟨"com/example/hot_pool/hotpool/config/PoolSettings", "isReclaiming", "()Z"⟩ : MethodName)) hown19 (mvT hZ19 (hw _ (List.mem_of_getElem? (i := 26) rfl))) (mvT hZ19 (hw _ (List.mem_of_getElem? (i := 27) rfl))) (notFace_of_selects (args := #[]) (mvT hZ19 (hw _ (List.mem_of_getElem? (i := 29) rfl)))) (mvT hZ19 (hw _ (List.mem_of_getElem? (i := 29) rfl))) (mvT hZ19 (hw _ (List.mem_of_getElem? (i := 28) rfl))) (by decide) (backOf (W := 0) (rm3 l Z a0 hw [] b11 (0 : Int32) (0 : Int32)  T19.heap n0 (Nat.le_trans Z0 K0_22.1) G19_2 G19_3) hZ19 (hw _ (List.mem_of_getElem? (i := 30) rfl)) (hw _ (List.mem_of_getElem? (i := 3) rfl)) (by decide) (by decide)) q21a q21c (g := (mkF m 140 #[.val (.int p0), .val (.int p1), .val (.int p2), .val (.int p3), .val (.int (0 : Int32)), .val (.int (0 : Int32)), .val (.int (1 : Int32)), .val (.int (p1 &&& (2147483647 : Int32))), .val (.int (p2 &&& (2147483647 : Int32))), .val (.int (p3 &&& (2147483647 : Int32))), .val (.ref b11), .val (.int (0 : Int32))] [(.ref b11)])) rfl (by rw [hml]; rfl) (Steps.refl _) (argsL := []) (rest := []) (lenOf pd__28_29Z rfl) rfl (by show 2 * 0 + _ ≤ _; exact Nat.le_of_eq rfl) (hb hby at_140) (fun _ _ => ⟨rfl, rfl, (by decide : 5 + 0 ≤ _), (by decide : 139 + 0 ≤ _)⟩)
        dsimp only [Pt.U, Pt.locs, Pt.cells, Pt.slots] at X21 l21 y21 z21 st21 hQ21
        subst l21 y21 z21
        obtain ⟨rfl, N21q, e21⟩ := hQ21
        obtain ⟨_, X21, N21⟩ := own_hide X21 (Fr.app N19 N21q)
        refine own_tr st21 ?_
        show own_Go _ _ _ _ T21 (mkF m 143 #[.val (.int p0), .val (.int p1), .val (.int p2), .val (.int p3), .val (.int (0 : Int32)), .val (.int (0 : Int32)), .val (.int (1 : Int32)), .val (.int (p1 &&& (2147483647 : Int32))), .val (.int (p2 &&& (2147483647 : Int32))), .val (.int (p3 &&& (2147483647 : Int32))), .val (.ref b11), .val (.int (0 : Int32))] [(.int (own_r (0 : Int32) (0 : Int32)))])
        refine own_st (fun t k => XS.iload X21.here hx rfl (hb hby at_143) rfl k) ?_
        show own_Go _ _ _ _ T21 (mkF m 145 #[.val (.int p0), .val (.int p1), .val (.int p2), .val (.int p3), .val (.int (0 : Int32)), .val (.int (0 : Int32)), .val (.int (1 : Int32)), .val (.int (p1 &&& (2147483647 : Int32))), .val (.int (p2 &&& (2147483647 : Int32))), .val (.int (p3 &&& (2147483647 : Int32))), .val (.ref b11), .val (.int (0 : Int32))] [(.int (0 : Int32)), (.int (own_r (0 : Int32) (0 : Int32)))])
        refine own_st (fun t k => XS.icmpNo X21.here hx rfl (hb hby at_145) rfl (teq (own_r_0 (by decide) (by decide) : (own_r (0 : Int32) (0 : Int32)) = (0 : Int32))).2 k) ?_
        show own_Go _ _ _ _ T21 (mkF m 148 #[.val (.int p0), .val (.int p1), .val (.int p2), .val (.int p3), .val (.int (0 : Int32)), .val (.int (0 : Int32)), .val (.int (1 : Int32)), .val (.int (p1 &&& (2147483647 : Int32))), .val (.int (p2 &&& (2147483647 : Int32))), .val (.int (p3 &&& (2147483647 : Int32))), .val (.ref b11), .val (.int (0 : Int32))] [])
        refine own_st (fun t k => XS.iconst X21.here hx rfl (hb hby at_148) k) ?_
        show own_Go _ _ _ _ T21 (mkF m 149 #[.val (.int p0), .val (.int p1), .val (.int p2), .val (.int p3), .val (.int (0 : Int32)), .val (.int (0 : Int32)), .val (.int (1 : Int32)), .val (.int (p1 &&& (2147483647 : Int32))), .val (.int (p2 &&& (2147483647 : Int32))), .val (.int (p3 &&& (2147483647 : Int32))), .val (.ref b11), .val (.int (0 : Int32))] [(.int (1 : Int32))])
        refine own_st (fun t k => XS.goto X21.here hx rfl (pc0 := 149) (pc' := 153) rfl (hb hby at_149) (by decide) (by decide) k) ?_
        show own_Go _ _ _ _ T21 (mkF m 153 #[.val (.int p0), .val (.int p1), .val (.int p2), .val (.int p3), .val (.int (0 : Int32)), .val (.int (0 : Int32)), .val (.int (1 : Int32)), .val (.int (p1 &&& (2147483647 : Int32))), .val (.int (p2 &&& (2147483647 : Int32))), .val (.int (p3 &&& (2147483647 : Int32))), .val (.ref b11), .val (.int (0 : Int32))] [(.int (1 : Int32))])
        exact own_retNW X21 hS19 (by rw [e21]; exact (Nat.le_refl T19.heap.size)) hx hlk (t := .boolean) hrt (by simp) (hb hby at_153) ⟨rfl, N21⟩ (by decide) (by decide)
    ·
      refine own_st (fun t k => XS.ifNo X0.here hx rfl (hb hby at_16) rfl ((if0 _ _).trans (feq c16_2).1) k) ?_
      show own_Go _ _ _ _ s₁ (mkF m 19 #[.val (.int p0), .val (.int p1), .val (.int p2), .val (.int p3), .val (.int (0 : Int32)), .unset, .unset, .unset, .unset, .unset, .unset, .unset] [])
      refine own_st (fun t k => XS.iconst X0.here hx rfl (hb hby at_19) k) ?_
      show own_Go _ _ _ _ s₁ (mkF m 20 #[.val (.int p0), .val (.int p1), .val (.int p2), .val (.int p3), .val (.int (0 : Int32)), .unset, .unset, .unset, .unset, .unset, .unset, .unset] [(.int (1 : Int32))])
      refine own_st (fun t k => XS.goto X0.here hx rfl (pc0 := 20) (pc' := 24) rfl (hb hby at_20) (by decide) (by decide) k) ?_
      show own_Go _ _ _ _ s₁ (mkF m 24 #[.val (.int p0), .val (.int p1), .val (.int p2), .val (.int p3), .val (.int (0 : Int32)), .unset, .unset, .unset, .unset, .unset, .unset, .unset] [(.int (1 : Int32))])
      refine own_st (fun t k => XS.istore X0.here hx rfl (hb hby at_24) rfl (l' := #[.val (.int p0), .val (.int p1), .val (.int p2), .val (.int p3), .val (.int (0 : Int32)), .val (.int (1 : Int32)), .unset, .unset, .unset, .unset, .unset, .unset]) rfl k) ?_
      show own_Go _ _ _ _ s₁ (mkF m 26 #[.val (.int p0), .val (.int p1), .val (.int p2), .val (.int p3), .val (.int (0 : Int32)), .val (.int (1 : Int32)), .unset, .unset, .unset, .unset, .unset, .unset] [])
      refine own_st (fun t k => XS.iloadN X0.here hx rfl (hb hby at_26) rfl k) ?_
      show own_Go _ _ _ _ s₁ (mkF m 27 #[.val (.int p0), .val (.int p1), .val (.int p2), .val (.int p3), .val (.int (0 : Int32)), .val (.int (1 : Int32)), .unset, .unset, .unset, .unset, .unset, .unset] [(.int p0)])
      refine own_st (fun t k => XS.iconst X0.here hx rfl (hb hby at_27) k) ?_
      show own_Go _ _ _ _ s₁ (mkF m 28 #[.val (.int p0), .val (.int p1), .val (.int p2), .val (.int p3), .val (.int (0 : Int32)), .val (.int (1 : Int32)), .unset, .unset, .unset, .unset, .unset, .unset] [(.int (4 : Int32)), (.int p0)])
      refine own_st (fun t k => XS.iand X0.here hx rfl (hb hby at_28) rfl k) ?_
      show own_Go _ _ _ _ s₁ (mkF m 29 #[.val (.int p0), .val (.int p1), .val (.int p2), .val (.int p3), .val (.int (0 : Int32)), .val (.int (1 : Int32)), .unset, .unset, .unset, .unset, .unset, .unset] [(.int (p0 &&& (4 : Int32)))])
      by_cases c29_24 : (p0 &&& (4 : Int32)) = (0 : Int32)
      ·
        refine own_st (fun t k => XS.ifYes X0.here hx rfl (pc0 := 29) (pc' := 36) rfl (hb hby at_29) rfl ((if0 _ _).trans (teq c29_24).1) (by decide) (by decide) k) ?_
        show own_Go _ _ _ _ s₁ (mkF m 36 #[.val (.int p0), .val (.int p1), .val (.int p2), .val (.int p3), .val (.int (0 : Int32)), .val (.int (1 : Int32)), .unset, .unset, .unset, .unset, .unset, .unset] [])
        refine own_st (fun t k => XS.iconst X0.here hx rfl (hb hby at_36) k) ?_
        show own_Go _ _ _ _ s₁ (mkF m 37 #[.val (.int p0), .val (.int p1), .val (.int p2), .val (.int p3), .val (.int (0 : Int32)), .val (.int (1 : Int32)), .unset, .unset, .unset, .unset, .unset, .unset] [(.int (0 : Int32))])
        refine own_st (fun t k => XS.istore X0.here hx rfl (hb hby at_37) rfl (l' := #[.val (.int p0), .val (.int p1), .val (.int p2), .val (.int p3), .val (.int (0 : Int32)), .val (.int (1 : Int32)), .val (.int (0 : Int32)), .unset, .unset, .unset, .unset, .unset]) rfl k) ?_
        show own_Go _ _ _ _ s₁ (mkF m 39 #[.val (.int p0), .val (.int p1), .val (.int p2), .val (.int p3), .val (.int (0 : Int32)), .val (.int (1 : Int32)), .val (.int (0 : Int32)), .unset, .unset, .unset, .unset, .unset] [])
        refine own_st (fun t k => XS.iloadN X0.here hx rfl (hb hby at_39) rfl k) ?_
        show own_Go _ _ _ _ s₁ (mkF m 40 #[.val (.int p0), .val (.int p1), .val (.int p2), .val (.int p3), .val (.int (0 : Int32)), .val (.int (1 : Int32)), .val (.int (0 : Int32)), .unset, .unset, .unset, .unset, .unset] [(.int p1)])
        refine own_st (X0.ldcInt hx hown (mvT hZ (hw _ (List.mem_of_getElem? (i := 0) rfl))) (g := (mkF m 40 #[.val (.int p0), .val (.int p1), .val (.int p2), .val (.int p3), .val (.int (0 : Int32)), .val (.int (1 : Int32)), .val (.int (0 : Int32)), .unset, .unset, .unset, .unset, .unset] [(.int p1)])) rfl (hb hby at_40)) ?_
        show own_Go _ _ _ _ s₁ (mkF m 42 #[.val (.int p0), .val (.int p1), .val (.int p2), .val (.int p3), .val (.int (0 : Int32)), .val (.int (1 : Int32)), .val (.int (0 : Int32)), .unset, .unset, .unset, .unset, .unset] [(.int (2147483647 : Int32)), (.int p1)])
        refine own_st (fun t k => XS.iand X0.here hx rfl (hb hby at_42) rfl k) ?_
        show own_Go _ _ _ _ s₁ (mkF m 43 #[.val (.int p0), .val (.int p1), .val (.int p2), .val (.int p3), .val (.int (0 : Int32)), .val (.int (1 : Int32)), .val (.int (0 : Int32)), .unset, .unset, .unset, .unset, .unset] [(.int (p1 &&& (2147483647 : Int32)))])
        refine own_st (fun t k => XS.istore X0.here hx rfl (hb hby at_43) rfl (l' := #[.val (.int p0), .val (.int p1), .val (.int p2), .val (.int p3), .val (.int (0 : Int32)), .val (.int (1 : Int32)), .val (.int (0 : Int32)), .val (.int (p1 &&& (2147483647 : Int32))), .unset, .unset, .unset, .unset]) rfl k) ?_
        show own_Go _ _ _ _ s₁ (mkF m 45 #[.val (.int p0), .val (.int p1), .val (.int p2), .val (.int p3), .val (.int (0 : Int32)), .val (.int (1 : Int32)), .val (.int (0 : Int32)), .val (.int (p1 &&& (2147483647 : Int32))), .unset, .unset, .unset, .unset] [])
        refine own_st (fun t k => XS.iloadN X0.here hx rfl (hb hby at_45) rfl k) ?_
        show own_Go _ _ _ _ s₁ (mkF m 46 #[.val (.int p0), .val (.int p1), .val (.int p2), .val (.int p3), .val (.int (0 : Int32)), .val (.int (1 : Int32)), .val (.int (0 : Int32)), .val (.int (p1 &&& (2147483647 : Int32))), .unset, .unset, .unset, .unset] [(.int p2)])
        refine own_st (X0.ldcInt hx hown (mvT hZ (hw _ (List.mem_of_getElem? (i := 0) rfl))) (g := (mkF m 46 #[.val (.int p0), .val (.int p1), .val (.int p2), .val (.int p3), .val (.int (0 : Int32)), .val (.int (1 : Int32)), .val (.int (0 : Int32)), .val (.int (p1 &&& (2147483647 : Int32))), .unset, .unset, .unset, .unset] [(.int p2)])) rfl (hb hby at_46)) ?_
        show own_Go _ _ _ _ s₁ (mkF m 48 #[.val (.int p0), .val (.int p1), .val (.int p2), .val (.int p3), .val (.int (0 : Int32)), .val (.int (1 : Int32)), .val (.int (0 : Int32)), .val (.int (p1 &&& (2147483647 : Int32))), .unset, .unset, .unset, .unset] [(.int (2147483647 : Int32)), (.int p2)])
        refine own_st (fun t k => XS.iand X0.here hx rfl (hb hby at_48) rfl k) ?_
        show own_Go _ _ _ _ s₁ (mkF m 49 #[.val (.int p0), .val (.int p1), .val (.int p2), .val (.int p3), .val (.int (0 : Int32)), .val (.int (1 : Int32)), .val (.int (0 : Int32)), .val (.int (p1 &&& (2147483647 : Int32))), .unset, .unset, .unset, .unset] [(.int (p2 &&& (2147483647 : Int32)))])
        refine own_st (fun t k => XS.istore X0.here hx rfl (hb hby at_49) rfl (l' := #[.val (.int p0), .val (.int p1), .val (.int p2), .val (.int p3), .val (.int (0 : Int32)), .val (.int (1 : Int32)), .val (.int (0 : Int32)), .val (.int (p1 &&& (2147483647 : Int32))), .val (.int (p2 &&& (2147483647 : Int32))), .unset, .unset, .unset]) rfl k) ?_
        show own_Go _ _ _ _ s₁ (mkF m 51 #[.val (.int p0), .val (.int p1), .val (.int p2), .val (.int p3), .val (.int (0 : Int32)), .val (.int (1 : Int32)), .val (.int (0 : Int32)), .val (.int (p1 &&& (2147483647 : Int32))), .val (.int (p2 &&& (2147483647 : Int32))), .unset, .unset, .unset] [])
        refine own_st (fun t k => XS.iloadN X0.here hx rfl (hb hby at_51) rfl k) ?_
        show own_Go _ _ _ _ s₁ (mkF m 52 #[.val (.int p0), .val (.int p1), .val (.int p2), .val (.int p3), .val (.int (0 : Int32)), .val (.int (1 : Int32)), .val (.int (0 : Int32)), .val (.int (p1 &&& (2147483647 : Int32))), .val (.int (p2 &&& (2147483647 : Int32))), .unset, .unset, .unset] [(.int p3)])
        refine own_st (X0.ldcInt hx hown (mvT hZ (hw _ (List.mem_of_getElem? (i := 0) rfl))) (g := (mkF m 52 #[.val (.int p0), .val (.int p1), .val (.int p2), .val (.int p3), .val (.int (0 : Int32)), .val (.int (1 : Int32)), .val (.int (0 : Int32)), .val (.int (p1 &&& (2147483647 : Int32))), .val (.int (p2 &&& (2147483647 : Int32))), .unset, .unset, .unset] [(.int p3)])) rfl (hb hby at_52)) ?_
        show own_Go _ _ _ _ s₁ (mkF m 54 #[.val (.int p0), .val (.int p1), .val (.int p2), .val (.int p3), .val (.int (0 : Int32)), .val (.int (1 : Int32)), .val (.int (0 : Int32)), .val (.int (p1 &&& (2147483647 : Int32))), .val (.int (p2 &&& (2147483647 : Int32))), .unset, .unset, .unset] [(.int (2147483647 : Int32)), (.int p3)])
        refine own_st (fun t k => XS.iand X0.here hx rfl (hb hby at_54) rfl k) ?_
        show own_Go _ _ _ _ s₁ (mkF m 55 #[.val (.int p0), .val (.int p1), .val (.int p2), .val (.int p3), .val (.int (0 : Int32)), .val (.int (1 : Int32)), .val (.int (0 : Int32)), .val (.int (p1 &&& (2147483647 : Int32))), .val (.int (p2 &&& (2147483647 : Int32))), .unset, .unset, .unset] [(.int (p3 &&& (2147483647 : Int32)))])
        refine own_st (fun t k => XS.istore X0.here hx rfl (hb hby at_55) rfl (l' := #[.val (.int p0), .val (.int p1), .val (.int p2), .val (.int p3), .val (.int (0 : Int32)), .val (.int (1 : Int32)), .val (.int (0 : Int32)), .val (.int (p1 &&& (2147483647 : Int32))), .val (.int (p2 &&& (2147483647 : Int32))), .val (.int (p3 &&& (2147483647 : Int32))), .unset, .unset]) rfl k) ?_
        show own_Go _ _ _ _ s₁ (mkF m 57 #[.val (.int p0), .val (.int p1), .val (.int p2), .val (.int p3), .val (.int (0 : Int32)), .val (.int (1 : Int32)), .val (.int (0 : Int32)), .val (.int (p1 &&& (2147483647 : Int32))), .val (.int (p2 &&& (2147483647 : Int32))), .val (.int (p3 &&& (2147483647 : Int32))), .unset, .unset] [])
        obtain ⟨T25, h25, X25, e25, E25, A25, D25, -, st25⟩ := newO X0 hx hZ hown (hw _ (List.mem_of_getElem? (i := 1) rfl)) (hw _ (List.mem_of_getElem? (i := 2) rfl)) (hw _ (List.mem_of_getElem? (i := 3) rfl)) e0 (g := (mkF m 57 #[.val (.int p0), .val (.int p1), .val (.int p2), .val (.int p3), .val (.int (0 : Int32)), .val (.int (1 : Int32)), .val (.int (0 : Int32)), .val (.int (p1 &&& (2147483647 : Int32))), .val (.int (p2 &&& (2147483647 : Int32))), .val (.int (p3 &&& (2147483647 : Int32))), .unset, .unset] [])) rfl (hb hby at_57) (by decide) (by decide)
        obtain ⟨b25, g25⟩ : ∃ z, z = h0.size := ⟨_, rfl⟩
        rw [← g25] at A25 D25 st25
        have sz_b25 : h0.size ≤ b25 := Nat.le_trans K0.1 (Nat.le_of_eq g25.symm)
        have g_b25 : n0 ≤ b25 := Nat.le_trans Z0 sz_b25
        have F25_maxPoolSize : Fld Z h25 b25 "com/example/hot_pool/hotpool/config/PoolSettings" "maxPoolSize" "I" (.int (0 : Int32)) := D25 (Or.inl (hw _ (List.mem_of_getElem? (i := 11) rfl))) (ty := .int) (by decide)
        have F25_connectionWaitTimeout : Fld Z h25 b25 "com/example/hot_pool/hotpool/config/PoolSettings" "connectionWaitTimeout" "I" (.int (0 : Int32)) := D25 (Or.inl (hw _ (List.mem_of_getElem? (i := 13) rfl))) (ty := .int) (by decide)
        have F25_propertyCycle : Fld Z h25 b25 "com/example/hot_pool/hotpool/config/PoolSettings" "propertyCycle" "I" (.int (0 : Int32)) := D25 (Or.inl (hw _ (List.mem_of_getElem? (i := 15) rfl))) (ty := .int) (by decide)
        have F25_validateOnBorrow : Fld Z h25 b25 "com/example/hot_pool/hotpool/config/PoolSettings" "validateOnBorrow" "Z" (.int (0 : Int32)) := D25 (Or.inl (hw _ (List.mem_of_getElem? (i := 17) rfl))) (ty := .boolean) (by decide)
        have F25_validationTimeout : Fld Z h25 b25 "com/example/hot_pool/hotpool/config/PoolSettings" "validationTimeout" "I" (.int (0 : Int32)) := D25 (Or.inl (hw _ (List.mem_of_getElem? (i := 19) rfl))) (ty := .int) (by decide)
        have F25_validationTrustTime : Fld Z h25 b25 "com/example/hot_pool/hotpool/config/PoolSettings" "validationTrustTime" "I" (.int (0 : Int32)) := D25 (Or.inl (hw _ (List.mem_of_getElem? (i := 21) rfl))) (ty := .int) (by decide)
        have F25_flushAfterFailedValidations : Fld Z h25 b25 "com/example/hot_pool/hotpool/config/PoolSettings" "flushAfterFailedValidations" "I" (.int (0 : Int32)) := D25 (Or.inl (hw _ (List.mem_of_getElem? (i := 23) rfl))) (ty := .int) (by decide)
        have F25_autoCommit : Fld Z h25 b25 "com/example/hot_pool/hotpool/config/PoolSettings" "autoCommit" "Z" (.int (0 : Int32)) := D25 (Or.inl (hw _ (List.mem_of_getElem? (i := 25) rfl))) (ty := .boolean) (by decide)
        have F25_abandonedConnectionTimeout : Fld Z h25 b25 "com/example/hot_pool/hotpool/config/PoolSettings" "abandonedConnectionTimeout" "I" (.int (0 : Int32)) := D25 (Or.inl (hw _ (List.mem_of_getElem? (i := 32) rfl))) (ty := .int) (by decide)
        have F25_borrowTimeToLive : Fld Z h25 b25 "com/example/hot_pool/hotpool/config/PoolSettings" "borrowTimeToLive" "I" (.int (0 : Int32)) := D25 (Or.inl (hw _ (List.mem_of_getElem? (i := 34) rfl))) (ty := .int) (by decide)
        have F25_maxConnectionAge : Fld Z h25 b25 "com/example/hot_pool/hotpool/config/PoolSettings" "maxConnectionAge" "I" (.int (0 : Int32)) := D25 (Or.inl (hw _ (List.mem_of_getElem? (i := 53) rfl))) (ty := .int) (by decide)
        have F25_maxIdleTime : Fld Z h25 b25 "com/example/hot_pool/hotpool/config/PoolSettings" "maxIdleTime" "I" (.int (0 : Int32)) := D25 (Or.inl (hw _ (List.mem_of_getElem? (i := 61) rfl))) (ty := .int) (by decide)
        refine own_st st25 ?_
        show own_Go _ _ _ _ T25 (mkF m 60 #[.val (.int p0), .val (.int p1), .val (.int p2), .val (.int p3), .val (.int (0 : Int32)), .val (.int (1 : Int32)), .val (.int (0 : Int32)), .val (.int (p1 &&& (2147483647 : Int32))), .val (.int (p2 &&& (2147483647 : Int32))), .val (.int (p3 &&& (2147483647 : Int32))), .unset, .unset] [(.ref b25)])
        refine own_st (fun t k => XS.dup X25.here hx rfl (hb hby at_60) rfl rfl k) ?_
        show own_Go _ _ _ _ T25 (mkF m 61 #[.val (.int p0), .val (.int p1), .val (.int p2), .val (.int p3), .val (.int (0 : Int32)), .val (.int (1 : Int32)), .val (.int (0 : Int32)), .val (.int (p1 &&& (2147483647 : Int32))), .val (.int (p2 &&& (2147483647 : Int32))), .val (.int (p3 &&& (2147483647 : Int32))), .unset, .unset] [(.ref b25), (.ref b25)])
        have K0_27 := (K0.ext E25)
        obtain ⟨_, _, ⟨T26, L26, k26, n26⟩, -, X26, ⟨Lc26, hQ26, l26, y26, z26⟩, st26⟩ := X25.specialBack hx (y := (⟨"com/example/hot_pool/hotpool/config/PoolSettings", "<init>", "()V"⟩ : MethodName)) rfl hown (mvT hZ (hw _ (List.mem_of_getElem? (i := 4) rfl))) (mvT hZ (hw _ (List.mem_of_getElem? (i := 5) rfl))) (mvT hZ (hw _ (List.mem_of_getElem? (i := 6) rfl))) (by decide) (backOf (W := 1) (rm1 l Z a0 hw [] b25  h25 n0 (Nat.le_trans Z0 K0_27.1) A25 F25_maxPoolSize F25_connectionWaitTimeout F25_propertyCycle F25_validateOnBorrow F25_validationTimeout F25_validationTrustTime F25_flushAfterFailedValidations F25_autoCommit F25_abandonedConnectionTimeout F25_borrowTimeToLive F25_maxConnectionAge F25_maxIdleTime g_b25) hZ (hw _ (List.mem_of_getElem? (i := 6) rfl)) (hw _ (List.mem_of_getElem? (i := 3) rfl)) (by decide) (by decide)) (g := (mkF m 61 #[.val (.int p0), .val (.int p1), .val (.int p2), .val (.int p3), .val (.int (0 : Int32)), .val (.int (1 : Int32)), .val (.int (0 : Int32)), .val (.int (p1 &&& (2147483647 : Int32))), .val (.int (p2 &&& (2147483647 : Int32))), .val (.int (p3 &&& (2147483647 : Int32))), .unset, .unset] [(.ref b25), (.ref b25)])) rfl (by rw [hml]; rfl) (Steps.refl _) (a := b25) (argsL := []) (rest := [(.ref b25)]) (lenOf pd__28_29V rfl) rfl (by show 2 * 0 + _ ≤ _; exact Nat.le_of_eq rfl) (hb hby at_61) (fun _ _ => ⟨rfl, e25, (by decide : 1 + 0 ≤ _), (by decide : 23 + 0 ≤ _)⟩)
        dsimp only [Pt.U, Pt.locs, Pt.cells, Pt.slots] at X26 l26 y26 z26 st26 hQ26
        subst l26 y26 z26
        obtain ⟨rfl, N26q, K26, G26_0, G26_1, G26_2, G26_3, G26_4, G26_5, G26_6, G26_7, G26_8, G26_9, G26_10, G26_11⟩ := hQ26
        obtain ⟨_, X26, N26⟩ := own_hide X26 (Fr.app N0 N26q)
        refine own_tr st26 ?_
        show own_Go _ _ _ _ T26 (mkF m 64 #[.val (.int p0), .val (.int p1), .val (.int p2), .val (.int p3), .val (.int (0 : Int32)), .val (.int (1 : Int32)), .val (.int (0 : Int32)), .val (.int (p1 &&& (2147483647 : Int32))), .val (.int (p2 &&& (2147483647 : Int32))), .val (.int (p3 &&& (2147483647 : Int32))), .unset, .unset] [(.ref b25)])
        refine own_st (fun t k => XS.astore X26.here hx rfl (hb hby at_64) rfl rfl (l' := #[.val (.int p0), .val (.int p1), .val (.int p2), .val (.int p3), .val (.int (0 : Int32)), .val (.int (1 : Int32)), .val (.int (0 : Int32)), .val (.int (p1 &&& (2147483647 : Int32))), .val (.int (p2 &&& (2147483647 : Int32))), .val (.int (p3 &&& (2147483647 : Int32))), .val (.ref b25), .unset]) rfl k) ?_
        show own_Go _ _ _ _ T26 (mkF m 66 #[.val (.int p0), .val (.int p1), .val (.int p2), .val (.int p3), .val (.int (0 : Int32)), .val (.int (1 : Int32)), .val (.int (0 : Int32)), .val (.int (p1 &&& (2147483647 : Int32))), .val (.int (p2 &&& (2147483647 : Int32))), .val (.int (p3 &&& (2147483647 : Int32))), .val (.ref b25), .unset] [])
        refine own_st (fun t k => XS.iload X26.here hx rfl (hb hby at_66) rfl k) ?_
        show own_Go _ _ _ _ T26 (mkF m 68 #[.val (.int p0), .val (.int p1), .val (.int p2), .val (.int p3), .val (.int (0 : Int32)), .val (.int (1 : Int32)), .val (.int (0 : Int32)), .val (.int (p1 &&& (2147483647 : Int32))), .val (.int (p2 &&& (2147483647 : Int32))), .val (.int (p3 &&& (2147483647 : Int32))), .val (.ref b25), .unset] [(.int (0 : Int32))])
        refine own_st (fun t k => XS.ifYes X26.here hx rfl (pc0 := 68) (pc' := 85) rfl (hb hby at_68) rfl ((if0 _ _).trans (teq (by decide : (0 : Int32) = (0 : Int32))).1) (by decide) (by decide) k) ?_
        show own_Go _ _ _ _ T26 (mkF m 85 #[.val (.int p0), .val (.int p1), .val (.int p2), .val (.int p3), .val (.int (0 : Int32)), .val (.int (1 : Int32)), .val (.int (0 : Int32)), .val (.int (p1 &&& (2147483647 : Int32))), .val (.int (p2 &&& (2147483647 : Int32))), .val (.int (p3 &&& (2147483647 : Int32))), .val (.ref b25), .unset] [])
        refine own_st (fun t k => XS.iload X26.here hx rfl (hb hby at_85) rfl k) ?_
        show own_Go _ _ _ _ T26 (mkF m 87 #[.val (.int p0), .val (.int p1), .val (.int p2), .val (.int p3), .val (.int (0 : Int32)), .val (.int (1 : Int32)), .val (.int (0 : Int32)), .val (.int (p1 &&& (2147483647 : Int32))), .val (.int (p2 &&& (2147483647 : Int32))), .val (.int (p3 &&& (2147483647 : Int32))), .val (.ref b25), .unset] [(.int (0 : Int32))])
        refine own_st (fun t k => XS.ifYes X26.here hx rfl (pc0 := 87) (pc' := 97) rfl (hb hby at_87) rfl ((if0 _ _).trans (teq (by decide : (0 : Int32) = (0 : Int32))).1) (by decide) (by decide) k) ?_
        show own_Go _ _ _ _ T26 (mkF m 97 #[.val (.int p0), .val (.int p1), .val (.int p2), .val (.int p3), .val (.int (0 : Int32)), .val (.int (1 : Int32)), .val (.int (0 : Int32)), .val (.int (p1 &&& (2147483647 : Int32))), .val (.int (p2 &&& (2147483647 : Int32))), .val (.int (p3 &&& (2147483647 : Int32))), .val (.ref b25), .unset] [])
        refine own_st (fun t k => XS.iload X26.here hx rfl (hb hby at_97) rfl k) ?_
        show own_Go _ _ _ _ T26 (mkF m 99 #[.val (.int p0), .val (.int p1), .val (.int p2), .val (.int p3), .val (.int (0 : Int32)), .val (.int (1 : Int32)), .val (.int (0 : Int32)), .val (.int (p1 &&& (2147483647 : Int32))), .val (.int (p2 &&& (2147483647 : Int32))), .val (.int (p3 &&& (2147483647 : Int32))), .val (.ref b25), .unset] [(.int (1 : Int32))])
        refine own_st (fun t k => XS.ifNo X26.here hx rfl (hb hby at_99) rfl ((if0 _ _).trans (feq (by decide : ¬ ((1 : Int32) = (0 : Int32)))).1) k) ?_
        show own_Go _ _ _ _ T26 (mkF m 102 #[.val (.int p0), .val (.int p1), .val (.int p2), .val (.int p3), .val (.int (0 : Int32)), .val (.int (1 : Int32)), .val (.int (0 : Int32)), .val (.int (p1 &&& (2147483647 : Int32))), .val (.int (p2 &&& (2147483647 : Int32))), .val (.int (p3 &&& (2147483647 : Int32))), .val (.ref b25), .unset] [])
        refine own_st (fun t k => XS.aload X26.here hx rfl (hb hby at_102) rfl rfl k) ?_
        show own_Go _ _ _ _ T26 (mkF m 104 #[.val (.int p0), .val (.int p1), .val (.int p2), .val (.int p3), .val (.int (0 : Int32)), .val (.int (1 : Int32)), .val (.int (0 : Int32)), .val (.int (p1 &&& (2147483647 : Int32))), .val (.int (p2 &&& (2147483647 : Int32))), .val (.int (p3 &&& (2147483647 : Int32))), .val (.ref b25), .unset] [(.ref b25)])
        refine own_st (fun t k => XS.iload X26.here hx rfl (hb hby at_104) rfl k) ?_
        show own_Go _ _ _ _ T26 (mkF m 106 #[.val (.int p0), .val (.int p1), .val (.int p2), .val (.int p3), .val (.int (0 : Int32)), .val (.int (1 : Int32)), .val (.int (0 : Int32)), .val (.int (p1 &&& (2147483647 : Int32))), .val (.int (p2 &&& (2147483647 : Int32))), .val (.int (p3 &&& (2147483647 : Int32))), .val (.ref b25), .unset] [(.int (p2 &&& (2147483647 : Int32))), (.ref b25)])
        have A25_28 := (A25.keep K26)
        have K0_30 := (K0_27.trans K26 (allS ((Or.inr sz_b25)) all0))
        have hk0_31 := (Nat.le_trans (Nat.le_trans hk0 E25.1) K26.1)
        obtain ⟨cq29, kq29, q29a, q29b, q29c⟩ := isOf hZ rfl A25_28
        obtain ⟨_, _, ⟨T29, L29, k29, n29⟩, -, X29, hs29, hg29, ⟨Lc29, hQ29, l29, y29, z29⟩, st29⟩ := X26.virtualBackS hx (y := (⟨"com/example/hot_pool/hotpool/config/PoolSettings", "setBorrowTimeToLive", "(I)V"⟩ : MethodName)) (z := (⟨"com/example/hot_pool/hotpool/config/PoolSettings", "setBorrowTimeToLive", "(I)V"⟩ : MethodName)) hown (mvT hZ (hw _ (List.mem_of_getElem? (i := 68) rfl))) (mvT hZ (hw _ (List.mem_of_getElem? (i := 69) rfl))) (notFace_of_selects (args := #[]) (mvT hZ (hw _ (List.mem_of_getElem? (i := 71) rfl)))) (mvT hZ (hw _ (List.mem_of_getElem? (i := 71) rfl))) (mvT hZ (hw _ (List.mem_of_getElem? (i := 70) rfl))) (by decide) (backOfS (W := 0) (rm8 l Z a0 hw [] b25 (p2 &&& (2147483647 : Int32)) (0 : Int32) (0 : Int32) (0 : Int32) (0 : Int32)  T26.heap n0 (Nat.le_trans Z0 K0_30.1) A25_28 G26_10 G26_11 G26_8 G26_9 g_b25 (own_nn _)) hZ (hw _ (List.mem_of_getElem? (i := 72) rfl)) (hw _ (List.mem_of_getElem? (i := 3) rfl)) (by decide) (by decide)) q29a q29c (g := (mkF m 106 #[.val (.int p0), .val (.int p1), .val (.int p2), .val (.int p3), .val (.int (0 : Int32)), .val (.int (1 : Int32)), .val (.int (0 : Int32)), .val (.int (p1 &&& (2147483647 : Int32))), .val (.int (p2 &&& (2147483647 : Int32))), .val (.int (p3 &&& (2147483647 : Int32))), .val (.ref b25), .unset] [(.int (p2 &&& (2147483647 : Int32))), (.ref b25)])) rfl (by rw [hml]; rfl) (Steps.refl _) (argsL := [(.int (p2 &&& (2147483647 : Int32)))]) (rest := []) (lenOf pd__28I_29V rfl) rfl (by show 2 * 0 + _ ≤ _; exact Nat.le_of_eq rfl) (hb hby at_106) (fun _ _ => ⟨rfl, rfl, (by decide : 1 + 2 ≤ _), (by decide : 23 + 68 ≤ _)⟩)
        dsimp only [Pt.U, Pt.locs, Pt.cells, Pt.slots] at X29 l29 y29 z29 st29 hQ29 hs29 hg29
        subst l29 y29 z29
        obtain ⟨rfl, N29q, K29, G29_0, G29_1, G29_2, G29_3⟩ := hQ29
        obtain ⟨_, X29, N29⟩ := own_hide X29 (Fr.app N26 N29q)
        have X29 := own_fold X29
        have hS29 := foldS hS0 hk0_31 hs29 hg29
        have hZ29 : Z.Warmed39 (s.setVm T29.vm).vm := own_wz hZ hs29
        have hown29 : (s.setVm T29.vm).vm.findClass "com/example/hot_pool/hotpool/config/PoolSettingsIsReclaimingPinLaw" = some m.cls := own_wo hown hs29
        refine own_tr st29 ?_
        show own_Go _ _ _ _ T29 (mkF m 109 #[.val (.int p0), .val (.int p1), .val (.int p2), .val (.int p3), .val (.int (0 : Int32)), .val (.int (1 : Int32)), .val (.int (0 : Int32)), .val (.int (p1 &&& (2147483647 : Int32))), .val (.int (p2 &&& (2147483647 : Int32))), .val (.int (p3 &&& (2147483647 : Int32))), .val (.ref b25), .unset] [])
        refine own_st (fun t k => XS.iconst X29.here hx rfl (hb hby at_109) k) ?_
        show own_Go _ _ _ _ T29 (mkF m 110 #[.val (.int p0), .val (.int p1), .val (.int p2), .val (.int p3), .val (.int (0 : Int32)), .val (.int (1 : Int32)), .val (.int (0 : Int32)), .val (.int (p1 &&& (2147483647 : Int32))), .val (.int (p2 &&& (2147483647 : Int32))), .val (.int (p3 &&& (2147483647 : Int32))), .val (.ref b25), .unset] [(.int (0 : Int32))])
        refine own_st (fun t k => XS.istore X29.here hx rfl (hb hby at_110) rfl (l' := #[.val (.int p0), .val (.int p1), .val (.int p2), .val (.int p3), .val (.int (0 : Int32)), .val (.int (1 : Int32)), .val (.int (0 : Int32)), .val (.int (p1 &&& (2147483647 : Int32))), .val (.int (p2 &&& (2147483647 : Int32))), .val (.int (p3 &&& (2147483647 : Int32))), .val (.ref b25), .val (.int (0 : Int32))]) rfl k) ?_
        show own_Go _ _ _ _ T29 (mkF m 112 #[.val (.int p0), .val (.int p1), .val (.int p2), .val (.int p3), .val (.int (0 : Int32)), .val (.int (1 : Int32)), .val (.int (0 : Int32)), .val (.int (p1 &&& (2147483647 : Int32))), .val (.int (p2 &&& (2147483647 : Int32))), .val (.int (p3 &&& (2147483647 : Int32))), .val (.ref b25), .val (.int (0 : Int32))] [])
        refine own_st (fun t k => XS.iload X29.here hx rfl (hb hby at_112) rfl k) ?_
        show own_Go _ _ _ _ T29 (mkF m 114 #[.val (.int p0), .val (.int p1), .val (.int p2), .val (.int p3), .val (.int (0 : Int32)), .val (.int (1 : Int32)), .val (.int (0 : Int32)), .val (.int (p1 &&& (2147483647 : Int32))), .val (.int (p2 &&& (2147483647 : Int32))), .val (.int (p3 &&& (2147483647 : Int32))), .val (.ref b25), .val (.int (0 : Int32))] [(.int (0 : Int32))])
        refine own_st (fun t k => XS.ifYes X29.here hx rfl (pc0 := 114) (pc' := 125) rfl (hb hby at_114) rfl ((if0 _ _).trans (teq (by decide : (0 : Int32) = (0 : Int32))).1) (by decide) (by decide) k) ?_
        show own_Go _ _ _ _ T29 (mkF m 125 #[.val (.int p0), .val (.int p1), .val (.int p2), .val (.int p3), .val (.int (0 : Int32)), .val (.int (1 : Int32)), .val (.int (0 : Int32)), .val (.int (p1 &&& (2147483647 : Int32))), .val (.int (p2 &&& (2147483647 : Int32))), .val (.int (p3 &&& (2147483647 : Int32))), .val (.ref b25), .val (.int (0 : Int32))] [])
        refine own_st (fun t k => XS.iload X29.here hx rfl (hb hby at_125) rfl k) ?_
        show own_Go _ _ _ _ T29 (mkF m 127 #[.val (.int p0), .val (.int p1), .val (.int p2), .val (.int p3), .val (.int (0 : Int32)), .val (.int (1 : Int32)), .val (.int (0 : Int32)), .val (.int (p1 &&& (2147483647 : Int32))), .val (.int (p2 &&& (2147483647 : Int32))), .val (.int (p3 &&& (2147483647 : Int32))), .val (.ref b25), .val (.int (0 : Int32))] [(.int (1 : Int32))])
        refine own_st (fun t k => XS.ifNo X29.here hx rfl (hb hby at_127) rfl ((if0 _ _).trans (feq (by decide : ¬ ((1 : Int32) = (0 : Int32)))).1) k) ?_
        show own_Go _ _ _ _ T29 (mkF m 130 #[.val (.int p0), .val (.int p1), .val (.int p2), .val (.int p3), .val (.int (0 : Int32)), .val (.int (1 : Int32)), .val (.int (0 : Int32)), .val (.int (p1 &&& (2147483647 : Int32))), .val (.int (p2 &&& (2147483647 : Int32))), .val (.int (p3 &&& (2147483647 : Int32))), .val (.ref b25), .val (.int (0 : Int32))] [])
        refine own_st (fun t k => XS.iload X29.here hx rfl (hb hby at_130) rfl k) ?_
        show own_Go _ _ _ _ T29 (mkF m 132 #[.val (.int p0), .val (.int p1), .val (.int p2), .val (.int p3), .val (.int (0 : Int32)), .val (.int (1 : Int32)), .val (.int (0 : Int32)), .val (.int (p1 &&& (2147483647 : Int32))), .val (.int (p2 &&& (2147483647 : Int32))), .val (.int (p3 &&& (2147483647 : Int32))), .val (.ref b25), .val (.int (0 : Int32))] [(.int (p2 &&& (2147483647 : Int32)))])
        by_cases c132_32 : (p2 &&& (2147483647 : Int32)) = (0 : Int32)
        ·
          refine own_st (fun t k => XS.ifYes X29.here hx rfl (pc0 := 132) (pc' := 138) rfl (hb hby at_132) rfl ((if0 _ _).trans (teq c132_32).1) (by decide) (by decide) k) ?_
          show own_Go _ _ _ _ T29 (mkF m 138 #[.val (.int p0), .val (.int p1), .val (.int p2), .val (.int p3), .val (.int (0 : Int32)), .val (.int (1 : Int32)), .val (.int (0 : Int32)), .val (.int (p1 &&& (2147483647 : Int32))), .val (.int (p2 &&& (2147483647 : Int32))), .val (.int (p3 &&& (2147483647 : Int32))), .val (.ref b25), .val (.int (0 : Int32))] [])
          refine own_st (fun t k => XS.aload X29.here hx rfl (hb hby at_138) rfl rfl k) ?_
          show own_Go _ _ _ _ T29 (mkF m 140 #[.val (.int p0), .val (.int p1), .val (.int p2), .val (.int p3), .val (.int (0 : Int32)), .val (.int (1 : Int32)), .val (.int (0 : Int32)), .val (.int (p1 &&& (2147483647 : Int32))), .val (.int (p2 &&& (2147483647 : Int32))), .val (.int (p3 &&& (2147483647 : Int32))), .val (.ref b25), .val (.int (0 : Int32))] [(.ref b25)])
          have K0_34 := (K0_30.trans K29 (allS ((Or.inr sz_b25)) all0))
          have A25_35 := (A25_28.keep K29)
          obtain ⟨cq33, kq33, q33a, q33b, q33c⟩ := isOf hZ29 rfl A25_35
          obtain ⟨_, _, ⟨T33, L33, k33, n33⟩, -, X33, ⟨Lc33, hQ33, l33, y33, z33⟩, st33⟩ := X29.virtualBack hx (y := (⟨"com/example/hot_pool/hotpool/config/PoolSettings", "isReclaiming", "()Z"⟩ : MethodName)) (z := (⟨"com/example/hot_pool/hotpool/config/PoolSettings", "isReclaiming", "()Z"⟩ : MethodName)) hown29 (mvT hZ29 (hw _ (List.mem_of_getElem? (i := 26) rfl))) (mvT hZ29 (hw _ (List.mem_of_getElem? (i := 27) rfl))) (notFace_of_selects (args := #[]) (mvT hZ29 (hw _ (List.mem_of_getElem? (i := 29) rfl)))) (mvT hZ29 (hw _ (List.mem_of_getElem? (i := 29) rfl))) (mvT hZ29 (hw _ (List.mem_of_getElem? (i := 28) rfl))) (by decide) (backOf (W := 0) (rm3 l Z a0 hw [] b25 (0 : Int32) (p2 &&& (2147483647 : Int32))  T29.heap n0 (Nat.le_trans Z0 K0_34.1) G29_2 G29_3) hZ29 (hw _ (List.mem_of_getElem? (i := 30) rfl)) (hw _ (List.mem_of_getElem? (i := 3) rfl)) (by decide) (by decide)) q33a q33c (g := (mkF m 140 #[.val (.int p0), .val (.int p1), .val (.int p2), .val (.int p3), .val (.int (0 : Int32)), .val (.int (1 : Int32)), .val (.int (0 : Int32)), .val (.int (p1 &&& (2147483647 : Int32))), .val (.int (p2 &&& (2147483647 : Int32))), .val (.int (p3 &&& (2147483647 : Int32))), .val (.ref b25), .val (.int (0 : Int32))] [(.ref b25)])) rfl (by rw [hml]; rfl) (Steps.refl _) (argsL := []) (rest := []) (lenOf pd__28_29Z rfl) rfl (by show 2 * 0 + _ ≤ _; exact Nat.le_of_eq rfl) (hb hby at_140) (fun _ _ => ⟨rfl, rfl, (by decide : 3 + 0 ≤ _), (by decide : 91 + 0 ≤ _)⟩)
          dsimp only [Pt.U, Pt.locs, Pt.cells, Pt.slots] at X33 l33 y33 z33 st33 hQ33
          subst l33 y33 z33
          obtain ⟨rfl, N33q, e33⟩ := hQ33
          obtain ⟨_, X33, N33⟩ := own_hide X33 (Fr.app N29 N33q)
          refine own_tr st33 ?_
          show own_Go _ _ _ _ T33 (mkF m 143 #[.val (.int p0), .val (.int p1), .val (.int p2), .val (.int p3), .val (.int (0 : Int32)), .val (.int (1 : Int32)), .val (.int (0 : Int32)), .val (.int (p1 &&& (2147483647 : Int32))), .val (.int (p2 &&& (2147483647 : Int32))), .val (.int (p3 &&& (2147483647 : Int32))), .val (.ref b25), .val (.int (0 : Int32))] [(.int (own_r (0 : Int32) (p2 &&& (2147483647 : Int32))))])
          refine own_st (fun t k => XS.iload X33.here hx rfl (hb hby at_143) rfl k) ?_
          show own_Go _ _ _ _ T33 (mkF m 145 #[.val (.int p0), .val (.int p1), .val (.int p2), .val (.int p3), .val (.int (0 : Int32)), .val (.int (1 : Int32)), .val (.int (0 : Int32)), .val (.int (p1 &&& (2147483647 : Int32))), .val (.int (p2 &&& (2147483647 : Int32))), .val (.int (p3 &&& (2147483647 : Int32))), .val (.ref b25), .val (.int (0 : Int32))] [(.int (0 : Int32)), (.int (own_r (0 : Int32) (p2 &&& (2147483647 : Int32))))])
          refine own_st (fun t k => XS.icmpNo X33.here hx rfl (hb hby at_145) rfl (teq (own_r_0 (by decide) (own_mz c132_32) : (own_r (0 : Int32) (p2 &&& (2147483647 : Int32))) = (0 : Int32))).2 k) ?_
          show own_Go _ _ _ _ T33 (mkF m 148 #[.val (.int p0), .val (.int p1), .val (.int p2), .val (.int p3), .val (.int (0 : Int32)), .val (.int (1 : Int32)), .val (.int (0 : Int32)), .val (.int (p1 &&& (2147483647 : Int32))), .val (.int (p2 &&& (2147483647 : Int32))), .val (.int (p3 &&& (2147483647 : Int32))), .val (.ref b25), .val (.int (0 : Int32))] [])
          refine own_st (fun t k => XS.iconst X33.here hx rfl (hb hby at_148) k) ?_
          show own_Go _ _ _ _ T33 (mkF m 149 #[.val (.int p0), .val (.int p1), .val (.int p2), .val (.int p3), .val (.int (0 : Int32)), .val (.int (1 : Int32)), .val (.int (0 : Int32)), .val (.int (p1 &&& (2147483647 : Int32))), .val (.int (p2 &&& (2147483647 : Int32))), .val (.int (p3 &&& (2147483647 : Int32))), .val (.ref b25), .val (.int (0 : Int32))] [(.int (1 : Int32))])
          refine own_st (fun t k => XS.goto X33.here hx rfl (pc0 := 149) (pc' := 153) rfl (hb hby at_149) (by decide) (by decide) k) ?_
          show own_Go _ _ _ _ T33 (mkF m 153 #[.val (.int p0), .val (.int p1), .val (.int p2), .val (.int p3), .val (.int (0 : Int32)), .val (.int (1 : Int32)), .val (.int (0 : Int32)), .val (.int (p1 &&& (2147483647 : Int32))), .val (.int (p2 &&& (2147483647 : Int32))), .val (.int (p3 &&& (2147483647 : Int32))), .val (.ref b25), .val (.int (0 : Int32))] [(.int (1 : Int32))])
          exact own_retNW X33 hS29 (by rw [e33]; exact (Nat.le_refl T29.heap.size)) hx hlk (t := .boolean) hrt (by simp) (hb hby at_153) ⟨rfl, N33⟩ (by decide) (by decide)
        ·
          refine own_st (fun t k => XS.ifNo X29.here hx rfl (hb hby at_132) rfl ((if0 _ _).trans (feq c132_32).1) k) ?_
          show own_Go _ _ _ _ T29 (mkF m 135 #[.val (.int p0), .val (.int p1), .val (.int p2), .val (.int p3), .val (.int (0 : Int32)), .val (.int (1 : Int32)), .val (.int (0 : Int32)), .val (.int (p1 &&& (2147483647 : Int32))), .val (.int (p2 &&& (2147483647 : Int32))), .val (.int (p3 &&& (2147483647 : Int32))), .val (.ref b25), .val (.int (0 : Int32))] [])
          refine own_st (fun t k => XS.iconst X29.here hx rfl (hb hby at_135) k) ?_
          show own_Go _ _ _ _ T29 (mkF m 136 #[.val (.int p0), .val (.int p1), .val (.int p2), .val (.int p3), .val (.int (0 : Int32)), .val (.int (1 : Int32)), .val (.int (0 : Int32)), .val (.int (p1 &&& (2147483647 : Int32))), .val (.int (p2 &&& (2147483647 : Int32))), .val (.int (p3 &&& (2147483647 : Int32))), .val (.ref b25), .val (.int (0 : Int32))] [(.int (1 : Int32))])
          refine own_st (fun t k => XS.istore X29.here hx rfl (hb hby at_136) rfl (l' := #[.val (.int p0), .val (.int p1), .val (.int p2), .val (.int p3), .val (.int (0 : Int32)), .val (.int (1 : Int32)), .val (.int (0 : Int32)), .val (.int (p1 &&& (2147483647 : Int32))), .val (.int (p2 &&& (2147483647 : Int32))), .val (.int (p3 &&& (2147483647 : Int32))), .val (.ref b25), .val (.int (1 : Int32))]) rfl k) ?_
          show own_Go _ _ _ _ T29 (mkF m 138 #[.val (.int p0), .val (.int p1), .val (.int p2), .val (.int p3), .val (.int (0 : Int32)), .val (.int (1 : Int32)), .val (.int (0 : Int32)), .val (.int (p1 &&& (2147483647 : Int32))), .val (.int (p2 &&& (2147483647 : Int32))), .val (.int (p3 &&& (2147483647 : Int32))), .val (.ref b25), .val (.int (1 : Int32))] [])
          refine own_st (fun t k => XS.aload X29.here hx rfl (hb hby at_138) rfl rfl k) ?_
          show own_Go _ _ _ _ T29 (mkF m 140 #[.val (.int p0), .val (.int p1), .val (.int p2), .val (.int p3), .val (.int (0 : Int32)), .val (.int (1 : Int32)), .val (.int (0 : Int32)), .val (.int (p1 &&& (2147483647 : Int32))), .val (.int (p2 &&& (2147483647 : Int32))), .val (.int (p3 &&& (2147483647 : Int32))), .val (.ref b25), .val (.int (1 : Int32))] [(.ref b25)])
          have K0_37 := (K0_30.trans K29 (allS ((Or.inr sz_b25)) all0))
          have A25_38 := (A25_28.keep K29)
          obtain ⟨cq36, kq36, q36a, q36b, q36c⟩ := isOf hZ29 rfl A25_38
          obtain ⟨_, _, ⟨T36, L36, k36, n36⟩, -, X36, ⟨Lc36, hQ36, l36, y36, z36⟩, st36⟩ := X29.virtualBack hx (y := (⟨"com/example/hot_pool/hotpool/config/PoolSettings", "isReclaiming", "()Z"⟩ : MethodName)) (z := (⟨"com/example/hot_pool/hotpool/config/PoolSettings", "isReclaiming", "()Z"⟩ : MethodName)) hown29 (mvT hZ29 (hw _ (List.mem_of_getElem? (i := 26) rfl))) (mvT hZ29 (hw _ (List.mem_of_getElem? (i := 27) rfl))) (notFace_of_selects (args := #[]) (mvT hZ29 (hw _ (List.mem_of_getElem? (i := 29) rfl)))) (mvT hZ29 (hw _ (List.mem_of_getElem? (i := 29) rfl))) (mvT hZ29 (hw _ (List.mem_of_getElem? (i := 28) rfl))) (by decide) (backOf (W := 0) (rm3 l Z a0 hw [] b25 (0 : Int32) (p2 &&& (2147483647 : Int32))  T29.heap n0 (Nat.le_trans Z0 K0_37.1) G29_2 G29_3) hZ29 (hw _ (List.mem_of_getElem? (i := 30) rfl)) (hw _ (List.mem_of_getElem? (i := 3) rfl)) (by decide) (by decide)) q36a q36c (g := (mkF m 140 #[.val (.int p0), .val (.int p1), .val (.int p2), .val (.int p3), .val (.int (0 : Int32)), .val (.int (1 : Int32)), .val (.int (0 : Int32)), .val (.int (p1 &&& (2147483647 : Int32))), .val (.int (p2 &&& (2147483647 : Int32))), .val (.int (p3 &&& (2147483647 : Int32))), .val (.ref b25), .val (.int (1 : Int32))] [(.ref b25)])) rfl (by rw [hml]; rfl) (Steps.refl _) (argsL := []) (rest := []) (lenOf pd__28_29Z rfl) rfl (by show 2 * 0 + _ ≤ _; exact Nat.le_of_eq rfl) (hb hby at_140) (fun _ _ => ⟨rfl, rfl, (by decide : 3 + 0 ≤ _), (by decide : 91 + 0 ≤ _)⟩)
          dsimp only [Pt.U, Pt.locs, Pt.cells, Pt.slots] at X36 l36 y36 z36 st36 hQ36
          subst l36 y36 z36
          obtain ⟨rfl, N36q, e36⟩ := hQ36
          obtain ⟨_, X36, N36⟩ := own_hide X36 (Fr.app N29 N36q)
          refine own_tr st36 ?_
          show own_Go _ _ _ _ T36 (mkF m 143 #[.val (.int p0), .val (.int p1), .val (.int p2), .val (.int p3), .val (.int (0 : Int32)), .val (.int (1 : Int32)), .val (.int (0 : Int32)), .val (.int (p1 &&& (2147483647 : Int32))), .val (.int (p2 &&& (2147483647 : Int32))), .val (.int (p3 &&& (2147483647 : Int32))), .val (.ref b25), .val (.int (1 : Int32))] [(.int (own_r (0 : Int32) (p2 &&& (2147483647 : Int32))))])
          refine own_st (fun t k => XS.iload X36.here hx rfl (hb hby at_143) rfl k) ?_
          show own_Go _ _ _ _ T36 (mkF m 145 #[.val (.int p0), .val (.int p1), .val (.int p2), .val (.int p3), .val (.int (0 : Int32)), .val (.int (1 : Int32)), .val (.int (0 : Int32)), .val (.int (p1 &&& (2147483647 : Int32))), .val (.int (p2 &&& (2147483647 : Int32))), .val (.int (p3 &&& (2147483647 : Int32))), .val (.ref b25), .val (.int (1 : Int32))] [(.int (1 : Int32)), (.int (own_r (0 : Int32) (p2 &&& (2147483647 : Int32))))])
          refine own_st (fun t k => XS.icmpNo X36.here hx rfl (hb hby at_145) rfl (teq (own_r_b (by decide) (own_mp c132_32) : (own_r (0 : Int32) (p2 &&& (2147483647 : Int32))) = (1 : Int32))).2 k) ?_
          show own_Go _ _ _ _ T36 (mkF m 148 #[.val (.int p0), .val (.int p1), .val (.int p2), .val (.int p3), .val (.int (0 : Int32)), .val (.int (1 : Int32)), .val (.int (0 : Int32)), .val (.int (p1 &&& (2147483647 : Int32))), .val (.int (p2 &&& (2147483647 : Int32))), .val (.int (p3 &&& (2147483647 : Int32))), .val (.ref b25), .val (.int (1 : Int32))] [])
          refine own_st (fun t k => XS.iconst X36.here hx rfl (hb hby at_148) k) ?_
          show own_Go _ _ _ _ T36 (mkF m 149 #[.val (.int p0), .val (.int p1), .val (.int p2), .val (.int p3), .val (.int (0 : Int32)), .val (.int (1 : Int32)), .val (.int (0 : Int32)), .val (.int (p1 &&& (2147483647 : Int32))), .val (.int (p2 &&& (2147483647 : Int32))), .val (.int (p3 &&& (2147483647 : Int32))), .val (.ref b25), .val (.int (1 : Int32))] [(.int (1 : Int32))])
          refine own_st (fun t k => XS.goto X36.here hx rfl (pc0 := 149) (pc' := 153) rfl (hb hby at_149) (by decide) (by decide) k) ?_
          show own_Go _ _ _ _ T36 (mkF m 153 #[.val (.int p0), .val (.int p1), .val (.int p2), .val (.int p3), .val (.int (0 : Int32)), .val (.int (1 : Int32)), .val (.int (0 : Int32)), .val (.int (p1 &&& (2147483647 : Int32))), .val (.int (p2 &&& (2147483647 : Int32))), .val (.int (p3 &&& (2147483647 : Int32))), .val (.ref b25), .val (.int (1 : Int32))] [(.int (1 : Int32))])
          exact own_retNW X36 hS29 (by rw [e36]; exact (Nat.le_refl T29.heap.size)) hx hlk (t := .boolean) hrt (by simp) (hb hby at_153) ⟨rfl, N36⟩ (by decide) (by decide)
      ·
        refine own_st (fun t k => XS.ifNo X0.here hx rfl (hb hby at_29) rfl ((if0 _ _).trans (feq c29_24).1) k) ?_
        show own_Go _ _ _ _ s₁ (mkF m 32 #[.val (.int p0), .val (.int p1), .val (.int p2), .val (.int p3), .val (.int (0 : Int32)), .val (.int (1 : Int32)), .unset, .unset, .unset, .unset, .unset, .unset] [])
        refine own_st (fun t k => XS.iconst X0.here hx rfl (hb hby at_32) k) ?_
        show own_Go _ _ _ _ s₁ (mkF m 33 #[.val (.int p0), .val (.int p1), .val (.int p2), .val (.int p3), .val (.int (0 : Int32)), .val (.int (1 : Int32)), .unset, .unset, .unset, .unset, .unset, .unset] [(.int (1 : Int32))])
        refine own_st (fun t k => XS.goto X0.here hx rfl (pc0 := 33) (pc' := 37) rfl (hb hby at_33) (by decide) (by decide) k) ?_
        show own_Go _ _ _ _ s₁ (mkF m 37 #[.val (.int p0), .val (.int p1), .val (.int p2), .val (.int p3), .val (.int (0 : Int32)), .val (.int (1 : Int32)), .unset, .unset, .unset, .unset, .unset, .unset] [(.int (1 : Int32))])
        refine own_st (fun t k => XS.istore X0.here hx rfl (hb hby at_37) rfl (l' := #[.val (.int p0), .val (.int p1), .val (.int p2), .val (.int p3), .val (.int (0 : Int32)), .val (.int (1 : Int32)), .val (.int (1 : Int32)), .unset, .unset, .unset, .unset, .unset]) rfl k) ?_
        show own_Go _ _ _ _ s₁ (mkF m 39 #[.val (.int p0), .val (.int p1), .val (.int p2), .val (.int p3), .val (.int (0 : Int32)), .val (.int (1 : Int32)), .val (.int (1 : Int32)), .unset, .unset, .unset, .unset, .unset] [])
        refine own_st (fun t k => XS.iloadN X0.here hx rfl (hb hby at_39) rfl k) ?_
        show own_Go _ _ _ _ s₁ (mkF m 40 #[.val (.int p0), .val (.int p1), .val (.int p2), .val (.int p3), .val (.int (0 : Int32)), .val (.int (1 : Int32)), .val (.int (1 : Int32)), .unset, .unset, .unset, .unset, .unset] [(.int p1)])
        refine own_st (X0.ldcInt hx hown (mvT hZ (hw _ (List.mem_of_getElem? (i := 0) rfl))) (g := (mkF m 40 #[.val (.int p0), .val (.int p1), .val (.int p2), .val (.int p3), .val (.int (0 : Int32)), .val (.int (1 : Int32)), .val (.int (1 : Int32)), .unset, .unset, .unset, .unset, .unset] [(.int p1)])) rfl (hb hby at_40)) ?_
        show own_Go _ _ _ _ s₁ (mkF m 42 #[.val (.int p0), .val (.int p1), .val (.int p2), .val (.int p3), .val (.int (0 : Int32)), .val (.int (1 : Int32)), .val (.int (1 : Int32)), .unset, .unset, .unset, .unset, .unset] [(.int (2147483647 : Int32)), (.int p1)])
        refine own_st (fun t k => XS.iand X0.here hx rfl (hb hby at_42) rfl k) ?_
        show own_Go _ _ _ _ s₁ (mkF m 43 #[.val (.int p0), .val (.int p1), .val (.int p2), .val (.int p3), .val (.int (0 : Int32)), .val (.int (1 : Int32)), .val (.int (1 : Int32)), .unset, .unset, .unset, .unset, .unset] [(.int (p1 &&& (2147483647 : Int32)))])
        refine own_st (fun t k => XS.istore X0.here hx rfl (hb hby at_43) rfl (l' := #[.val (.int p0), .val (.int p1), .val (.int p2), .val (.int p3), .val (.int (0 : Int32)), .val (.int (1 : Int32)), .val (.int (1 : Int32)), .val (.int (p1 &&& (2147483647 : Int32))), .unset, .unset, .unset, .unset]) rfl k) ?_
        show own_Go _ _ _ _ s₁ (mkF m 45 #[.val (.int p0), .val (.int p1), .val (.int p2), .val (.int p3), .val (.int (0 : Int32)), .val (.int (1 : Int32)), .val (.int (1 : Int32)), .val (.int (p1 &&& (2147483647 : Int32))), .unset, .unset, .unset, .unset] [])
        refine own_st (fun t k => XS.iloadN X0.here hx rfl (hb hby at_45) rfl k) ?_
        show own_Go _ _ _ _ s₁ (mkF m 46 #[.val (.int p0), .val (.int p1), .val (.int p2), .val (.int p3), .val (.int (0 : Int32)), .val (.int (1 : Int32)), .val (.int (1 : Int32)), .val (.int (p1 &&& (2147483647 : Int32))), .unset, .unset, .unset, .unset] [(.int p2)])
        refine own_st (X0.ldcInt hx hown (mvT hZ (hw _ (List.mem_of_getElem? (i := 0) rfl))) (g := (mkF m 46 #[.val (.int p0), .val (.int p1), .val (.int p2), .val (.int p3), .val (.int (0 : Int32)), .val (.int (1 : Int32)), .val (.int (1 : Int32)), .val (.int (p1 &&& (2147483647 : Int32))), .unset, .unset, .unset, .unset] [(.int p2)])) rfl (hb hby at_46)) ?_
        show own_Go _ _ _ _ s₁ (mkF m 48 #[.val (.int p0), .val (.int p1), .val (.int p2), .val (.int p3), .val (.int (0 : Int32)), .val (.int (1 : Int32)), .val (.int (1 : Int32)), .val (.int (p1 &&& (2147483647 : Int32))), .unset, .unset, .unset, .unset] [(.int (2147483647 : Int32)), (.int p2)])
        refine own_st (fun t k => XS.iand X0.here hx rfl (hb hby at_48) rfl k) ?_
        show own_Go _ _ _ _ s₁ (mkF m 49 #[.val (.int p0), .val (.int p1), .val (.int p2), .val (.int p3), .val (.int (0 : Int32)), .val (.int (1 : Int32)), .val (.int (1 : Int32)), .val (.int (p1 &&& (2147483647 : Int32))), .unset, .unset, .unset, .unset] [(.int (p2 &&& (2147483647 : Int32)))])
        refine own_st (fun t k => XS.istore X0.here hx rfl (hb hby at_49) rfl (l' := #[.val (.int p0), .val (.int p1), .val (.int p2), .val (.int p3), .val (.int (0 : Int32)), .val (.int (1 : Int32)), .val (.int (1 : Int32)), .val (.int (p1 &&& (2147483647 : Int32))), .val (.int (p2 &&& (2147483647 : Int32))), .unset, .unset, .unset]) rfl k) ?_
        show own_Go _ _ _ _ s₁ (mkF m 51 #[.val (.int p0), .val (.int p1), .val (.int p2), .val (.int p3), .val (.int (0 : Int32)), .val (.int (1 : Int32)), .val (.int (1 : Int32)), .val (.int (p1 &&& (2147483647 : Int32))), .val (.int (p2 &&& (2147483647 : Int32))), .unset, .unset, .unset] [])
        refine own_st (fun t k => XS.iloadN X0.here hx rfl (hb hby at_51) rfl k) ?_
        show own_Go _ _ _ _ s₁ (mkF m 52 #[.val (.int p0), .val (.int p1), .val (.int p2), .val (.int p3), .val (.int (0 : Int32)), .val (.int (1 : Int32)), .val (.int (1 : Int32)), .val (.int (p1 &&& (2147483647 : Int32))), .val (.int (p2 &&& (2147483647 : Int32))), .unset, .unset, .unset] [(.int p3)])
        refine own_st (X0.ldcInt hx hown (mvT hZ (hw _ (List.mem_of_getElem? (i := 0) rfl))) (g := (mkF m 52 #[.val (.int p0), .val (.int p1), .val (.int p2), .val (.int p3), .val (.int (0 : Int32)), .val (.int (1 : Int32)), .val (.int (1 : Int32)), .val (.int (p1 &&& (2147483647 : Int32))), .val (.int (p2 &&& (2147483647 : Int32))), .unset, .unset, .unset] [(.int p3)])) rfl (hb hby at_52)) ?_
        show own_Go _ _ _ _ s₁ (mkF m 54 #[.val (.int p0), .val (.int p1), .val (.int p2), .val (.int p3), .val (.int (0 : Int32)), .val (.int (1 : Int32)), .val (.int (1 : Int32)), .val (.int (p1 &&& (2147483647 : Int32))), .val (.int (p2 &&& (2147483647 : Int32))), .unset, .unset, .unset] [(.int (2147483647 : Int32)), (.int p3)])
        refine own_st (fun t k => XS.iand X0.here hx rfl (hb hby at_54) rfl k) ?_
        show own_Go _ _ _ _ s₁ (mkF m 55 #[.val (.int p0), .val (.int p1), .val (.int p2), .val (.int p3), .val (.int (0 : Int32)), .val (.int (1 : Int32)), .val (.int (1 : Int32)), .val (.int (p1 &&& (2147483647 : Int32))), .val (.int (p2 &&& (2147483647 : Int32))), .unset, .unset, .unset] [(.int (p3 &&& (2147483647 : Int32)))])
        refine own_st (fun t k => XS.istore X0.here hx rfl (hb hby at_55) rfl (l' := #[.val (.int p0), .val (.int p1), .val (.int p2), .val (.int p3), .val (.int (0 : Int32)), .val (.int (1 : Int32)), .val (.int (1 : Int32)), .val (.int (p1 &&& (2147483647 : Int32))), .val (.int (p2 &&& (2147483647 : Int32))), .val (.int (p3 &&& (2147483647 : Int32))), .unset, .unset]) rfl k) ?_
        show own_Go _ _ _ _ s₁ (mkF m 57 #[.val (.int p0), .val (.int p1), .val (.int p2), .val (.int p3), .val (.int (0 : Int32)), .val (.int (1 : Int32)), .val (.int (1 : Int32)), .val (.int (p1 &&& (2147483647 : Int32))), .val (.int (p2 &&& (2147483647 : Int32))), .val (.int (p3 &&& (2147483647 : Int32))), .unset, .unset] [])
        obtain ⟨T39, h39, X39, e39, E39, A39, D39, -, st39⟩ := newO X0 hx hZ hown (hw _ (List.mem_of_getElem? (i := 1) rfl)) (hw _ (List.mem_of_getElem? (i := 2) rfl)) (hw _ (List.mem_of_getElem? (i := 3) rfl)) e0 (g := (mkF m 57 #[.val (.int p0), .val (.int p1), .val (.int p2), .val (.int p3), .val (.int (0 : Int32)), .val (.int (1 : Int32)), .val (.int (1 : Int32)), .val (.int (p1 &&& (2147483647 : Int32))), .val (.int (p2 &&& (2147483647 : Int32))), .val (.int (p3 &&& (2147483647 : Int32))), .unset, .unset] [])) rfl (hb hby at_57) (by decide) (by decide)
        obtain ⟨b39, g39⟩ : ∃ z, z = h0.size := ⟨_, rfl⟩
        rw [← g39] at A39 D39 st39
        have sz_b39 : h0.size ≤ b39 := Nat.le_trans K0.1 (Nat.le_of_eq g39.symm)
        have g_b39 : n0 ≤ b39 := Nat.le_trans Z0 sz_b39
        have F39_maxPoolSize : Fld Z h39 b39 "com/example/hot_pool/hotpool/config/PoolSettings" "maxPoolSize" "I" (.int (0 : Int32)) := D39 (Or.inl (hw _ (List.mem_of_getElem? (i := 11) rfl))) (ty := .int) (by decide)
        have F39_connectionWaitTimeout : Fld Z h39 b39 "com/example/hot_pool/hotpool/config/PoolSettings" "connectionWaitTimeout" "I" (.int (0 : Int32)) := D39 (Or.inl (hw _ (List.mem_of_getElem? (i := 13) rfl))) (ty := .int) (by decide)
        have F39_propertyCycle : Fld Z h39 b39 "com/example/hot_pool/hotpool/config/PoolSettings" "propertyCycle" "I" (.int (0 : Int32)) := D39 (Or.inl (hw _ (List.mem_of_getElem? (i := 15) rfl))) (ty := .int) (by decide)
        have F39_validateOnBorrow : Fld Z h39 b39 "com/example/hot_pool/hotpool/config/PoolSettings" "validateOnBorrow" "Z" (.int (0 : Int32)) := D39 (Or.inl (hw _ (List.mem_of_getElem? (i := 17) rfl))) (ty := .boolean) (by decide)
        have F39_validationTimeout : Fld Z h39 b39 "com/example/hot_pool/hotpool/config/PoolSettings" "validationTimeout" "I" (.int (0 : Int32)) := D39 (Or.inl (hw _ (List.mem_of_getElem? (i := 19) rfl))) (ty := .int) (by decide)
        have F39_validationTrustTime : Fld Z h39 b39 "com/example/hot_pool/hotpool/config/PoolSettings" "validationTrustTime" "I" (.int (0 : Int32)) := D39 (Or.inl (hw _ (List.mem_of_getElem? (i := 21) rfl))) (ty := .int) (by decide)
        have F39_flushAfterFailedValidations : Fld Z h39 b39 "com/example/hot_pool/hotpool/config/PoolSettings" "flushAfterFailedValidations" "I" (.int (0 : Int32)) := D39 (Or.inl (hw _ (List.mem_of_getElem? (i := 23) rfl))) (ty := .int) (by decide)
        have F39_autoCommit : Fld Z h39 b39 "com/example/hot_pool/hotpool/config/PoolSettings" "autoCommit" "Z" (.int (0 : Int32)) := D39 (Or.inl (hw _ (List.mem_of_getElem? (i := 25) rfl))) (ty := .boolean) (by decide)
        have F39_abandonedConnectionTimeout : Fld Z h39 b39 "com/example/hot_pool/hotpool/config/PoolSettings" "abandonedConnectionTimeout" "I" (.int (0 : Int32)) := D39 (Or.inl (hw _ (List.mem_of_getElem? (i := 32) rfl))) (ty := .int) (by decide)
        have F39_borrowTimeToLive : Fld Z h39 b39 "com/example/hot_pool/hotpool/config/PoolSettings" "borrowTimeToLive" "I" (.int (0 : Int32)) := D39 (Or.inl (hw _ (List.mem_of_getElem? (i := 34) rfl))) (ty := .int) (by decide)
        have F39_maxConnectionAge : Fld Z h39 b39 "com/example/hot_pool/hotpool/config/PoolSettings" "maxConnectionAge" "I" (.int (0 : Int32)) := D39 (Or.inl (hw _ (List.mem_of_getElem? (i := 53) rfl))) (ty := .int) (by decide)
        have F39_maxIdleTime : Fld Z h39 b39 "com/example/hot_pool/hotpool/config/PoolSettings" "maxIdleTime" "I" (.int (0 : Int32)) := D39 (Or.inl (hw _ (List.mem_of_getElem? (i := 61) rfl))) (ty := .int) (by decide)
        refine own_st st39 ?_
        show own_Go _ _ _ _ T39 (mkF m 60 #[.val (.int p0), .val (.int p1), .val (.int p2), .val (.int p3), .val (.int (0 : Int32)), .val (.int (1 : Int32)), .val (.int (1 : Int32)), .val (.int (p1 &&& (2147483647 : Int32))), .val (.int (p2 &&& (2147483647 : Int32))), .val (.int (p3 &&& (2147483647 : Int32))), .unset, .unset] [(.ref b39)])
        refine own_st (fun t k => XS.dup X39.here hx rfl (hb hby at_60) rfl rfl k) ?_
        show own_Go _ _ _ _ T39 (mkF m 61 #[.val (.int p0), .val (.int p1), .val (.int p2), .val (.int p3), .val (.int (0 : Int32)), .val (.int (1 : Int32)), .val (.int (1 : Int32)), .val (.int (p1 &&& (2147483647 : Int32))), .val (.int (p2 &&& (2147483647 : Int32))), .val (.int (p3 &&& (2147483647 : Int32))), .unset, .unset] [(.ref b39), (.ref b39)])
        have K0_41 := (K0.ext E39)
        obtain ⟨_, _, ⟨T40, L40, k40, n40⟩, -, X40, ⟨Lc40, hQ40, l40, y40, z40⟩, st40⟩ := X39.specialBack hx (y := (⟨"com/example/hot_pool/hotpool/config/PoolSettings", "<init>", "()V"⟩ : MethodName)) rfl hown (mvT hZ (hw _ (List.mem_of_getElem? (i := 4) rfl))) (mvT hZ (hw _ (List.mem_of_getElem? (i := 5) rfl))) (mvT hZ (hw _ (List.mem_of_getElem? (i := 6) rfl))) (by decide) (backOf (W := 1) (rm1 l Z a0 hw [] b39  h39 n0 (Nat.le_trans Z0 K0_41.1) A39 F39_maxPoolSize F39_connectionWaitTimeout F39_propertyCycle F39_validateOnBorrow F39_validationTimeout F39_validationTrustTime F39_flushAfterFailedValidations F39_autoCommit F39_abandonedConnectionTimeout F39_borrowTimeToLive F39_maxConnectionAge F39_maxIdleTime g_b39) hZ (hw _ (List.mem_of_getElem? (i := 6) rfl)) (hw _ (List.mem_of_getElem? (i := 3) rfl)) (by decide) (by decide)) (g := (mkF m 61 #[.val (.int p0), .val (.int p1), .val (.int p2), .val (.int p3), .val (.int (0 : Int32)), .val (.int (1 : Int32)), .val (.int (1 : Int32)), .val (.int (p1 &&& (2147483647 : Int32))), .val (.int (p2 &&& (2147483647 : Int32))), .val (.int (p3 &&& (2147483647 : Int32))), .unset, .unset] [(.ref b39), (.ref b39)])) rfl (by rw [hml]; rfl) (Steps.refl _) (a := b39) (argsL := []) (rest := [(.ref b39)]) (lenOf pd__28_29V rfl) rfl (by show 2 * 0 + _ ≤ _; exact Nat.le_of_eq rfl) (hb hby at_61) (fun _ _ => ⟨rfl, e39, (by decide : 1 + 0 ≤ _), (by decide : 23 + 0 ≤ _)⟩)
        dsimp only [Pt.U, Pt.locs, Pt.cells, Pt.slots] at X40 l40 y40 z40 st40 hQ40
        subst l40 y40 z40
        obtain ⟨rfl, N40q, K40, G40_0, G40_1, G40_2, G40_3, G40_4, G40_5, G40_6, G40_7, G40_8, G40_9, G40_10, G40_11⟩ := hQ40
        obtain ⟨_, X40, N40⟩ := own_hide X40 (Fr.app N0 N40q)
        refine own_tr st40 ?_
        show own_Go _ _ _ _ T40 (mkF m 64 #[.val (.int p0), .val (.int p1), .val (.int p2), .val (.int p3), .val (.int (0 : Int32)), .val (.int (1 : Int32)), .val (.int (1 : Int32)), .val (.int (p1 &&& (2147483647 : Int32))), .val (.int (p2 &&& (2147483647 : Int32))), .val (.int (p3 &&& (2147483647 : Int32))), .unset, .unset] [(.ref b39)])
        refine own_st (fun t k => XS.astore X40.here hx rfl (hb hby at_64) rfl rfl (l' := #[.val (.int p0), .val (.int p1), .val (.int p2), .val (.int p3), .val (.int (0 : Int32)), .val (.int (1 : Int32)), .val (.int (1 : Int32)), .val (.int (p1 &&& (2147483647 : Int32))), .val (.int (p2 &&& (2147483647 : Int32))), .val (.int (p3 &&& (2147483647 : Int32))), .val (.ref b39), .unset]) rfl k) ?_
        show own_Go _ _ _ _ T40 (mkF m 66 #[.val (.int p0), .val (.int p1), .val (.int p2), .val (.int p3), .val (.int (0 : Int32)), .val (.int (1 : Int32)), .val (.int (1 : Int32)), .val (.int (p1 &&& (2147483647 : Int32))), .val (.int (p2 &&& (2147483647 : Int32))), .val (.int (p3 &&& (2147483647 : Int32))), .val (.ref b39), .unset] [])
        refine own_st (fun t k => XS.iload X40.here hx rfl (hb hby at_66) rfl k) ?_
        show own_Go _ _ _ _ T40 (mkF m 68 #[.val (.int p0), .val (.int p1), .val (.int p2), .val (.int p3), .val (.int (0 : Int32)), .val (.int (1 : Int32)), .val (.int (1 : Int32)), .val (.int (p1 &&& (2147483647 : Int32))), .val (.int (p2 &&& (2147483647 : Int32))), .val (.int (p3 &&& (2147483647 : Int32))), .val (.ref b39), .unset] [(.int (1 : Int32))])
        refine own_st (fun t k => XS.ifNo X40.here hx rfl (hb hby at_68) rfl ((if0 _ _).trans (feq (by decide : ¬ ((1 : Int32) = (0 : Int32)))).1) k) ?_
        show own_Go _ _ _ _ T40 (mkF m 71 #[.val (.int p0), .val (.int p1), .val (.int p2), .val (.int p3), .val (.int (0 : Int32)), .val (.int (1 : Int32)), .val (.int (1 : Int32)), .val (.int (p1 &&& (2147483647 : Int32))), .val (.int (p2 &&& (2147483647 : Int32))), .val (.int (p3 &&& (2147483647 : Int32))), .val (.ref b39), .unset] [])
        refine own_st (fun t k => XS.aload X40.here hx rfl (hb hby at_71) rfl rfl k) ?_
        show own_Go _ _ _ _ T40 (mkF m 73 #[.val (.int p0), .val (.int p1), .val (.int p2), .val (.int p3), .val (.int (0 : Int32)), .val (.int (1 : Int32)), .val (.int (1 : Int32)), .val (.int (p1 &&& (2147483647 : Int32))), .val (.int (p2 &&& (2147483647 : Int32))), .val (.int (p3 &&& (2147483647 : Int32))), .val (.ref b39), .unset] [(.ref b39)])
        refine own_st (fun t k => XS.iload X40.here hx rfl (hb hby at_73) rfl k) ?_
        show own_Go _ _ _ _ T40 (mkF m 75 #[.val (.int p0), .val (.int p1), .val (.int p2), .val (.int p3), .val (.int (0 : Int32)), .val (.int (1 : Int32)), .val (.int (1 : Int32)), .val (.int (p1 &&& (2147483647 : Int32))), .val (.int (p2 &&& (2147483647 : Int32))), .val (.int (p3 &&& (2147483647 : Int32))), .val (.ref b39), .unset] [(.int (p3 &&& (2147483647 : Int32))), (.ref b39)])
        have A39_42 := (A39.keep K40)
        have K0_44 := (K0_41.trans K40 (allS ((Or.inr sz_b39)) all0))
        have hk0_45 := (Nat.le_trans (Nat.le_trans hk0 E39.1) K40.1)
        obtain ⟨cq43, kq43, q43a, q43b, q43c⟩ := isOf hZ rfl A39_42
        obtain ⟨_, _, ⟨T43, L43, k43, n43⟩, -, X43, hs43, hg43, ⟨Lc43, hQ43, l43, y43, z43⟩, st43⟩ := X40.virtualBackS hx (y := (⟨"com/example/hot_pool/hotpool/config/PoolSettings", "setMaxConnectionAge", "(I)V"⟩ : MethodName)) (z := (⟨"com/example/hot_pool/hotpool/config/PoolSettings", "setMaxConnectionAge", "(I)V"⟩ : MethodName)) hown (mvT hZ (hw _ (List.mem_of_getElem? (i := 35) rfl))) (mvT hZ (hw _ (List.mem_of_getElem? (i := 36) rfl))) (notFace_of_selects (args := #[]) (mvT hZ (hw _ (List.mem_of_getElem? (i := 38) rfl)))) (mvT hZ (hw _ (List.mem_of_getElem? (i := 38) rfl))) (mvT hZ (hw _ (List.mem_of_getElem? (i := 37) rfl))) (by decide) (backOfS (W := 0) (rm4 l Z a0 hw [] b39 (p3 &&& (2147483647 : Int32)) (0 : Int32) (0 : Int32) (0 : Int32) (0 : Int32)  T40.heap n0 (Nat.le_trans Z0 K0_44.1) A39_42 G40_10 G40_11 G40_8 G40_9 g_b39 (own_nn _)) hZ (hw _ (List.mem_of_getElem? (i := 39) rfl)) (hw _ (List.mem_of_getElem? (i := 3) rfl)) (by decide) (by decide)) q43a q43c (g := (mkF m 75 #[.val (.int p0), .val (.int p1), .val (.int p2), .val (.int p3), .val (.int (0 : Int32)), .val (.int (1 : Int32)), .val (.int (1 : Int32)), .val (.int (p1 &&& (2147483647 : Int32))), .val (.int (p2 &&& (2147483647 : Int32))), .val (.int (p3 &&& (2147483647 : Int32))), .val (.ref b39), .unset] [(.int (p3 &&& (2147483647 : Int32))), (.ref b39)])) rfl (by rw [hml]; rfl) (Steps.refl _) (argsL := [(.int (p3 &&& (2147483647 : Int32)))]) (rest := []) (lenOf pd__28I_29V rfl) rfl (by show 2 * 0 + _ ≤ _; exact Nat.le_of_eq rfl) (hb hby at_75) (fun _ _ => ⟨rfl, rfl, (by decide : 1 + 2 ≤ _), (by decide : 23 + 68 ≤ _)⟩)
        dsimp only [Pt.U, Pt.locs, Pt.cells, Pt.slots] at X43 l43 y43 z43 st43 hQ43 hs43 hg43
        subst l43 y43 z43
        obtain ⟨rfl, N43q, K43, G43_0, G43_1, G43_2, G43_3⟩ := hQ43
        obtain ⟨_, X43, N43⟩ := own_hide X43 (Fr.app N40 N43q)
        have X43 := own_fold X43
        have hS43 := foldS hS0 hk0_45 hs43 hg43
        have hZ43 : Z.Warmed39 (s.setVm T43.vm).vm := own_wz hZ hs43
        have hown43 : (s.setVm T43.vm).vm.findClass "com/example/hot_pool/hotpool/config/PoolSettingsIsReclaimingPinLaw" = some m.cls := own_wo hown hs43
        refine own_tr st43 ?_
        show own_Go _ _ _ _ T43 (mkF m 78 #[.val (.int p0), .val (.int p1), .val (.int p2), .val (.int p3), .val (.int (0 : Int32)), .val (.int (1 : Int32)), .val (.int (1 : Int32)), .val (.int (p1 &&& (2147483647 : Int32))), .val (.int (p2 &&& (2147483647 : Int32))), .val (.int (p3 &&& (2147483647 : Int32))), .val (.ref b39), .unset] [])
        refine own_st (fun t k => XS.aload X43.here hx rfl (hb hby at_78) rfl rfl k) ?_
        show own_Go _ _ _ _ T43 (mkF m 80 #[.val (.int p0), .val (.int p1), .val (.int p2), .val (.int p3), .val (.int (0 : Int32)), .val (.int (1 : Int32)), .val (.int (1 : Int32)), .val (.int (p1 &&& (2147483647 : Int32))), .val (.int (p2 &&& (2147483647 : Int32))), .val (.int (p3 &&& (2147483647 : Int32))), .val (.ref b39), .unset] [(.ref b39)])
        refine own_st (fun t k => XS.iload X43.here hx rfl (hb hby at_80) rfl k) ?_
        show own_Go _ _ _ _ T43 (mkF m 82 #[.val (.int p0), .val (.int p1), .val (.int p2), .val (.int p3), .val (.int (0 : Int32)), .val (.int (1 : Int32)), .val (.int (1 : Int32)), .val (.int (p1 &&& (2147483647 : Int32))), .val (.int (p2 &&& (2147483647 : Int32))), .val (.int (p3 &&& (2147483647 : Int32))), .val (.ref b39), .unset] [(.int (p3 &&& (2147483647 : Int32))), (.ref b39)])
        have A39_46 := (A39_42.keep K43)
        have K0_48 := (K0_44.trans K43 (allS ((Or.inr sz_b39)) all0))
        obtain ⟨cq47, kq47, q47a, q47b, q47c⟩ := isOf hZ43 rfl A39_46
        obtain ⟨_, _, ⟨T47, L47, k47, n47⟩, -, X47, hs47, hg47, ⟨Lc47, hQ47, l47, y47, z47⟩, st47⟩ := X43.virtualBackS hx (y := (⟨"com/example/hot_pool/hotpool/config/PoolSettings", "setMaxIdleTime", "(I)V"⟩ : MethodName)) (z := (⟨"com/example/hot_pool/hotpool/config/PoolSettings", "setMaxIdleTime", "(I)V"⟩ : MethodName)) hown43 (mvT hZ43 (hw _ (List.mem_of_getElem? (i := 54) rfl))) (mvT hZ43 (hw _ (List.mem_of_getElem? (i := 55) rfl))) (notFace_of_selects (args := #[]) (mvT hZ43 (hw _ (List.mem_of_getElem? (i := 57) rfl)))) (mvT hZ43 (hw _ (List.mem_of_getElem? (i := 57) rfl))) (mvT hZ43 (hw _ (List.mem_of_getElem? (i := 56) rfl))) (by decide) (backOfS (W := 0) (rm6 l Z a0 hw [] b39 (p3 &&& (2147483647 : Int32)) (p3 &&& (2147483647 : Int32)) (0 : Int32) (0 : Int32) (0 : Int32)  T43.heap n0 (Nat.le_trans Z0 K0_48.1) A39_46 G43_0 G43_1 G43_2 G43_3 g_b39 (own_nn _)) hZ43 (hw _ (List.mem_of_getElem? (i := 58) rfl)) (hw _ (List.mem_of_getElem? (i := 3) rfl)) (by decide) (by decide)) q47a q47c (g := (mkF m 82 #[.val (.int p0), .val (.int p1), .val (.int p2), .val (.int p3), .val (.int (0 : Int32)), .val (.int (1 : Int32)), .val (.int (1 : Int32)), .val (.int (p1 &&& (2147483647 : Int32))), .val (.int (p2 &&& (2147483647 : Int32))), .val (.int (p3 &&& (2147483647 : Int32))), .val (.ref b39), .unset] [(.int (p3 &&& (2147483647 : Int32))), (.ref b39)])) rfl (by rw [hml]; rfl) (Steps.refl _) (argsL := [(.int (p3 &&& (2147483647 : Int32)))]) (rest := []) (lenOf pd__28I_29V rfl) rfl (by show 2 * 0 + _ ≤ _; exact Nat.le_of_eq rfl) (hb hby at_82) (fun _ _ => ⟨rfl, rfl, (by decide : 3 + 2 ≤ _), (by decide : 91 + 48 ≤ _)⟩)
        dsimp only [Pt.U, Pt.locs, Pt.cells, Pt.slots] at X47 l47 y47 z47 st47 hQ47 hs47 hg47
        subst l47 y47 z47
        obtain ⟨rfl, N47q, K47, G47_0, G47_1, G47_2, G47_3⟩ := hQ47
        obtain ⟨_, X47, N47⟩ := own_hide X47 (Fr.app N43 N47q)
        have X47 := own_fold X47
        have hS47 := foldS hS43 (Nat.le_refl T43.heap.size) hs47 hg47
        have hZ47 : Z.Warmed39 (s.setVm T47.vm).vm := own_wz hZ43 hs47
        have hown47 : (s.setVm T47.vm).vm.findClass "com/example/hot_pool/hotpool/config/PoolSettingsIsReclaimingPinLaw" = some m.cls := own_wo hown43 hs47
        refine own_tr st47 ?_
        show own_Go _ _ _ _ T47 (mkF m 85 #[.val (.int p0), .val (.int p1), .val (.int p2), .val (.int p3), .val (.int (0 : Int32)), .val (.int (1 : Int32)), .val (.int (1 : Int32)), .val (.int (p1 &&& (2147483647 : Int32))), .val (.int (p2 &&& (2147483647 : Int32))), .val (.int (p3 &&& (2147483647 : Int32))), .val (.ref b39), .unset] [])
        refine own_st (fun t k => XS.iload X47.here hx rfl (hb hby at_85) rfl k) ?_
        show own_Go _ _ _ _ T47 (mkF m 87 #[.val (.int p0), .val (.int p1), .val (.int p2), .val (.int p3), .val (.int (0 : Int32)), .val (.int (1 : Int32)), .val (.int (1 : Int32)), .val (.int (p1 &&& (2147483647 : Int32))), .val (.int (p2 &&& (2147483647 : Int32))), .val (.int (p3 &&& (2147483647 : Int32))), .val (.ref b39), .unset] [(.int (0 : Int32))])
        refine own_st (fun t k => XS.ifYes X47.here hx rfl (pc0 := 87) (pc' := 97) rfl (hb hby at_87) rfl ((if0 _ _).trans (teq (by decide : (0 : Int32) = (0 : Int32))).1) (by decide) (by decide) k) ?_
        show own_Go _ _ _ _ T47 (mkF m 97 #[.val (.int p0), .val (.int p1), .val (.int p2), .val (.int p3), .val (.int (0 : Int32)), .val (.int (1 : Int32)), .val (.int (1 : Int32)), .val (.int (p1 &&& (2147483647 : Int32))), .val (.int (p2 &&& (2147483647 : Int32))), .val (.int (p3 &&& (2147483647 : Int32))), .val (.ref b39), .unset] [])
        refine own_st (fun t k => XS.iload X47.here hx rfl (hb hby at_97) rfl k) ?_
        show own_Go _ _ _ _ T47 (mkF m 99 #[.val (.int p0), .val (.int p1), .val (.int p2), .val (.int p3), .val (.int (0 : Int32)), .val (.int (1 : Int32)), .val (.int (1 : Int32)), .val (.int (p1 &&& (2147483647 : Int32))), .val (.int (p2 &&& (2147483647 : Int32))), .val (.int (p3 &&& (2147483647 : Int32))), .val (.ref b39), .unset] [(.int (1 : Int32))])
        refine own_st (fun t k => XS.ifNo X47.here hx rfl (hb hby at_99) rfl ((if0 _ _).trans (feq (by decide : ¬ ((1 : Int32) = (0 : Int32)))).1) k) ?_
        show own_Go _ _ _ _ T47 (mkF m 102 #[.val (.int p0), .val (.int p1), .val (.int p2), .val (.int p3), .val (.int (0 : Int32)), .val (.int (1 : Int32)), .val (.int (1 : Int32)), .val (.int (p1 &&& (2147483647 : Int32))), .val (.int (p2 &&& (2147483647 : Int32))), .val (.int (p3 &&& (2147483647 : Int32))), .val (.ref b39), .unset] [])
        refine own_st (fun t k => XS.aload X47.here hx rfl (hb hby at_102) rfl rfl k) ?_
        show own_Go _ _ _ _ T47 (mkF m 104 #[.val (.int p0), .val (.int p1), .val (.int p2), .val (.int p3), .val (.int (0 : Int32)), .val (.int (1 : Int32)), .val (.int (1 : Int32)), .val (.int (p1 &&& (2147483647 : Int32))), .val (.int (p2 &&& (2147483647 : Int32))), .val (.int (p3 &&& (2147483647 : Int32))), .val (.ref b39), .unset] [(.ref b39)])
        refine own_st (fun t k => XS.iload X47.here hx rfl (hb hby at_104) rfl k) ?_
        show own_Go _ _ _ _ T47 (mkF m 106 #[.val (.int p0), .val (.int p1), .val (.int p2), .val (.int p3), .val (.int (0 : Int32)), .val (.int (1 : Int32)), .val (.int (1 : Int32)), .val (.int (p1 &&& (2147483647 : Int32))), .val (.int (p2 &&& (2147483647 : Int32))), .val (.int (p3 &&& (2147483647 : Int32))), .val (.ref b39), .unset] [(.int (p2 &&& (2147483647 : Int32))), (.ref b39)])
        have A39_49 := (A39_46.keep K47)
        have K0_51 := (K0_48.trans K47 (allS ((Or.inr sz_b39)) all0))
        obtain ⟨cq50, kq50, q50a, q50b, q50c⟩ := isOf hZ47 rfl A39_49
        obtain ⟨_, _, ⟨T50, L50, k50, n50⟩, -, X50, hs50, hg50, ⟨Lc50, hQ50, l50, y50, z50⟩, st50⟩ := X47.virtualBackS hx (y := (⟨"com/example/hot_pool/hotpool/config/PoolSettings", "setBorrowTimeToLive", "(I)V"⟩ : MethodName)) (z := (⟨"com/example/hot_pool/hotpool/config/PoolSettings", "setBorrowTimeToLive", "(I)V"⟩ : MethodName)) hown47 (mvT hZ47 (hw _ (List.mem_of_getElem? (i := 68) rfl))) (mvT hZ47 (hw _ (List.mem_of_getElem? (i := 69) rfl))) (notFace_of_selects (args := #[]) (mvT hZ47 (hw _ (List.mem_of_getElem? (i := 71) rfl)))) (mvT hZ47 (hw _ (List.mem_of_getElem? (i := 71) rfl))) (mvT hZ47 (hw _ (List.mem_of_getElem? (i := 70) rfl))) (by decide) (backOfS (W := 0) (rm8 l Z a0 hw [] b39 (p2 &&& (2147483647 : Int32)) (p3 &&& (2147483647 : Int32)) (p3 &&& (2147483647 : Int32)) (0 : Int32) (0 : Int32)  T47.heap n0 (Nat.le_trans Z0 K0_51.1) A39_49 G47_0 G47_1 G47_2 G47_3 g_b39 (own_nn _)) hZ47 (hw _ (List.mem_of_getElem? (i := 72) rfl)) (hw _ (List.mem_of_getElem? (i := 3) rfl)) (by decide) (by decide)) q50a q50c (g := (mkF m 106 #[.val (.int p0), .val (.int p1), .val (.int p2), .val (.int p3), .val (.int (0 : Int32)), .val (.int (1 : Int32)), .val (.int (1 : Int32)), .val (.int (p1 &&& (2147483647 : Int32))), .val (.int (p2 &&& (2147483647 : Int32))), .val (.int (p3 &&& (2147483647 : Int32))), .val (.ref b39), .unset] [(.int (p2 &&& (2147483647 : Int32))), (.ref b39)])) rfl (by rw [hml]; rfl) (Steps.refl _) (argsL := [(.int (p2 &&& (2147483647 : Int32)))]) (rest := []) (lenOf pd__28I_29V rfl) rfl (by show 2 * 0 + _ ≤ _; exact Nat.le_of_eq rfl) (hb hby at_106) (fun _ _ => ⟨rfl, rfl, (by decide : 5 + 2 ≤ _), (by decide : 139 + 68 ≤ _)⟩)
        dsimp only [Pt.U, Pt.locs, Pt.cells, Pt.slots] at X50 l50 y50 z50 st50 hQ50 hs50 hg50
        subst l50 y50 z50
        obtain ⟨rfl, N50q, K50, G50_0, G50_1, G50_2, G50_3⟩ := hQ50
        obtain ⟨_, X50, N50⟩ := own_hide X50 (Fr.app N47 N50q)
        have X50 := own_fold X50
        have hS50 := foldS hS47 (Nat.le_refl T47.heap.size) hs50 hg50
        have hZ50 : Z.Warmed39 (s.setVm T50.vm).vm := own_wz hZ47 hs50
        have hown50 : (s.setVm T50.vm).vm.findClass "com/example/hot_pool/hotpool/config/PoolSettingsIsReclaimingPinLaw" = some m.cls := own_wo hown47 hs50
        refine own_tr st50 ?_
        show own_Go _ _ _ _ T50 (mkF m 109 #[.val (.int p0), .val (.int p1), .val (.int p2), .val (.int p3), .val (.int (0 : Int32)), .val (.int (1 : Int32)), .val (.int (1 : Int32)), .val (.int (p1 &&& (2147483647 : Int32))), .val (.int (p2 &&& (2147483647 : Int32))), .val (.int (p3 &&& (2147483647 : Int32))), .val (.ref b39), .unset] [])
        refine own_st (fun t k => XS.iconst X50.here hx rfl (hb hby at_109) k) ?_
        show own_Go _ _ _ _ T50 (mkF m 110 #[.val (.int p0), .val (.int p1), .val (.int p2), .val (.int p3), .val (.int (0 : Int32)), .val (.int (1 : Int32)), .val (.int (1 : Int32)), .val (.int (p1 &&& (2147483647 : Int32))), .val (.int (p2 &&& (2147483647 : Int32))), .val (.int (p3 &&& (2147483647 : Int32))), .val (.ref b39), .unset] [(.int (0 : Int32))])
        refine own_st (fun t k => XS.istore X50.here hx rfl (hb hby at_110) rfl (l' := #[.val (.int p0), .val (.int p1), .val (.int p2), .val (.int p3), .val (.int (0 : Int32)), .val (.int (1 : Int32)), .val (.int (1 : Int32)), .val (.int (p1 &&& (2147483647 : Int32))), .val (.int (p2 &&& (2147483647 : Int32))), .val (.int (p3 &&& (2147483647 : Int32))), .val (.ref b39), .val (.int (0 : Int32))]) rfl k) ?_
        show own_Go _ _ _ _ T50 (mkF m 112 #[.val (.int p0), .val (.int p1), .val (.int p2), .val (.int p3), .val (.int (0 : Int32)), .val (.int (1 : Int32)), .val (.int (1 : Int32)), .val (.int (p1 &&& (2147483647 : Int32))), .val (.int (p2 &&& (2147483647 : Int32))), .val (.int (p3 &&& (2147483647 : Int32))), .val (.ref b39), .val (.int (0 : Int32))] [])
        refine own_st (fun t k => XS.iload X50.here hx rfl (hb hby at_112) rfl k) ?_
        show own_Go _ _ _ _ T50 (mkF m 114 #[.val (.int p0), .val (.int p1), .val (.int p2), .val (.int p3), .val (.int (0 : Int32)), .val (.int (1 : Int32)), .val (.int (1 : Int32)), .val (.int (p1 &&& (2147483647 : Int32))), .val (.int (p2 &&& (2147483647 : Int32))), .val (.int (p3 &&& (2147483647 : Int32))), .val (.ref b39), .val (.int (0 : Int32))] [(.int (0 : Int32))])
        refine own_st (fun t k => XS.ifYes X50.here hx rfl (pc0 := 114) (pc' := 125) rfl (hb hby at_114) rfl ((if0 _ _).trans (teq (by decide : (0 : Int32) = (0 : Int32))).1) (by decide) (by decide) k) ?_
        show own_Go _ _ _ _ T50 (mkF m 125 #[.val (.int p0), .val (.int p1), .val (.int p2), .val (.int p3), .val (.int (0 : Int32)), .val (.int (1 : Int32)), .val (.int (1 : Int32)), .val (.int (p1 &&& (2147483647 : Int32))), .val (.int (p2 &&& (2147483647 : Int32))), .val (.int (p3 &&& (2147483647 : Int32))), .val (.ref b39), .val (.int (0 : Int32))] [])
        refine own_st (fun t k => XS.iload X50.here hx rfl (hb hby at_125) rfl k) ?_
        show own_Go _ _ _ _ T50 (mkF m 127 #[.val (.int p0), .val (.int p1), .val (.int p2), .val (.int p3), .val (.int (0 : Int32)), .val (.int (1 : Int32)), .val (.int (1 : Int32)), .val (.int (p1 &&& (2147483647 : Int32))), .val (.int (p2 &&& (2147483647 : Int32))), .val (.int (p3 &&& (2147483647 : Int32))), .val (.ref b39), .val (.int (0 : Int32))] [(.int (1 : Int32))])
        refine own_st (fun t k => XS.ifNo X50.here hx rfl (hb hby at_127) rfl ((if0 _ _).trans (feq (by decide : ¬ ((1 : Int32) = (0 : Int32)))).1) k) ?_
        show own_Go _ _ _ _ T50 (mkF m 130 #[.val (.int p0), .val (.int p1), .val (.int p2), .val (.int p3), .val (.int (0 : Int32)), .val (.int (1 : Int32)), .val (.int (1 : Int32)), .val (.int (p1 &&& (2147483647 : Int32))), .val (.int (p2 &&& (2147483647 : Int32))), .val (.int (p3 &&& (2147483647 : Int32))), .val (.ref b39), .val (.int (0 : Int32))] [])
        refine own_st (fun t k => XS.iload X50.here hx rfl (hb hby at_130) rfl k) ?_
        show own_Go _ _ _ _ T50 (mkF m 132 #[.val (.int p0), .val (.int p1), .val (.int p2), .val (.int p3), .val (.int (0 : Int32)), .val (.int (1 : Int32)), .val (.int (1 : Int32)), .val (.int (p1 &&& (2147483647 : Int32))), .val (.int (p2 &&& (2147483647 : Int32))), .val (.int (p3 &&& (2147483647 : Int32))), .val (.ref b39), .val (.int (0 : Int32))] [(.int (p2 &&& (2147483647 : Int32)))])
        by_cases c132_52 : (p2 &&& (2147483647 : Int32)) = (0 : Int32)
        ·
          refine own_st (fun t k => XS.ifYes X50.here hx rfl (pc0 := 132) (pc' := 138) rfl (hb hby at_132) rfl ((if0 _ _).trans (teq c132_52).1) (by decide) (by decide) k) ?_
          show own_Go _ _ _ _ T50 (mkF m 138 #[.val (.int p0), .val (.int p1), .val (.int p2), .val (.int p3), .val (.int (0 : Int32)), .val (.int (1 : Int32)), .val (.int (1 : Int32)), .val (.int (p1 &&& (2147483647 : Int32))), .val (.int (p2 &&& (2147483647 : Int32))), .val (.int (p3 &&& (2147483647 : Int32))), .val (.ref b39), .val (.int (0 : Int32))] [])
          refine own_st (fun t k => XS.aload X50.here hx rfl (hb hby at_138) rfl rfl k) ?_
          show own_Go _ _ _ _ T50 (mkF m 140 #[.val (.int p0), .val (.int p1), .val (.int p2), .val (.int p3), .val (.int (0 : Int32)), .val (.int (1 : Int32)), .val (.int (1 : Int32)), .val (.int (p1 &&& (2147483647 : Int32))), .val (.int (p2 &&& (2147483647 : Int32))), .val (.int (p3 &&& (2147483647 : Int32))), .val (.ref b39), .val (.int (0 : Int32))] [(.ref b39)])
          have K0_54 := (K0_51.trans K50 (allS ((Or.inr sz_b39)) all0))
          have A39_55 := (A39_49.keep K50)
          obtain ⟨cq53, kq53, q53a, q53b, q53c⟩ := isOf hZ50 rfl A39_55
          obtain ⟨_, _, ⟨T53, L53, k53, n53⟩, -, X53, ⟨Lc53, hQ53, l53, y53, z53⟩, st53⟩ := X50.virtualBack hx (y := (⟨"com/example/hot_pool/hotpool/config/PoolSettings", "isReclaiming", "()Z"⟩ : MethodName)) (z := (⟨"com/example/hot_pool/hotpool/config/PoolSettings", "isReclaiming", "()Z"⟩ : MethodName)) hown50 (mvT hZ50 (hw _ (List.mem_of_getElem? (i := 26) rfl))) (mvT hZ50 (hw _ (List.mem_of_getElem? (i := 27) rfl))) (notFace_of_selects (args := #[]) (mvT hZ50 (hw _ (List.mem_of_getElem? (i := 29) rfl)))) (mvT hZ50 (hw _ (List.mem_of_getElem? (i := 29) rfl))) (mvT hZ50 (hw _ (List.mem_of_getElem? (i := 28) rfl))) (by decide) (backOf (W := 0) (rm3 l Z a0 hw [] b39 (0 : Int32) (p2 &&& (2147483647 : Int32))  T50.heap n0 (Nat.le_trans Z0 K0_54.1) G50_2 G50_3) hZ50 (hw _ (List.mem_of_getElem? (i := 30) rfl)) (hw _ (List.mem_of_getElem? (i := 3) rfl)) (by decide) (by decide)) q53a q53c (g := (mkF m 140 #[.val (.int p0), .val (.int p1), .val (.int p2), .val (.int p3), .val (.int (0 : Int32)), .val (.int (1 : Int32)), .val (.int (1 : Int32)), .val (.int (p1 &&& (2147483647 : Int32))), .val (.int (p2 &&& (2147483647 : Int32))), .val (.int (p3 &&& (2147483647 : Int32))), .val (.ref b39), .val (.int (0 : Int32))] [(.ref b39)])) rfl (by rw [hml]; rfl) (Steps.refl _) (argsL := []) (rest := []) (lenOf pd__28_29Z rfl) rfl (by show 2 * 0 + _ ≤ _; exact Nat.le_of_eq rfl) (hb hby at_140) (fun _ _ => ⟨rfl, rfl, (by decide : 7 + 0 ≤ _), (by decide : 207 + 0 ≤ _)⟩)
          dsimp only [Pt.U, Pt.locs, Pt.cells, Pt.slots] at X53 l53 y53 z53 st53 hQ53
          subst l53 y53 z53
          obtain ⟨rfl, N53q, e53⟩ := hQ53
          obtain ⟨_, X53, N53⟩ := own_hide X53 (Fr.app N50 N53q)
          refine own_tr st53 ?_
          show own_Go _ _ _ _ T53 (mkF m 143 #[.val (.int p0), .val (.int p1), .val (.int p2), .val (.int p3), .val (.int (0 : Int32)), .val (.int (1 : Int32)), .val (.int (1 : Int32)), .val (.int (p1 &&& (2147483647 : Int32))), .val (.int (p2 &&& (2147483647 : Int32))), .val (.int (p3 &&& (2147483647 : Int32))), .val (.ref b39), .val (.int (0 : Int32))] [(.int (own_r (0 : Int32) (p2 &&& (2147483647 : Int32))))])
          refine own_st (fun t k => XS.iload X53.here hx rfl (hb hby at_143) rfl k) ?_
          show own_Go _ _ _ _ T53 (mkF m 145 #[.val (.int p0), .val (.int p1), .val (.int p2), .val (.int p3), .val (.int (0 : Int32)), .val (.int (1 : Int32)), .val (.int (1 : Int32)), .val (.int (p1 &&& (2147483647 : Int32))), .val (.int (p2 &&& (2147483647 : Int32))), .val (.int (p3 &&& (2147483647 : Int32))), .val (.ref b39), .val (.int (0 : Int32))] [(.int (0 : Int32)), (.int (own_r (0 : Int32) (p2 &&& (2147483647 : Int32))))])
          refine own_st (fun t k => XS.icmpNo X53.here hx rfl (hb hby at_145) rfl (teq (own_r_0 (by decide) (own_mz c132_52) : (own_r (0 : Int32) (p2 &&& (2147483647 : Int32))) = (0 : Int32))).2 k) ?_
          show own_Go _ _ _ _ T53 (mkF m 148 #[.val (.int p0), .val (.int p1), .val (.int p2), .val (.int p3), .val (.int (0 : Int32)), .val (.int (1 : Int32)), .val (.int (1 : Int32)), .val (.int (p1 &&& (2147483647 : Int32))), .val (.int (p2 &&& (2147483647 : Int32))), .val (.int (p3 &&& (2147483647 : Int32))), .val (.ref b39), .val (.int (0 : Int32))] [])
          refine own_st (fun t k => XS.iconst X53.here hx rfl (hb hby at_148) k) ?_
          show own_Go _ _ _ _ T53 (mkF m 149 #[.val (.int p0), .val (.int p1), .val (.int p2), .val (.int p3), .val (.int (0 : Int32)), .val (.int (1 : Int32)), .val (.int (1 : Int32)), .val (.int (p1 &&& (2147483647 : Int32))), .val (.int (p2 &&& (2147483647 : Int32))), .val (.int (p3 &&& (2147483647 : Int32))), .val (.ref b39), .val (.int (0 : Int32))] [(.int (1 : Int32))])
          refine own_st (fun t k => XS.goto X53.here hx rfl (pc0 := 149) (pc' := 153) rfl (hb hby at_149) (by decide) (by decide) k) ?_
          show own_Go _ _ _ _ T53 (mkF m 153 #[.val (.int p0), .val (.int p1), .val (.int p2), .val (.int p3), .val (.int (0 : Int32)), .val (.int (1 : Int32)), .val (.int (1 : Int32)), .val (.int (p1 &&& (2147483647 : Int32))), .val (.int (p2 &&& (2147483647 : Int32))), .val (.int (p3 &&& (2147483647 : Int32))), .val (.ref b39), .val (.int (0 : Int32))] [(.int (1 : Int32))])
          exact own_retNW X53 hS50 (by rw [e53]; exact (Nat.le_refl T50.heap.size)) hx hlk (t := .boolean) hrt (by simp) (hb hby at_153) ⟨rfl, N53⟩ (by decide) (by decide)
        ·
          refine own_st (fun t k => XS.ifNo X50.here hx rfl (hb hby at_132) rfl ((if0 _ _).trans (feq c132_52).1) k) ?_
          show own_Go _ _ _ _ T50 (mkF m 135 #[.val (.int p0), .val (.int p1), .val (.int p2), .val (.int p3), .val (.int (0 : Int32)), .val (.int (1 : Int32)), .val (.int (1 : Int32)), .val (.int (p1 &&& (2147483647 : Int32))), .val (.int (p2 &&& (2147483647 : Int32))), .val (.int (p3 &&& (2147483647 : Int32))), .val (.ref b39), .val (.int (0 : Int32))] [])
          refine own_st (fun t k => XS.iconst X50.here hx rfl (hb hby at_135) k) ?_
          show own_Go _ _ _ _ T50 (mkF m 136 #[.val (.int p0), .val (.int p1), .val (.int p2), .val (.int p3), .val (.int (0 : Int32)), .val (.int (1 : Int32)), .val (.int (1 : Int32)), .val (.int (p1 &&& (2147483647 : Int32))), .val (.int (p2 &&& (2147483647 : Int32))), .val (.int (p3 &&& (2147483647 : Int32))), .val (.ref b39), .val (.int (0 : Int32))] [(.int (1 : Int32))])
          refine own_st (fun t k => XS.istore X50.here hx rfl (hb hby at_136) rfl (l' := #[.val (.int p0), .val (.int p1), .val (.int p2), .val (.int p3), .val (.int (0 : Int32)), .val (.int (1 : Int32)), .val (.int (1 : Int32)), .val (.int (p1 &&& (2147483647 : Int32))), .val (.int (p2 &&& (2147483647 : Int32))), .val (.int (p3 &&& (2147483647 : Int32))), .val (.ref b39), .val (.int (1 : Int32))]) rfl k) ?_
          show own_Go _ _ _ _ T50 (mkF m 138 #[.val (.int p0), .val (.int p1), .val (.int p2), .val (.int p3), .val (.int (0 : Int32)), .val (.int (1 : Int32)), .val (.int (1 : Int32)), .val (.int (p1 &&& (2147483647 : Int32))), .val (.int (p2 &&& (2147483647 : Int32))), .val (.int (p3 &&& (2147483647 : Int32))), .val (.ref b39), .val (.int (1 : Int32))] [])
          refine own_st (fun t k => XS.aload X50.here hx rfl (hb hby at_138) rfl rfl k) ?_
          show own_Go _ _ _ _ T50 (mkF m 140 #[.val (.int p0), .val (.int p1), .val (.int p2), .val (.int p3), .val (.int (0 : Int32)), .val (.int (1 : Int32)), .val (.int (1 : Int32)), .val (.int (p1 &&& (2147483647 : Int32))), .val (.int (p2 &&& (2147483647 : Int32))), .val (.int (p3 &&& (2147483647 : Int32))), .val (.ref b39), .val (.int (1 : Int32))] [(.ref b39)])
          have K0_57 := (K0_51.trans K50 (allS ((Or.inr sz_b39)) all0))
          have A39_58 := (A39_49.keep K50)
          obtain ⟨cq56, kq56, q56a, q56b, q56c⟩ := isOf hZ50 rfl A39_58
          obtain ⟨_, _, ⟨T56, L56, k56, n56⟩, -, X56, ⟨Lc56, hQ56, l56, y56, z56⟩, st56⟩ := X50.virtualBack hx (y := (⟨"com/example/hot_pool/hotpool/config/PoolSettings", "isReclaiming", "()Z"⟩ : MethodName)) (z := (⟨"com/example/hot_pool/hotpool/config/PoolSettings", "isReclaiming", "()Z"⟩ : MethodName)) hown50 (mvT hZ50 (hw _ (List.mem_of_getElem? (i := 26) rfl))) (mvT hZ50 (hw _ (List.mem_of_getElem? (i := 27) rfl))) (notFace_of_selects (args := #[]) (mvT hZ50 (hw _ (List.mem_of_getElem? (i := 29) rfl)))) (mvT hZ50 (hw _ (List.mem_of_getElem? (i := 29) rfl))) (mvT hZ50 (hw _ (List.mem_of_getElem? (i := 28) rfl))) (by decide) (backOf (W := 0) (rm3 l Z a0 hw [] b39 (0 : Int32) (p2 &&& (2147483647 : Int32))  T50.heap n0 (Nat.le_trans Z0 K0_57.1) G50_2 G50_3) hZ50 (hw _ (List.mem_of_getElem? (i := 30) rfl)) (hw _ (List.mem_of_getElem? (i := 3) rfl)) (by decide) (by decide)) q56a q56c (g := (mkF m 140 #[.val (.int p0), .val (.int p1), .val (.int p2), .val (.int p3), .val (.int (0 : Int32)), .val (.int (1 : Int32)), .val (.int (1 : Int32)), .val (.int (p1 &&& (2147483647 : Int32))), .val (.int (p2 &&& (2147483647 : Int32))), .val (.int (p3 &&& (2147483647 : Int32))), .val (.ref b39), .val (.int (1 : Int32))] [(.ref b39)])) rfl (by rw [hml]; rfl) (Steps.refl _) (argsL := []) (rest := []) (lenOf pd__28_29Z rfl) rfl (by show 2 * 0 + _ ≤ _; exact Nat.le_of_eq rfl) (hb hby at_140) (fun _ _ => ⟨rfl, rfl, (by decide : 7 + 0 ≤ _), (by decide : 207 + 0 ≤ _)⟩)
          dsimp only [Pt.U, Pt.locs, Pt.cells, Pt.slots] at X56 l56 y56 z56 st56 hQ56
          subst l56 y56 z56
          obtain ⟨rfl, N56q, e56⟩ := hQ56
          obtain ⟨_, X56, N56⟩ := own_hide X56 (Fr.app N50 N56q)
          refine own_tr st56 ?_
          show own_Go _ _ _ _ T56 (mkF m 143 #[.val (.int p0), .val (.int p1), .val (.int p2), .val (.int p3), .val (.int (0 : Int32)), .val (.int (1 : Int32)), .val (.int (1 : Int32)), .val (.int (p1 &&& (2147483647 : Int32))), .val (.int (p2 &&& (2147483647 : Int32))), .val (.int (p3 &&& (2147483647 : Int32))), .val (.ref b39), .val (.int (1 : Int32))] [(.int (own_r (0 : Int32) (p2 &&& (2147483647 : Int32))))])
          refine own_st (fun t k => XS.iload X56.here hx rfl (hb hby at_143) rfl k) ?_
          show own_Go _ _ _ _ T56 (mkF m 145 #[.val (.int p0), .val (.int p1), .val (.int p2), .val (.int p3), .val (.int (0 : Int32)), .val (.int (1 : Int32)), .val (.int (1 : Int32)), .val (.int (p1 &&& (2147483647 : Int32))), .val (.int (p2 &&& (2147483647 : Int32))), .val (.int (p3 &&& (2147483647 : Int32))), .val (.ref b39), .val (.int (1 : Int32))] [(.int (1 : Int32)), (.int (own_r (0 : Int32) (p2 &&& (2147483647 : Int32))))])
          refine own_st (fun t k => XS.icmpNo X56.here hx rfl (hb hby at_145) rfl (teq (own_r_b (by decide) (own_mp c132_52) : (own_r (0 : Int32) (p2 &&& (2147483647 : Int32))) = (1 : Int32))).2 k) ?_
          show own_Go _ _ _ _ T56 (mkF m 148 #[.val (.int p0), .val (.int p1), .val (.int p2), .val (.int p3), .val (.int (0 : Int32)), .val (.int (1 : Int32)), .val (.int (1 : Int32)), .val (.int (p1 &&& (2147483647 : Int32))), .val (.int (p2 &&& (2147483647 : Int32))), .val (.int (p3 &&& (2147483647 : Int32))), .val (.ref b39), .val (.int (1 : Int32))] [])
          refine own_st (fun t k => XS.iconst X56.here hx rfl (hb hby at_148) k) ?_
          show own_Go _ _ _ _ T56 (mkF m 149 #[.val (.int p0), .val (.int p1), .val (.int p2), .val (.int p3), .val (.int (0 : Int32)), .val (.int (1 : Int32)), .val (.int (1 : Int32)), .val (.int (p1 &&& (2147483647 : Int32))), .val (.int (p2 &&& (2147483647 : Int32))), .val (.int (p3 &&& (2147483647 : Int32))), .val (.ref b39), .val (.int (1 : Int32))] [(.int (1 : Int32))])
          refine own_st (fun t k => XS.goto X56.here hx rfl (pc0 := 149) (pc' := 153) rfl (hb hby at_149) (by decide) (by decide) k) ?_
          show own_Go _ _ _ _ T56 (mkF m 153 #[.val (.int p0), .val (.int p1), .val (.int p2), .val (.int p3), .val (.int (0 : Int32)), .val (.int (1 : Int32)), .val (.int (1 : Int32)), .val (.int (p1 &&& (2147483647 : Int32))), .val (.int (p2 &&& (2147483647 : Int32))), .val (.int (p3 &&& (2147483647 : Int32))), .val (.ref b39), .val (.int (1 : Int32))] [(.int (1 : Int32))])
          exact own_retNW X56 hS50 (by rw [e56]; exact (Nat.le_refl T50.heap.size)) hx hlk (t := .boolean) hrt (by simp) (hb hby at_153) ⟨rfl, N56⟩ (by decide) (by decide)
  ·
    refine own_st (fun t k => XS.ifNo X0.here hx rfl (hb hby at_3) rfl ((if0 _ _).trans (feq c3_1).1) k) ?_
    show own_Go _ _ _ _ s₁ (mkF m 6 #[.val (.int p0), .val (.int p1), .val (.int p2), .val (.int p3), .unset, .unset, .unset, .unset, .unset, .unset, .unset, .unset] [])
    refine own_st (fun t k => XS.iconst X0.here hx rfl (hb hby at_6) k) ?_
    show own_Go _ _ _ _ s₁ (mkF m 7 #[.val (.int p0), .val (.int p1), .val (.int p2), .val (.int p3), .unset, .unset, .unset, .unset, .unset, .unset, .unset, .unset] [(.int (1 : Int32))])
    refine own_st (fun t k => XS.goto X0.here hx rfl (pc0 := 7) (pc' := 11) rfl (hb hby at_7) (by decide) (by decide) k) ?_
    show own_Go _ _ _ _ s₁ (mkF m 11 #[.val (.int p0), .val (.int p1), .val (.int p2), .val (.int p3), .unset, .unset, .unset, .unset, .unset, .unset, .unset, .unset] [(.int (1 : Int32))])
    refine own_st (fun t k => XS.istore X0.here hx rfl (hb hby at_11) rfl (l' := #[.val (.int p0), .val (.int p1), .val (.int p2), .val (.int p3), .val (.int (1 : Int32)), .unset, .unset, .unset, .unset, .unset, .unset, .unset]) rfl k) ?_
    show own_Go _ _ _ _ s₁ (mkF m 13 #[.val (.int p0), .val (.int p1), .val (.int p2), .val (.int p3), .val (.int (1 : Int32)), .unset, .unset, .unset, .unset, .unset, .unset, .unset] [])
    refine own_st (fun t k => XS.iloadN X0.here hx rfl (hb hby at_13) rfl k) ?_
    show own_Go _ _ _ _ s₁ (mkF m 14 #[.val (.int p0), .val (.int p1), .val (.int p2), .val (.int p3), .val (.int (1 : Int32)), .unset, .unset, .unset, .unset, .unset, .unset, .unset] [(.int p0)])
    refine own_st (fun t k => XS.iconst X0.here hx rfl (hb hby at_14) k) ?_
    show own_Go _ _ _ _ s₁ (mkF m 15 #[.val (.int p0), .val (.int p1), .val (.int p2), .val (.int p3), .val (.int (1 : Int32)), .unset, .unset, .unset, .unset, .unset, .unset, .unset] [(.int (2 : Int32)), (.int p0)])
    refine own_st (fun t k => XS.iand X0.here hx rfl (hb hby at_15) rfl k) ?_
    show own_Go _ _ _ _ s₁ (mkF m 16 #[.val (.int p0), .val (.int p1), .val (.int p2), .val (.int p3), .val (.int (1 : Int32)), .unset, .unset, .unset, .unset, .unset, .unset, .unset] [(.int (p0 &&& (2 : Int32)))])
    by_cases c16_59 : (p0 &&& (2 : Int32)) = (0 : Int32)
    ·
      refine own_st (fun t k => XS.ifYes X0.here hx rfl (pc0 := 16) (pc' := 23) rfl (hb hby at_16) rfl ((if0 _ _).trans (teq c16_59).1) (by decide) (by decide) k) ?_
      show own_Go _ _ _ _ s₁ (mkF m 23 #[.val (.int p0), .val (.int p1), .val (.int p2), .val (.int p3), .val (.int (1 : Int32)), .unset, .unset, .unset, .unset, .unset, .unset, .unset] [])
      refine own_st (fun t k => XS.iconst X0.here hx rfl (hb hby at_23) k) ?_
      show own_Go _ _ _ _ s₁ (mkF m 24 #[.val (.int p0), .val (.int p1), .val (.int p2), .val (.int p3), .val (.int (1 : Int32)), .unset, .unset, .unset, .unset, .unset, .unset, .unset] [(.int (0 : Int32))])
      refine own_st (fun t k => XS.istore X0.here hx rfl (hb hby at_24) rfl (l' := #[.val (.int p0), .val (.int p1), .val (.int p2), .val (.int p3), .val (.int (1 : Int32)), .val (.int (0 : Int32)), .unset, .unset, .unset, .unset, .unset, .unset]) rfl k) ?_
      show own_Go _ _ _ _ s₁ (mkF m 26 #[.val (.int p0), .val (.int p1), .val (.int p2), .val (.int p3), .val (.int (1 : Int32)), .val (.int (0 : Int32)), .unset, .unset, .unset, .unset, .unset, .unset] [])
      refine own_st (fun t k => XS.iloadN X0.here hx rfl (hb hby at_26) rfl k) ?_
      show own_Go _ _ _ _ s₁ (mkF m 27 #[.val (.int p0), .val (.int p1), .val (.int p2), .val (.int p3), .val (.int (1 : Int32)), .val (.int (0 : Int32)), .unset, .unset, .unset, .unset, .unset, .unset] [(.int p0)])
      refine own_st (fun t k => XS.iconst X0.here hx rfl (hb hby at_27) k) ?_
      show own_Go _ _ _ _ s₁ (mkF m 28 #[.val (.int p0), .val (.int p1), .val (.int p2), .val (.int p3), .val (.int (1 : Int32)), .val (.int (0 : Int32)), .unset, .unset, .unset, .unset, .unset, .unset] [(.int (4 : Int32)), (.int p0)])
      refine own_st (fun t k => XS.iand X0.here hx rfl (hb hby at_28) rfl k) ?_
      show own_Go _ _ _ _ s₁ (mkF m 29 #[.val (.int p0), .val (.int p1), .val (.int p2), .val (.int p3), .val (.int (1 : Int32)), .val (.int (0 : Int32)), .unset, .unset, .unset, .unset, .unset, .unset] [(.int (p0 &&& (4 : Int32)))])
      by_cases c29_60 : (p0 &&& (4 : Int32)) = (0 : Int32)
      ·
        refine own_st (fun t k => XS.ifYes X0.here hx rfl (pc0 := 29) (pc' := 36) rfl (hb hby at_29) rfl ((if0 _ _).trans (teq c29_60).1) (by decide) (by decide) k) ?_
        show own_Go _ _ _ _ s₁ (mkF m 36 #[.val (.int p0), .val (.int p1), .val (.int p2), .val (.int p3), .val (.int (1 : Int32)), .val (.int (0 : Int32)), .unset, .unset, .unset, .unset, .unset, .unset] [])
        refine own_st (fun t k => XS.iconst X0.here hx rfl (hb hby at_36) k) ?_
        show own_Go _ _ _ _ s₁ (mkF m 37 #[.val (.int p0), .val (.int p1), .val (.int p2), .val (.int p3), .val (.int (1 : Int32)), .val (.int (0 : Int32)), .unset, .unset, .unset, .unset, .unset, .unset] [(.int (0 : Int32))])
        refine own_st (fun t k => XS.istore X0.here hx rfl (hb hby at_37) rfl (l' := #[.val (.int p0), .val (.int p1), .val (.int p2), .val (.int p3), .val (.int (1 : Int32)), .val (.int (0 : Int32)), .val (.int (0 : Int32)), .unset, .unset, .unset, .unset, .unset]) rfl k) ?_
        show own_Go _ _ _ _ s₁ (mkF m 39 #[.val (.int p0), .val (.int p1), .val (.int p2), .val (.int p3), .val (.int (1 : Int32)), .val (.int (0 : Int32)), .val (.int (0 : Int32)), .unset, .unset, .unset, .unset, .unset] [])
        refine own_st (fun t k => XS.iloadN X0.here hx rfl (hb hby at_39) rfl k) ?_
        show own_Go _ _ _ _ s₁ (mkF m 40 #[.val (.int p0), .val (.int p1), .val (.int p2), .val (.int p3), .val (.int (1 : Int32)), .val (.int (0 : Int32)), .val (.int (0 : Int32)), .unset, .unset, .unset, .unset, .unset] [(.int p1)])
        refine own_st (X0.ldcInt hx hown (mvT hZ (hw _ (List.mem_of_getElem? (i := 0) rfl))) (g := (mkF m 40 #[.val (.int p0), .val (.int p1), .val (.int p2), .val (.int p3), .val (.int (1 : Int32)), .val (.int (0 : Int32)), .val (.int (0 : Int32)), .unset, .unset, .unset, .unset, .unset] [(.int p1)])) rfl (hb hby at_40)) ?_
        show own_Go _ _ _ _ s₁ (mkF m 42 #[.val (.int p0), .val (.int p1), .val (.int p2), .val (.int p3), .val (.int (1 : Int32)), .val (.int (0 : Int32)), .val (.int (0 : Int32)), .unset, .unset, .unset, .unset, .unset] [(.int (2147483647 : Int32)), (.int p1)])
        refine own_st (fun t k => XS.iand X0.here hx rfl (hb hby at_42) rfl k) ?_
        show own_Go _ _ _ _ s₁ (mkF m 43 #[.val (.int p0), .val (.int p1), .val (.int p2), .val (.int p3), .val (.int (1 : Int32)), .val (.int (0 : Int32)), .val (.int (0 : Int32)), .unset, .unset, .unset, .unset, .unset] [(.int (p1 &&& (2147483647 : Int32)))])
        refine own_st (fun t k => XS.istore X0.here hx rfl (hb hby at_43) rfl (l' := #[.val (.int p0), .val (.int p1), .val (.int p2), .val (.int p3), .val (.int (1 : Int32)), .val (.int (0 : Int32)), .val (.int (0 : Int32)), .val (.int (p1 &&& (2147483647 : Int32))), .unset, .unset, .unset, .unset]) rfl k) ?_
        show own_Go _ _ _ _ s₁ (mkF m 45 #[.val (.int p0), .val (.int p1), .val (.int p2), .val (.int p3), .val (.int (1 : Int32)), .val (.int (0 : Int32)), .val (.int (0 : Int32)), .val (.int (p1 &&& (2147483647 : Int32))), .unset, .unset, .unset, .unset] [])
        refine own_st (fun t k => XS.iloadN X0.here hx rfl (hb hby at_45) rfl k) ?_
        show own_Go _ _ _ _ s₁ (mkF m 46 #[.val (.int p0), .val (.int p1), .val (.int p2), .val (.int p3), .val (.int (1 : Int32)), .val (.int (0 : Int32)), .val (.int (0 : Int32)), .val (.int (p1 &&& (2147483647 : Int32))), .unset, .unset, .unset, .unset] [(.int p2)])
        refine own_st (X0.ldcInt hx hown (mvT hZ (hw _ (List.mem_of_getElem? (i := 0) rfl))) (g := (mkF m 46 #[.val (.int p0), .val (.int p1), .val (.int p2), .val (.int p3), .val (.int (1 : Int32)), .val (.int (0 : Int32)), .val (.int (0 : Int32)), .val (.int (p1 &&& (2147483647 : Int32))), .unset, .unset, .unset, .unset] [(.int p2)])) rfl (hb hby at_46)) ?_
        show own_Go _ _ _ _ s₁ (mkF m 48 #[.val (.int p0), .val (.int p1), .val (.int p2), .val (.int p3), .val (.int (1 : Int32)), .val (.int (0 : Int32)), .val (.int (0 : Int32)), .val (.int (p1 &&& (2147483647 : Int32))), .unset, .unset, .unset, .unset] [(.int (2147483647 : Int32)), (.int p2)])
        refine own_st (fun t k => XS.iand X0.here hx rfl (hb hby at_48) rfl k) ?_
        show own_Go _ _ _ _ s₁ (mkF m 49 #[.val (.int p0), .val (.int p1), .val (.int p2), .val (.int p3), .val (.int (1 : Int32)), .val (.int (0 : Int32)), .val (.int (0 : Int32)), .val (.int (p1 &&& (2147483647 : Int32))), .unset, .unset, .unset, .unset] [(.int (p2 &&& (2147483647 : Int32)))])
        refine own_st (fun t k => XS.istore X0.here hx rfl (hb hby at_49) rfl (l' := #[.val (.int p0), .val (.int p1), .val (.int p2), .val (.int p3), .val (.int (1 : Int32)), .val (.int (0 : Int32)), .val (.int (0 : Int32)), .val (.int (p1 &&& (2147483647 : Int32))), .val (.int (p2 &&& (2147483647 : Int32))), .unset, .unset, .unset]) rfl k) ?_
        show own_Go _ _ _ _ s₁ (mkF m 51 #[.val (.int p0), .val (.int p1), .val (.int p2), .val (.int p3), .val (.int (1 : Int32)), .val (.int (0 : Int32)), .val (.int (0 : Int32)), .val (.int (p1 &&& (2147483647 : Int32))), .val (.int (p2 &&& (2147483647 : Int32))), .unset, .unset, .unset] [])
        refine own_st (fun t k => XS.iloadN X0.here hx rfl (hb hby at_51) rfl k) ?_
        show own_Go _ _ _ _ s₁ (mkF m 52 #[.val (.int p0), .val (.int p1), .val (.int p2), .val (.int p3), .val (.int (1 : Int32)), .val (.int (0 : Int32)), .val (.int (0 : Int32)), .val (.int (p1 &&& (2147483647 : Int32))), .val (.int (p2 &&& (2147483647 : Int32))), .unset, .unset, .unset] [(.int p3)])
        refine own_st (X0.ldcInt hx hown (mvT hZ (hw _ (List.mem_of_getElem? (i := 0) rfl))) (g := (mkF m 52 #[.val (.int p0), .val (.int p1), .val (.int p2), .val (.int p3), .val (.int (1 : Int32)), .val (.int (0 : Int32)), .val (.int (0 : Int32)), .val (.int (p1 &&& (2147483647 : Int32))), .val (.int (p2 &&& (2147483647 : Int32))), .unset, .unset, .unset] [(.int p3)])) rfl (hb hby at_52)) ?_
        show own_Go _ _ _ _ s₁ (mkF m 54 #[.val (.int p0), .val (.int p1), .val (.int p2), .val (.int p3), .val (.int (1 : Int32)), .val (.int (0 : Int32)), .val (.int (0 : Int32)), .val (.int (p1 &&& (2147483647 : Int32))), .val (.int (p2 &&& (2147483647 : Int32))), .unset, .unset, .unset] [(.int (2147483647 : Int32)), (.int p3)])
        refine own_st (fun t k => XS.iand X0.here hx rfl (hb hby at_54) rfl k) ?_
        show own_Go _ _ _ _ s₁ (mkF m 55 #[.val (.int p0), .val (.int p1), .val (.int p2), .val (.int p3), .val (.int (1 : Int32)), .val (.int (0 : Int32)), .val (.int (0 : Int32)), .val (.int (p1 &&& (2147483647 : Int32))), .val (.int (p2 &&& (2147483647 : Int32))), .unset, .unset, .unset] [(.int (p3 &&& (2147483647 : Int32)))])
        refine own_st (fun t k => XS.istore X0.here hx rfl (hb hby at_55) rfl (l' := #[.val (.int p0), .val (.int p1), .val (.int p2), .val (.int p3), .val (.int (1 : Int32)), .val (.int (0 : Int32)), .val (.int (0 : Int32)), .val (.int (p1 &&& (2147483647 : Int32))), .val (.int (p2 &&& (2147483647 : Int32))), .val (.int (p3 &&& (2147483647 : Int32))), .unset, .unset]) rfl k) ?_
        show own_Go _ _ _ _ s₁ (mkF m 57 #[.val (.int p0), .val (.int p1), .val (.int p2), .val (.int p3), .val (.int (1 : Int32)), .val (.int (0 : Int32)), .val (.int (0 : Int32)), .val (.int (p1 &&& (2147483647 : Int32))), .val (.int (p2 &&& (2147483647 : Int32))), .val (.int (p3 &&& (2147483647 : Int32))), .unset, .unset] [])
        obtain ⟨T61, h61, X61, e61, E61, A61, D61, -, st61⟩ := newO X0 hx hZ hown (hw _ (List.mem_of_getElem? (i := 1) rfl)) (hw _ (List.mem_of_getElem? (i := 2) rfl)) (hw _ (List.mem_of_getElem? (i := 3) rfl)) e0 (g := (mkF m 57 #[.val (.int p0), .val (.int p1), .val (.int p2), .val (.int p3), .val (.int (1 : Int32)), .val (.int (0 : Int32)), .val (.int (0 : Int32)), .val (.int (p1 &&& (2147483647 : Int32))), .val (.int (p2 &&& (2147483647 : Int32))), .val (.int (p3 &&& (2147483647 : Int32))), .unset, .unset] [])) rfl (hb hby at_57) (by decide) (by decide)
        obtain ⟨b61, g61⟩ : ∃ z, z = h0.size := ⟨_, rfl⟩
        rw [← g61] at A61 D61 st61
        have sz_b61 : h0.size ≤ b61 := Nat.le_trans K0.1 (Nat.le_of_eq g61.symm)
        have g_b61 : n0 ≤ b61 := Nat.le_trans Z0 sz_b61
        have F61_maxPoolSize : Fld Z h61 b61 "com/example/hot_pool/hotpool/config/PoolSettings" "maxPoolSize" "I" (.int (0 : Int32)) := D61 (Or.inl (hw _ (List.mem_of_getElem? (i := 11) rfl))) (ty := .int) (by decide)
        have F61_connectionWaitTimeout : Fld Z h61 b61 "com/example/hot_pool/hotpool/config/PoolSettings" "connectionWaitTimeout" "I" (.int (0 : Int32)) := D61 (Or.inl (hw _ (List.mem_of_getElem? (i := 13) rfl))) (ty := .int) (by decide)
        have F61_propertyCycle : Fld Z h61 b61 "com/example/hot_pool/hotpool/config/PoolSettings" "propertyCycle" "I" (.int (0 : Int32)) := D61 (Or.inl (hw _ (List.mem_of_getElem? (i := 15) rfl))) (ty := .int) (by decide)
        have F61_validateOnBorrow : Fld Z h61 b61 "com/example/hot_pool/hotpool/config/PoolSettings" "validateOnBorrow" "Z" (.int (0 : Int32)) := D61 (Or.inl (hw _ (List.mem_of_getElem? (i := 17) rfl))) (ty := .boolean) (by decide)
        have F61_validationTimeout : Fld Z h61 b61 "com/example/hot_pool/hotpool/config/PoolSettings" "validationTimeout" "I" (.int (0 : Int32)) := D61 (Or.inl (hw _ (List.mem_of_getElem? (i := 19) rfl))) (ty := .int) (by decide)
        have F61_validationTrustTime : Fld Z h61 b61 "com/example/hot_pool/hotpool/config/PoolSettings" "validationTrustTime" "I" (.int (0 : Int32)) := D61 (Or.inl (hw _ (List.mem_of_getElem? (i := 21) rfl))) (ty := .int) (by decide)
        have F61_flushAfterFailedValidations : Fld Z h61 b61 "com/example/hot_pool/hotpool/config/PoolSettings" "flushAfterFailedValidations" "I" (.int (0 : Int32)) := D61 (Or.inl (hw _ (List.mem_of_getElem? (i := 23) rfl))) (ty := .int) (by decide)
        have F61_autoCommit : Fld Z h61 b61 "com/example/hot_pool/hotpool/config/PoolSettings" "autoCommit" "Z" (.int (0 : Int32)) := D61 (Or.inl (hw _ (List.mem_of_getElem? (i := 25) rfl))) (ty := .boolean) (by decide)
        have F61_abandonedConnectionTimeout : Fld Z h61 b61 "com/example/hot_pool/hotpool/config/PoolSettings" "abandonedConnectionTimeout" "I" (.int (0 : Int32)) := D61 (Or.inl (hw _ (List.mem_of_getElem? (i := 32) rfl))) (ty := .int) (by decide)
        have F61_borrowTimeToLive : Fld Z h61 b61 "com/example/hot_pool/hotpool/config/PoolSettings" "borrowTimeToLive" "I" (.int (0 : Int32)) := D61 (Or.inl (hw _ (List.mem_of_getElem? (i := 34) rfl))) (ty := .int) (by decide)
        have F61_maxConnectionAge : Fld Z h61 b61 "com/example/hot_pool/hotpool/config/PoolSettings" "maxConnectionAge" "I" (.int (0 : Int32)) := D61 (Or.inl (hw _ (List.mem_of_getElem? (i := 53) rfl))) (ty := .int) (by decide)
        have F61_maxIdleTime : Fld Z h61 b61 "com/example/hot_pool/hotpool/config/PoolSettings" "maxIdleTime" "I" (.int (0 : Int32)) := D61 (Or.inl (hw _ (List.mem_of_getElem? (i := 61) rfl))) (ty := .int) (by decide)
        refine own_st st61 ?_
        show own_Go _ _ _ _ T61 (mkF m 60 #[.val (.int p0), .val (.int p1), .val (.int p2), .val (.int p3), .val (.int (1 : Int32)), .val (.int (0 : Int32)), .val (.int (0 : Int32)), .val (.int (p1 &&& (2147483647 : Int32))), .val (.int (p2 &&& (2147483647 : Int32))), .val (.int (p3 &&& (2147483647 : Int32))), .unset, .unset] [(.ref b61)])
        refine own_st (fun t k => XS.dup X61.here hx rfl (hb hby at_60) rfl rfl k) ?_
        show own_Go _ _ _ _ T61 (mkF m 61 #[.val (.int p0), .val (.int p1), .val (.int p2), .val (.int p3), .val (.int (1 : Int32)), .val (.int (0 : Int32)), .val (.int (0 : Int32)), .val (.int (p1 &&& (2147483647 : Int32))), .val (.int (p2 &&& (2147483647 : Int32))), .val (.int (p3 &&& (2147483647 : Int32))), .unset, .unset] [(.ref b61), (.ref b61)])
        have K0_63 := (K0.ext E61)
        obtain ⟨_, _, ⟨T62, L62, k62, n62⟩, -, X62, ⟨Lc62, hQ62, l62, y62, z62⟩, st62⟩ := X61.specialBack hx (y := (⟨"com/example/hot_pool/hotpool/config/PoolSettings", "<init>", "()V"⟩ : MethodName)) rfl hown (mvT hZ (hw _ (List.mem_of_getElem? (i := 4) rfl))) (mvT hZ (hw _ (List.mem_of_getElem? (i := 5) rfl))) (mvT hZ (hw _ (List.mem_of_getElem? (i := 6) rfl))) (by decide) (backOf (W := 1) (rm1 l Z a0 hw [] b61  h61 n0 (Nat.le_trans Z0 K0_63.1) A61 F61_maxPoolSize F61_connectionWaitTimeout F61_propertyCycle F61_validateOnBorrow F61_validationTimeout F61_validationTrustTime F61_flushAfterFailedValidations F61_autoCommit F61_abandonedConnectionTimeout F61_borrowTimeToLive F61_maxConnectionAge F61_maxIdleTime g_b61) hZ (hw _ (List.mem_of_getElem? (i := 6) rfl)) (hw _ (List.mem_of_getElem? (i := 3) rfl)) (by decide) (by decide)) (g := (mkF m 61 #[.val (.int p0), .val (.int p1), .val (.int p2), .val (.int p3), .val (.int (1 : Int32)), .val (.int (0 : Int32)), .val (.int (0 : Int32)), .val (.int (p1 &&& (2147483647 : Int32))), .val (.int (p2 &&& (2147483647 : Int32))), .val (.int (p3 &&& (2147483647 : Int32))), .unset, .unset] [(.ref b61), (.ref b61)])) rfl (by rw [hml]; rfl) (Steps.refl _) (a := b61) (argsL := []) (rest := [(.ref b61)]) (lenOf pd__28_29V rfl) rfl (by show 2 * 0 + _ ≤ _; exact Nat.le_of_eq rfl) (hb hby at_61) (fun _ _ => ⟨rfl, e61, (by decide : 1 + 0 ≤ _), (by decide : 23 + 0 ≤ _)⟩)
        dsimp only [Pt.U, Pt.locs, Pt.cells, Pt.slots] at X62 l62 y62 z62 st62 hQ62
        subst l62 y62 z62
        obtain ⟨rfl, N62q, K62, G62_0, G62_1, G62_2, G62_3, G62_4, G62_5, G62_6, G62_7, G62_8, G62_9, G62_10, G62_11⟩ := hQ62
        obtain ⟨_, X62, N62⟩ := own_hide X62 (Fr.app N0 N62q)
        refine own_tr st62 ?_
        show own_Go _ _ _ _ T62 (mkF m 64 #[.val (.int p0), .val (.int p1), .val (.int p2), .val (.int p3), .val (.int (1 : Int32)), .val (.int (0 : Int32)), .val (.int (0 : Int32)), .val (.int (p1 &&& (2147483647 : Int32))), .val (.int (p2 &&& (2147483647 : Int32))), .val (.int (p3 &&& (2147483647 : Int32))), .unset, .unset] [(.ref b61)])
        refine own_st (fun t k => XS.astore X62.here hx rfl (hb hby at_64) rfl rfl (l' := #[.val (.int p0), .val (.int p1), .val (.int p2), .val (.int p3), .val (.int (1 : Int32)), .val (.int (0 : Int32)), .val (.int (0 : Int32)), .val (.int (p1 &&& (2147483647 : Int32))), .val (.int (p2 &&& (2147483647 : Int32))), .val (.int (p3 &&& (2147483647 : Int32))), .val (.ref b61), .unset]) rfl k) ?_
        show own_Go _ _ _ _ T62 (mkF m 66 #[.val (.int p0), .val (.int p1), .val (.int p2), .val (.int p3), .val (.int (1 : Int32)), .val (.int (0 : Int32)), .val (.int (0 : Int32)), .val (.int (p1 &&& (2147483647 : Int32))), .val (.int (p2 &&& (2147483647 : Int32))), .val (.int (p3 &&& (2147483647 : Int32))), .val (.ref b61), .unset] [])
        refine own_st (fun t k => XS.iload X62.here hx rfl (hb hby at_66) rfl k) ?_
        show own_Go _ _ _ _ T62 (mkF m 68 #[.val (.int p0), .val (.int p1), .val (.int p2), .val (.int p3), .val (.int (1 : Int32)), .val (.int (0 : Int32)), .val (.int (0 : Int32)), .val (.int (p1 &&& (2147483647 : Int32))), .val (.int (p2 &&& (2147483647 : Int32))), .val (.int (p3 &&& (2147483647 : Int32))), .val (.ref b61), .unset] [(.int (0 : Int32))])
        refine own_st (fun t k => XS.ifYes X62.here hx rfl (pc0 := 68) (pc' := 85) rfl (hb hby at_68) rfl ((if0 _ _).trans (teq (by decide : (0 : Int32) = (0 : Int32))).1) (by decide) (by decide) k) ?_
        show own_Go _ _ _ _ T62 (mkF m 85 #[.val (.int p0), .val (.int p1), .val (.int p2), .val (.int p3), .val (.int (1 : Int32)), .val (.int (0 : Int32)), .val (.int (0 : Int32)), .val (.int (p1 &&& (2147483647 : Int32))), .val (.int (p2 &&& (2147483647 : Int32))), .val (.int (p3 &&& (2147483647 : Int32))), .val (.ref b61), .unset] [])
        refine own_st (fun t k => XS.iload X62.here hx rfl (hb hby at_85) rfl k) ?_
        show own_Go _ _ _ _ T62 (mkF m 87 #[.val (.int p0), .val (.int p1), .val (.int p2), .val (.int p3), .val (.int (1 : Int32)), .val (.int (0 : Int32)), .val (.int (0 : Int32)), .val (.int (p1 &&& (2147483647 : Int32))), .val (.int (p2 &&& (2147483647 : Int32))), .val (.int (p3 &&& (2147483647 : Int32))), .val (.ref b61), .unset] [(.int (1 : Int32))])
        refine own_st (fun t k => XS.ifNo X62.here hx rfl (hb hby at_87) rfl ((if0 _ _).trans (feq (by decide : ¬ ((1 : Int32) = (0 : Int32)))).1) k) ?_
        show own_Go _ _ _ _ T62 (mkF m 90 #[.val (.int p0), .val (.int p1), .val (.int p2), .val (.int p3), .val (.int (1 : Int32)), .val (.int (0 : Int32)), .val (.int (0 : Int32)), .val (.int (p1 &&& (2147483647 : Int32))), .val (.int (p2 &&& (2147483647 : Int32))), .val (.int (p3 &&& (2147483647 : Int32))), .val (.ref b61), .unset] [])
        refine own_st (fun t k => XS.aload X62.here hx rfl (hb hby at_90) rfl rfl k) ?_
        show own_Go _ _ _ _ T62 (mkF m 92 #[.val (.int p0), .val (.int p1), .val (.int p2), .val (.int p3), .val (.int (1 : Int32)), .val (.int (0 : Int32)), .val (.int (0 : Int32)), .val (.int (p1 &&& (2147483647 : Int32))), .val (.int (p2 &&& (2147483647 : Int32))), .val (.int (p3 &&& (2147483647 : Int32))), .val (.ref b61), .unset] [(.ref b61)])
        refine own_st (fun t k => XS.iload X62.here hx rfl (hb hby at_92) rfl k) ?_
        show own_Go _ _ _ _ T62 (mkF m 94 #[.val (.int p0), .val (.int p1), .val (.int p2), .val (.int p3), .val (.int (1 : Int32)), .val (.int (0 : Int32)), .val (.int (0 : Int32)), .val (.int (p1 &&& (2147483647 : Int32))), .val (.int (p2 &&& (2147483647 : Int32))), .val (.int (p3 &&& (2147483647 : Int32))), .val (.ref b61), .unset] [(.int (p1 &&& (2147483647 : Int32))), (.ref b61)])
        have A61_64 := (A61.keep K62)
        have K0_66 := (K0_63.trans K62 (allS ((Or.inr sz_b61)) all0))
        have hk0_67 := (Nat.le_trans (Nat.le_trans hk0 E61.1) K62.1)
        obtain ⟨cq65, kq65, q65a, q65b, q65c⟩ := isOf hZ rfl A61_64
        obtain ⟨_, _, ⟨T65, L65, k65, n65⟩, -, X65, hs65, hg65, ⟨Lc65, hQ65, l65, y65, z65⟩, st65⟩ := X62.virtualBackS hx (y := (⟨"com/example/hot_pool/hotpool/config/PoolSettings", "setAbandonedConnectionTimeout", "(I)V"⟩ : MethodName)) (z := (⟨"com/example/hot_pool/hotpool/config/PoolSettings", "setAbandonedConnectionTimeout", "(I)V"⟩ : MethodName)) hown (mvT hZ (hw _ (List.mem_of_getElem? (i := 62) rfl))) (mvT hZ (hw _ (List.mem_of_getElem? (i := 63) rfl))) (notFace_of_selects (args := #[]) (mvT hZ (hw _ (List.mem_of_getElem? (i := 65) rfl)))) (mvT hZ (hw _ (List.mem_of_getElem? (i := 65) rfl))) (mvT hZ (hw _ (List.mem_of_getElem? (i := 64) rfl))) (by decide) (backOfS (W := 0) (rm7 l Z a0 hw [] b61 (p1 &&& (2147483647 : Int32)) (0 : Int32) (0 : Int32) (0 : Int32) (0 : Int32)  T62.heap n0 (Nat.le_trans Z0 K0_66.1) A61_64 G62_10 G62_11 G62_8 G62_9 g_b61 (own_nn _)) hZ (hw _ (List.mem_of_getElem? (i := 66) rfl)) (hw _ (List.mem_of_getElem? (i := 3) rfl)) (by decide) (by decide)) q65a q65c (g := (mkF m 94 #[.val (.int p0), .val (.int p1), .val (.int p2), .val (.int p3), .val (.int (1 : Int32)), .val (.int (0 : Int32)), .val (.int (0 : Int32)), .val (.int (p1 &&& (2147483647 : Int32))), .val (.int (p2 &&& (2147483647 : Int32))), .val (.int (p3 &&& (2147483647 : Int32))), .val (.ref b61), .unset] [(.int (p1 &&& (2147483647 : Int32))), (.ref b61)])) rfl (by rw [hml]; rfl) (Steps.refl _) (argsL := [(.int (p1 &&& (2147483647 : Int32)))]) (rest := []) (lenOf pd__28I_29V rfl) rfl (by show 2 * 0 + _ ≤ _; exact Nat.le_of_eq rfl) (hb hby at_94) (fun _ _ => ⟨rfl, rfl, (by decide : 1 + 2 ≤ _), (by decide : 23 + 108 ≤ _)⟩)
        dsimp only [Pt.U, Pt.locs, Pt.cells, Pt.slots] at X65 l65 y65 z65 st65 hQ65 hs65 hg65
        subst l65 y65 z65
        obtain ⟨rfl, N65q, K65, G65_0, G65_1, G65_2, G65_3⟩ := hQ65
        obtain ⟨_, X65, N65⟩ := own_hide X65 (Fr.app N62 N65q)
        have X65 := own_fold X65
        have hS65 := foldS hS0 hk0_67 hs65 hg65
        have hZ65 : Z.Warmed39 (s.setVm T65.vm).vm := own_wz hZ hs65
        have hown65 : (s.setVm T65.vm).vm.findClass "com/example/hot_pool/hotpool/config/PoolSettingsIsReclaimingPinLaw" = some m.cls := own_wo hown hs65
        refine own_tr st65 ?_
        show own_Go _ _ _ _ T65 (mkF m 97 #[.val (.int p0), .val (.int p1), .val (.int p2), .val (.int p3), .val (.int (1 : Int32)), .val (.int (0 : Int32)), .val (.int (0 : Int32)), .val (.int (p1 &&& (2147483647 : Int32))), .val (.int (p2 &&& (2147483647 : Int32))), .val (.int (p3 &&& (2147483647 : Int32))), .val (.ref b61), .unset] [])
        refine own_st (fun t k => XS.iload X65.here hx rfl (hb hby at_97) rfl k) ?_
        show own_Go _ _ _ _ T65 (mkF m 99 #[.val (.int p0), .val (.int p1), .val (.int p2), .val (.int p3), .val (.int (1 : Int32)), .val (.int (0 : Int32)), .val (.int (0 : Int32)), .val (.int (p1 &&& (2147483647 : Int32))), .val (.int (p2 &&& (2147483647 : Int32))), .val (.int (p3 &&& (2147483647 : Int32))), .val (.ref b61), .unset] [(.int (0 : Int32))])
        refine own_st (fun t k => XS.ifYes X65.here hx rfl (pc0 := 99) (pc' := 109) rfl (hb hby at_99) rfl ((if0 _ _).trans (teq (by decide : (0 : Int32) = (0 : Int32))).1) (by decide) (by decide) k) ?_
        show own_Go _ _ _ _ T65 (mkF m 109 #[.val (.int p0), .val (.int p1), .val (.int p2), .val (.int p3), .val (.int (1 : Int32)), .val (.int (0 : Int32)), .val (.int (0 : Int32)), .val (.int (p1 &&& (2147483647 : Int32))), .val (.int (p2 &&& (2147483647 : Int32))), .val (.int (p3 &&& (2147483647 : Int32))), .val (.ref b61), .unset] [])
        refine own_st (fun t k => XS.iconst X65.here hx rfl (hb hby at_109) k) ?_
        show own_Go _ _ _ _ T65 (mkF m 110 #[.val (.int p0), .val (.int p1), .val (.int p2), .val (.int p3), .val (.int (1 : Int32)), .val (.int (0 : Int32)), .val (.int (0 : Int32)), .val (.int (p1 &&& (2147483647 : Int32))), .val (.int (p2 &&& (2147483647 : Int32))), .val (.int (p3 &&& (2147483647 : Int32))), .val (.ref b61), .unset] [(.int (0 : Int32))])
        refine own_st (fun t k => XS.istore X65.here hx rfl (hb hby at_110) rfl (l' := #[.val (.int p0), .val (.int p1), .val (.int p2), .val (.int p3), .val (.int (1 : Int32)), .val (.int (0 : Int32)), .val (.int (0 : Int32)), .val (.int (p1 &&& (2147483647 : Int32))), .val (.int (p2 &&& (2147483647 : Int32))), .val (.int (p3 &&& (2147483647 : Int32))), .val (.ref b61), .val (.int (0 : Int32))]) rfl k) ?_
        show own_Go _ _ _ _ T65 (mkF m 112 #[.val (.int p0), .val (.int p1), .val (.int p2), .val (.int p3), .val (.int (1 : Int32)), .val (.int (0 : Int32)), .val (.int (0 : Int32)), .val (.int (p1 &&& (2147483647 : Int32))), .val (.int (p2 &&& (2147483647 : Int32))), .val (.int (p3 &&& (2147483647 : Int32))), .val (.ref b61), .val (.int (0 : Int32))] [])
        refine own_st (fun t k => XS.iload X65.here hx rfl (hb hby at_112) rfl k) ?_
        show own_Go _ _ _ _ T65 (mkF m 114 #[.val (.int p0), .val (.int p1), .val (.int p2), .val (.int p3), .val (.int (1 : Int32)), .val (.int (0 : Int32)), .val (.int (0 : Int32)), .val (.int (p1 &&& (2147483647 : Int32))), .val (.int (p2 &&& (2147483647 : Int32))), .val (.int (p3 &&& (2147483647 : Int32))), .val (.ref b61), .val (.int (0 : Int32))] [(.int (1 : Int32))])
        refine own_st (fun t k => XS.ifNo X65.here hx rfl (hb hby at_114) rfl ((if0 _ _).trans (feq (by decide : ¬ ((1 : Int32) = (0 : Int32)))).1) k) ?_
        show own_Go _ _ _ _ T65 (mkF m 117 #[.val (.int p0), .val (.int p1), .val (.int p2), .val (.int p3), .val (.int (1 : Int32)), .val (.int (0 : Int32)), .val (.int (0 : Int32)), .val (.int (p1 &&& (2147483647 : Int32))), .val (.int (p2 &&& (2147483647 : Int32))), .val (.int (p3 &&& (2147483647 : Int32))), .val (.ref b61), .val (.int (0 : Int32))] [])
        refine own_st (fun t k => XS.iload X65.here hx rfl (hb hby at_117) rfl k) ?_
        show own_Go _ _ _ _ T65 (mkF m 119 #[.val (.int p0), .val (.int p1), .val (.int p2), .val (.int p3), .val (.int (1 : Int32)), .val (.int (0 : Int32)), .val (.int (0 : Int32)), .val (.int (p1 &&& (2147483647 : Int32))), .val (.int (p2 &&& (2147483647 : Int32))), .val (.int (p3 &&& (2147483647 : Int32))), .val (.ref b61), .val (.int (0 : Int32))] [(.int (p1 &&& (2147483647 : Int32)))])
        by_cases c119_68 : (p1 &&& (2147483647 : Int32)) = (0 : Int32)
        ·
          refine own_st (fun t k => XS.ifYes X65.here hx rfl (pc0 := 119) (pc' := 125) rfl (hb hby at_119) rfl ((if0 _ _).trans (teq c119_68).1) (by decide) (by decide) k) ?_
          show own_Go _ _ _ _ T65 (mkF m 125 #[.val (.int p0), .val (.int p1), .val (.int p2), .val (.int p3), .val (.int (1 : Int32)), .val (.int (0 : Int32)), .val (.int (0 : Int32)), .val (.int (p1 &&& (2147483647 : Int32))), .val (.int (p2 &&& (2147483647 : Int32))), .val (.int (p3 &&& (2147483647 : Int32))), .val (.ref b61), .val (.int (0 : Int32))] [])
          refine own_st (fun t k => XS.iload X65.here hx rfl (hb hby at_125) rfl k) ?_
          show own_Go _ _ _ _ T65 (mkF m 127 #[.val (.int p0), .val (.int p1), .val (.int p2), .val (.int p3), .val (.int (1 : Int32)), .val (.int (0 : Int32)), .val (.int (0 : Int32)), .val (.int (p1 &&& (2147483647 : Int32))), .val (.int (p2 &&& (2147483647 : Int32))), .val (.int (p3 &&& (2147483647 : Int32))), .val (.ref b61), .val (.int (0 : Int32))] [(.int (0 : Int32))])
          refine own_st (fun t k => XS.ifYes X65.here hx rfl (pc0 := 127) (pc' := 138) rfl (hb hby at_127) rfl ((if0 _ _).trans (teq (by decide : (0 : Int32) = (0 : Int32))).1) (by decide) (by decide) k) ?_
          show own_Go _ _ _ _ T65 (mkF m 138 #[.val (.int p0), .val (.int p1), .val (.int p2), .val (.int p3), .val (.int (1 : Int32)), .val (.int (0 : Int32)), .val (.int (0 : Int32)), .val (.int (p1 &&& (2147483647 : Int32))), .val (.int (p2 &&& (2147483647 : Int32))), .val (.int (p3 &&& (2147483647 : Int32))), .val (.ref b61), .val (.int (0 : Int32))] [])
          refine own_st (fun t k => XS.aload X65.here hx rfl (hb hby at_138) rfl rfl k) ?_
          show own_Go _ _ _ _ T65 (mkF m 140 #[.val (.int p0), .val (.int p1), .val (.int p2), .val (.int p3), .val (.int (1 : Int32)), .val (.int (0 : Int32)), .val (.int (0 : Int32)), .val (.int (p1 &&& (2147483647 : Int32))), .val (.int (p2 &&& (2147483647 : Int32))), .val (.int (p3 &&& (2147483647 : Int32))), .val (.ref b61), .val (.int (0 : Int32))] [(.ref b61)])
          have K0_70 := (K0_66.trans K65 (allS ((Or.inr sz_b61)) all0))
          have A61_71 := (A61_64.keep K65)
          obtain ⟨cq69, kq69, q69a, q69b, q69c⟩ := isOf hZ65 rfl A61_71
          obtain ⟨_, _, ⟨T69, L69, k69, n69⟩, -, X69, ⟨Lc69, hQ69, l69, y69, z69⟩, st69⟩ := X65.virtualBack hx (y := (⟨"com/example/hot_pool/hotpool/config/PoolSettings", "isReclaiming", "()Z"⟩ : MethodName)) (z := (⟨"com/example/hot_pool/hotpool/config/PoolSettings", "isReclaiming", "()Z"⟩ : MethodName)) hown65 (mvT hZ65 (hw _ (List.mem_of_getElem? (i := 26) rfl))) (mvT hZ65 (hw _ (List.mem_of_getElem? (i := 27) rfl))) (notFace_of_selects (args := #[]) (mvT hZ65 (hw _ (List.mem_of_getElem? (i := 29) rfl)))) (mvT hZ65 (hw _ (List.mem_of_getElem? (i := 29) rfl))) (mvT hZ65 (hw _ (List.mem_of_getElem? (i := 28) rfl))) (by decide) (backOf (W := 0) (rm3 l Z a0 hw [] b61 (p1 &&& (2147483647 : Int32)) (0 : Int32)  T65.heap n0 (Nat.le_trans Z0 K0_70.1) G65_2 G65_3) hZ65 (hw _ (List.mem_of_getElem? (i := 30) rfl)) (hw _ (List.mem_of_getElem? (i := 3) rfl)) (by decide) (by decide)) q69a q69c (g := (mkF m 140 #[.val (.int p0), .val (.int p1), .val (.int p2), .val (.int p3), .val (.int (1 : Int32)), .val (.int (0 : Int32)), .val (.int (0 : Int32)), .val (.int (p1 &&& (2147483647 : Int32))), .val (.int (p2 &&& (2147483647 : Int32))), .val (.int (p3 &&& (2147483647 : Int32))), .val (.ref b61), .val (.int (0 : Int32))] [(.ref b61)])) rfl (by rw [hml]; rfl) (Steps.refl _) (argsL := []) (rest := []) (lenOf pd__28_29Z rfl) rfl (by show 2 * 0 + _ ≤ _; exact Nat.le_of_eq rfl) (hb hby at_140) (fun _ _ => ⟨rfl, rfl, (by decide : 3 + 0 ≤ _), (by decide : 131 + 0 ≤ _)⟩)
          dsimp only [Pt.U, Pt.locs, Pt.cells, Pt.slots] at X69 l69 y69 z69 st69 hQ69
          subst l69 y69 z69
          obtain ⟨rfl, N69q, e69⟩ := hQ69
          obtain ⟨_, X69, N69⟩ := own_hide X69 (Fr.app N65 N69q)
          refine own_tr st69 ?_
          show own_Go _ _ _ _ T69 (mkF m 143 #[.val (.int p0), .val (.int p1), .val (.int p2), .val (.int p3), .val (.int (1 : Int32)), .val (.int (0 : Int32)), .val (.int (0 : Int32)), .val (.int (p1 &&& (2147483647 : Int32))), .val (.int (p2 &&& (2147483647 : Int32))), .val (.int (p3 &&& (2147483647 : Int32))), .val (.ref b61), .val (.int (0 : Int32))] [(.int (own_r (p1 &&& (2147483647 : Int32)) (0 : Int32)))])
          refine own_st (fun t k => XS.iload X69.here hx rfl (hb hby at_143) rfl k) ?_
          show own_Go _ _ _ _ T69 (mkF m 145 #[.val (.int p0), .val (.int p1), .val (.int p2), .val (.int p3), .val (.int (1 : Int32)), .val (.int (0 : Int32)), .val (.int (0 : Int32)), .val (.int (p1 &&& (2147483647 : Int32))), .val (.int (p2 &&& (2147483647 : Int32))), .val (.int (p3 &&& (2147483647 : Int32))), .val (.ref b61), .val (.int (0 : Int32))] [(.int (0 : Int32)), (.int (own_r (p1 &&& (2147483647 : Int32)) (0 : Int32)))])
          refine own_st (fun t k => XS.icmpNo X69.here hx rfl (hb hby at_145) rfl (teq (own_r_0 (own_mz c119_68) (by decide) : (own_r (p1 &&& (2147483647 : Int32)) (0 : Int32)) = (0 : Int32))).2 k) ?_
          show own_Go _ _ _ _ T69 (mkF m 148 #[.val (.int p0), .val (.int p1), .val (.int p2), .val (.int p3), .val (.int (1 : Int32)), .val (.int (0 : Int32)), .val (.int (0 : Int32)), .val (.int (p1 &&& (2147483647 : Int32))), .val (.int (p2 &&& (2147483647 : Int32))), .val (.int (p3 &&& (2147483647 : Int32))), .val (.ref b61), .val (.int (0 : Int32))] [])
          refine own_st (fun t k => XS.iconst X69.here hx rfl (hb hby at_148) k) ?_
          show own_Go _ _ _ _ T69 (mkF m 149 #[.val (.int p0), .val (.int p1), .val (.int p2), .val (.int p3), .val (.int (1 : Int32)), .val (.int (0 : Int32)), .val (.int (0 : Int32)), .val (.int (p1 &&& (2147483647 : Int32))), .val (.int (p2 &&& (2147483647 : Int32))), .val (.int (p3 &&& (2147483647 : Int32))), .val (.ref b61), .val (.int (0 : Int32))] [(.int (1 : Int32))])
          refine own_st (fun t k => XS.goto X69.here hx rfl (pc0 := 149) (pc' := 153) rfl (hb hby at_149) (by decide) (by decide) k) ?_
          show own_Go _ _ _ _ T69 (mkF m 153 #[.val (.int p0), .val (.int p1), .val (.int p2), .val (.int p3), .val (.int (1 : Int32)), .val (.int (0 : Int32)), .val (.int (0 : Int32)), .val (.int (p1 &&& (2147483647 : Int32))), .val (.int (p2 &&& (2147483647 : Int32))), .val (.int (p3 &&& (2147483647 : Int32))), .val (.ref b61), .val (.int (0 : Int32))] [(.int (1 : Int32))])
          exact own_retNW X69 hS65 (by rw [e69]; exact (Nat.le_refl T65.heap.size)) hx hlk (t := .boolean) hrt (by simp) (hb hby at_153) ⟨rfl, N69⟩ (by decide) (by decide)
        ·
          refine own_st (fun t k => XS.ifNo X65.here hx rfl (hb hby at_119) rfl ((if0 _ _).trans (feq c119_68).1) k) ?_
          show own_Go _ _ _ _ T65 (mkF m 122 #[.val (.int p0), .val (.int p1), .val (.int p2), .val (.int p3), .val (.int (1 : Int32)), .val (.int (0 : Int32)), .val (.int (0 : Int32)), .val (.int (p1 &&& (2147483647 : Int32))), .val (.int (p2 &&& (2147483647 : Int32))), .val (.int (p3 &&& (2147483647 : Int32))), .val (.ref b61), .val (.int (0 : Int32))] [])
          refine own_st (fun t k => XS.iconst X65.here hx rfl (hb hby at_122) k) ?_
          show own_Go _ _ _ _ T65 (mkF m 123 #[.val (.int p0), .val (.int p1), .val (.int p2), .val (.int p3), .val (.int (1 : Int32)), .val (.int (0 : Int32)), .val (.int (0 : Int32)), .val (.int (p1 &&& (2147483647 : Int32))), .val (.int (p2 &&& (2147483647 : Int32))), .val (.int (p3 &&& (2147483647 : Int32))), .val (.ref b61), .val (.int (0 : Int32))] [(.int (1 : Int32))])
          refine own_st (fun t k => XS.istore X65.here hx rfl (hb hby at_123) rfl (l' := #[.val (.int p0), .val (.int p1), .val (.int p2), .val (.int p3), .val (.int (1 : Int32)), .val (.int (0 : Int32)), .val (.int (0 : Int32)), .val (.int (p1 &&& (2147483647 : Int32))), .val (.int (p2 &&& (2147483647 : Int32))), .val (.int (p3 &&& (2147483647 : Int32))), .val (.ref b61), .val (.int (1 : Int32))]) rfl k) ?_
          show own_Go _ _ _ _ T65 (mkF m 125 #[.val (.int p0), .val (.int p1), .val (.int p2), .val (.int p3), .val (.int (1 : Int32)), .val (.int (0 : Int32)), .val (.int (0 : Int32)), .val (.int (p1 &&& (2147483647 : Int32))), .val (.int (p2 &&& (2147483647 : Int32))), .val (.int (p3 &&& (2147483647 : Int32))), .val (.ref b61), .val (.int (1 : Int32))] [])
          refine own_st (fun t k => XS.iload X65.here hx rfl (hb hby at_125) rfl k) ?_
          show own_Go _ _ _ _ T65 (mkF m 127 #[.val (.int p0), .val (.int p1), .val (.int p2), .val (.int p3), .val (.int (1 : Int32)), .val (.int (0 : Int32)), .val (.int (0 : Int32)), .val (.int (p1 &&& (2147483647 : Int32))), .val (.int (p2 &&& (2147483647 : Int32))), .val (.int (p3 &&& (2147483647 : Int32))), .val (.ref b61), .val (.int (1 : Int32))] [(.int (0 : Int32))])
          refine own_st (fun t k => XS.ifYes X65.here hx rfl (pc0 := 127) (pc' := 138) rfl (hb hby at_127) rfl ((if0 _ _).trans (teq (by decide : (0 : Int32) = (0 : Int32))).1) (by decide) (by decide) k) ?_
          show own_Go _ _ _ _ T65 (mkF m 138 #[.val (.int p0), .val (.int p1), .val (.int p2), .val (.int p3), .val (.int (1 : Int32)), .val (.int (0 : Int32)), .val (.int (0 : Int32)), .val (.int (p1 &&& (2147483647 : Int32))), .val (.int (p2 &&& (2147483647 : Int32))), .val (.int (p3 &&& (2147483647 : Int32))), .val (.ref b61), .val (.int (1 : Int32))] [])
          refine own_st (fun t k => XS.aload X65.here hx rfl (hb hby at_138) rfl rfl k) ?_
          show own_Go _ _ _ _ T65 (mkF m 140 #[.val (.int p0), .val (.int p1), .val (.int p2), .val (.int p3), .val (.int (1 : Int32)), .val (.int (0 : Int32)), .val (.int (0 : Int32)), .val (.int (p1 &&& (2147483647 : Int32))), .val (.int (p2 &&& (2147483647 : Int32))), .val (.int (p3 &&& (2147483647 : Int32))), .val (.ref b61), .val (.int (1 : Int32))] [(.ref b61)])
          have K0_73 := (K0_66.trans K65 (allS ((Or.inr sz_b61)) all0))
          have A61_74 := (A61_64.keep K65)
          obtain ⟨cq72, kq72, q72a, q72b, q72c⟩ := isOf hZ65 rfl A61_74
          obtain ⟨_, _, ⟨T72, L72, k72, n72⟩, -, X72, ⟨Lc72, hQ72, l72, y72, z72⟩, st72⟩ := X65.virtualBack hx (y := (⟨"com/example/hot_pool/hotpool/config/PoolSettings", "isReclaiming", "()Z"⟩ : MethodName)) (z := (⟨"com/example/hot_pool/hotpool/config/PoolSettings", "isReclaiming", "()Z"⟩ : MethodName)) hown65 (mvT hZ65 (hw _ (List.mem_of_getElem? (i := 26) rfl))) (mvT hZ65 (hw _ (List.mem_of_getElem? (i := 27) rfl))) (notFace_of_selects (args := #[]) (mvT hZ65 (hw _ (List.mem_of_getElem? (i := 29) rfl)))) (mvT hZ65 (hw _ (List.mem_of_getElem? (i := 29) rfl))) (mvT hZ65 (hw _ (List.mem_of_getElem? (i := 28) rfl))) (by decide) (backOf (W := 0) (rm3 l Z a0 hw [] b61 (p1 &&& (2147483647 : Int32)) (0 : Int32)  T65.heap n0 (Nat.le_trans Z0 K0_73.1) G65_2 G65_3) hZ65 (hw _ (List.mem_of_getElem? (i := 30) rfl)) (hw _ (List.mem_of_getElem? (i := 3) rfl)) (by decide) (by decide)) q72a q72c (g := (mkF m 140 #[.val (.int p0), .val (.int p1), .val (.int p2), .val (.int p3), .val (.int (1 : Int32)), .val (.int (0 : Int32)), .val (.int (0 : Int32)), .val (.int (p1 &&& (2147483647 : Int32))), .val (.int (p2 &&& (2147483647 : Int32))), .val (.int (p3 &&& (2147483647 : Int32))), .val (.ref b61), .val (.int (1 : Int32))] [(.ref b61)])) rfl (by rw [hml]; rfl) (Steps.refl _) (argsL := []) (rest := []) (lenOf pd__28_29Z rfl) rfl (by show 2 * 0 + _ ≤ _; exact Nat.le_of_eq rfl) (hb hby at_140) (fun _ _ => ⟨rfl, rfl, (by decide : 3 + 0 ≤ _), (by decide : 131 + 0 ≤ _)⟩)
          dsimp only [Pt.U, Pt.locs, Pt.cells, Pt.slots] at X72 l72 y72 z72 st72 hQ72
          subst l72 y72 z72
          obtain ⟨rfl, N72q, e72⟩ := hQ72
          obtain ⟨_, X72, N72⟩ := own_hide X72 (Fr.app N65 N72q)
          refine own_tr st72 ?_
          show own_Go _ _ _ _ T72 (mkF m 143 #[.val (.int p0), .val (.int p1), .val (.int p2), .val (.int p3), .val (.int (1 : Int32)), .val (.int (0 : Int32)), .val (.int (0 : Int32)), .val (.int (p1 &&& (2147483647 : Int32))), .val (.int (p2 &&& (2147483647 : Int32))), .val (.int (p3 &&& (2147483647 : Int32))), .val (.ref b61), .val (.int (1 : Int32))] [(.int (own_r (p1 &&& (2147483647 : Int32)) (0 : Int32)))])
          refine own_st (fun t k => XS.iload X72.here hx rfl (hb hby at_143) rfl k) ?_
          show own_Go _ _ _ _ T72 (mkF m 145 #[.val (.int p0), .val (.int p1), .val (.int p2), .val (.int p3), .val (.int (1 : Int32)), .val (.int (0 : Int32)), .val (.int (0 : Int32)), .val (.int (p1 &&& (2147483647 : Int32))), .val (.int (p2 &&& (2147483647 : Int32))), .val (.int (p3 &&& (2147483647 : Int32))), .val (.ref b61), .val (.int (1 : Int32))] [(.int (1 : Int32)), (.int (own_r (p1 &&& (2147483647 : Int32)) (0 : Int32)))])
          refine own_st (fun t k => XS.icmpNo X72.here hx rfl (hb hby at_145) rfl (teq (own_r_a (own_mp c119_68) : (own_r (p1 &&& (2147483647 : Int32)) (0 : Int32)) = (1 : Int32))).2 k) ?_
          show own_Go _ _ _ _ T72 (mkF m 148 #[.val (.int p0), .val (.int p1), .val (.int p2), .val (.int p3), .val (.int (1 : Int32)), .val (.int (0 : Int32)), .val (.int (0 : Int32)), .val (.int (p1 &&& (2147483647 : Int32))), .val (.int (p2 &&& (2147483647 : Int32))), .val (.int (p3 &&& (2147483647 : Int32))), .val (.ref b61), .val (.int (1 : Int32))] [])
          refine own_st (fun t k => XS.iconst X72.here hx rfl (hb hby at_148) k) ?_
          show own_Go _ _ _ _ T72 (mkF m 149 #[.val (.int p0), .val (.int p1), .val (.int p2), .val (.int p3), .val (.int (1 : Int32)), .val (.int (0 : Int32)), .val (.int (0 : Int32)), .val (.int (p1 &&& (2147483647 : Int32))), .val (.int (p2 &&& (2147483647 : Int32))), .val (.int (p3 &&& (2147483647 : Int32))), .val (.ref b61), .val (.int (1 : Int32))] [(.int (1 : Int32))])
          refine own_st (fun t k => XS.goto X72.here hx rfl (pc0 := 149) (pc' := 153) rfl (hb hby at_149) (by decide) (by decide) k) ?_
          show own_Go _ _ _ _ T72 (mkF m 153 #[.val (.int p0), .val (.int p1), .val (.int p2), .val (.int p3), .val (.int (1 : Int32)), .val (.int (0 : Int32)), .val (.int (0 : Int32)), .val (.int (p1 &&& (2147483647 : Int32))), .val (.int (p2 &&& (2147483647 : Int32))), .val (.int (p3 &&& (2147483647 : Int32))), .val (.ref b61), .val (.int (1 : Int32))] [(.int (1 : Int32))])
          exact own_retNW X72 hS65 (by rw [e72]; exact (Nat.le_refl T65.heap.size)) hx hlk (t := .boolean) hrt (by simp) (hb hby at_153) ⟨rfl, N72⟩ (by decide) (by decide)
      ·
        refine own_st (fun t k => XS.ifNo X0.here hx rfl (hb hby at_29) rfl ((if0 _ _).trans (feq c29_60).1) k) ?_
        show own_Go _ _ _ _ s₁ (mkF m 32 #[.val (.int p0), .val (.int p1), .val (.int p2), .val (.int p3), .val (.int (1 : Int32)), .val (.int (0 : Int32)), .unset, .unset, .unset, .unset, .unset, .unset] [])
        refine own_st (fun t k => XS.iconst X0.here hx rfl (hb hby at_32) k) ?_
        show own_Go _ _ _ _ s₁ (mkF m 33 #[.val (.int p0), .val (.int p1), .val (.int p2), .val (.int p3), .val (.int (1 : Int32)), .val (.int (0 : Int32)), .unset, .unset, .unset, .unset, .unset, .unset] [(.int (1 : Int32))])
        refine own_st (fun t k => XS.goto X0.here hx rfl (pc0 := 33) (pc' := 37) rfl (hb hby at_33) (by decide) (by decide) k) ?_
        show own_Go _ _ _ _ s₁ (mkF m 37 #[.val (.int p0), .val (.int p1), .val (.int p2), .val (.int p3), .val (.int (1 : Int32)), .val (.int (0 : Int32)), .unset, .unset, .unset, .unset, .unset, .unset] [(.int (1 : Int32))])
        refine own_st (fun t k => XS.istore X0.here hx rfl (hb hby at_37) rfl (l' := #[.val (.int p0), .val (.int p1), .val (.int p2), .val (.int p3), .val (.int (1 : Int32)), .val (.int (0 : Int32)), .val (.int (1 : Int32)), .unset, .unset, .unset, .unset, .unset]) rfl k) ?_
        show own_Go _ _ _ _ s₁ (mkF m 39 #[.val (.int p0), .val (.int p1), .val (.int p2), .val (.int p3), .val (.int (1 : Int32)), .val (.int (0 : Int32)), .val (.int (1 : Int32)), .unset, .unset, .unset, .unset, .unset] [])
        refine own_st (fun t k => XS.iloadN X0.here hx rfl (hb hby at_39) rfl k) ?_
        show own_Go _ _ _ _ s₁ (mkF m 40 #[.val (.int p0), .val (.int p1), .val (.int p2), .val (.int p3), .val (.int (1 : Int32)), .val (.int (0 : Int32)), .val (.int (1 : Int32)), .unset, .unset, .unset, .unset, .unset] [(.int p1)])
        refine own_st (X0.ldcInt hx hown (mvT hZ (hw _ (List.mem_of_getElem? (i := 0) rfl))) (g := (mkF m 40 #[.val (.int p0), .val (.int p1), .val (.int p2), .val (.int p3), .val (.int (1 : Int32)), .val (.int (0 : Int32)), .val (.int (1 : Int32)), .unset, .unset, .unset, .unset, .unset] [(.int p1)])) rfl (hb hby at_40)) ?_
        show own_Go _ _ _ _ s₁ (mkF m 42 #[.val (.int p0), .val (.int p1), .val (.int p2), .val (.int p3), .val (.int (1 : Int32)), .val (.int (0 : Int32)), .val (.int (1 : Int32)), .unset, .unset, .unset, .unset, .unset] [(.int (2147483647 : Int32)), (.int p1)])
        refine own_st (fun t k => XS.iand X0.here hx rfl (hb hby at_42) rfl k) ?_
        show own_Go _ _ _ _ s₁ (mkF m 43 #[.val (.int p0), .val (.int p1), .val (.int p2), .val (.int p3), .val (.int (1 : Int32)), .val (.int (0 : Int32)), .val (.int (1 : Int32)), .unset, .unset, .unset, .unset, .unset] [(.int (p1 &&& (2147483647 : Int32)))])
        refine own_st (fun t k => XS.istore X0.here hx rfl (hb hby at_43) rfl (l' := #[.val (.int p0), .val (.int p1), .val (.int p2), .val (.int p3), .val (.int (1 : Int32)), .val (.int (0 : Int32)), .val (.int (1 : Int32)), .val (.int (p1 &&& (2147483647 : Int32))), .unset, .unset, .unset, .unset]) rfl k) ?_
        show own_Go _ _ _ _ s₁ (mkF m 45 #[.val (.int p0), .val (.int p1), .val (.int p2), .val (.int p3), .val (.int (1 : Int32)), .val (.int (0 : Int32)), .val (.int (1 : Int32)), .val (.int (p1 &&& (2147483647 : Int32))), .unset, .unset, .unset, .unset] [])
        refine own_st (fun t k => XS.iloadN X0.here hx rfl (hb hby at_45) rfl k) ?_
        show own_Go _ _ _ _ s₁ (mkF m 46 #[.val (.int p0), .val (.int p1), .val (.int p2), .val (.int p3), .val (.int (1 : Int32)), .val (.int (0 : Int32)), .val (.int (1 : Int32)), .val (.int (p1 &&& (2147483647 : Int32))), .unset, .unset, .unset, .unset] [(.int p2)])
        refine own_st (X0.ldcInt hx hown (mvT hZ (hw _ (List.mem_of_getElem? (i := 0) rfl))) (g := (mkF m 46 #[.val (.int p0), .val (.int p1), .val (.int p2), .val (.int p3), .val (.int (1 : Int32)), .val (.int (0 : Int32)), .val (.int (1 : Int32)), .val (.int (p1 &&& (2147483647 : Int32))), .unset, .unset, .unset, .unset] [(.int p2)])) rfl (hb hby at_46)) ?_
        show own_Go _ _ _ _ s₁ (mkF m 48 #[.val (.int p0), .val (.int p1), .val (.int p2), .val (.int p3), .val (.int (1 : Int32)), .val (.int (0 : Int32)), .val (.int (1 : Int32)), .val (.int (p1 &&& (2147483647 : Int32))), .unset, .unset, .unset, .unset] [(.int (2147483647 : Int32)), (.int p2)])
        refine own_st (fun t k => XS.iand X0.here hx rfl (hb hby at_48) rfl k) ?_
        show own_Go _ _ _ _ s₁ (mkF m 49 #[.val (.int p0), .val (.int p1), .val (.int p2), .val (.int p3), .val (.int (1 : Int32)), .val (.int (0 : Int32)), .val (.int (1 : Int32)), .val (.int (p1 &&& (2147483647 : Int32))), .unset, .unset, .unset, .unset] [(.int (p2 &&& (2147483647 : Int32)))])
        refine own_st (fun t k => XS.istore X0.here hx rfl (hb hby at_49) rfl (l' := #[.val (.int p0), .val (.int p1), .val (.int p2), .val (.int p3), .val (.int (1 : Int32)), .val (.int (0 : Int32)), .val (.int (1 : Int32)), .val (.int (p1 &&& (2147483647 : Int32))), .val (.int (p2 &&& (2147483647 : Int32))), .unset, .unset, .unset]) rfl k) ?_
        show own_Go _ _ _ _ s₁ (mkF m 51 #[.val (.int p0), .val (.int p1), .val (.int p2), .val (.int p3), .val (.int (1 : Int32)), .val (.int (0 : Int32)), .val (.int (1 : Int32)), .val (.int (p1 &&& (2147483647 : Int32))), .val (.int (p2 &&& (2147483647 : Int32))), .unset, .unset, .unset] [])
        refine own_st (fun t k => XS.iloadN X0.here hx rfl (hb hby at_51) rfl k) ?_
        show own_Go _ _ _ _ s₁ (mkF m 52 #[.val (.int p0), .val (.int p1), .val (.int p2), .val (.int p3), .val (.int (1 : Int32)), .val (.int (0 : Int32)), .val (.int (1 : Int32)), .val (.int (p1 &&& (2147483647 : Int32))), .val (.int (p2 &&& (2147483647 : Int32))), .unset, .unset, .unset] [(.int p3)])
        refine own_st (X0.ldcInt hx hown (mvT hZ (hw _ (List.mem_of_getElem? (i := 0) rfl))) (g := (mkF m 52 #[.val (.int p0), .val (.int p1), .val (.int p2), .val (.int p3), .val (.int (1 : Int32)), .val (.int (0 : Int32)), .val (.int (1 : Int32)), .val (.int (p1 &&& (2147483647 : Int32))), .val (.int (p2 &&& (2147483647 : Int32))), .unset, .unset, .unset] [(.int p3)])) rfl (hb hby at_52)) ?_
        show own_Go _ _ _ _ s₁ (mkF m 54 #[.val (.int p0), .val (.int p1), .val (.int p2), .val (.int p3), .val (.int (1 : Int32)), .val (.int (0 : Int32)), .val (.int (1 : Int32)), .val (.int (p1 &&& (2147483647 : Int32))), .val (.int (p2 &&& (2147483647 : Int32))), .unset, .unset, .unset] [(.int (2147483647 : Int32)), (.int p3)])
        refine own_st (fun t k => XS.iand X0.here hx rfl (hb hby at_54) rfl k) ?_
        show own_Go _ _ _ _ s₁ (mkF m 55 #[.val (.int p0), .val (.int p1), .val (.int p2), .val (.int p3), .val (.int (1 : Int32)), .val (.int (0 : Int32)), .val (.int (1 : Int32)), .val (.int (p1 &&& (2147483647 : Int32))), .val (.int (p2 &&& (2147483647 : Int32))), .unset, .unset, .unset] [(.int (p3 &&& (2147483647 : Int32)))])
        refine own_st (fun t k => XS.istore X0.here hx rfl (hb hby at_55) rfl (l' := #[.val (.int p0), .val (.int p1), .val (.int p2), .val (.int p3), .val (.int (1 : Int32)), .val (.int (0 : Int32)), .val (.int (1 : Int32)), .val (.int (p1 &&& (2147483647 : Int32))), .val (.int (p2 &&& (2147483647 : Int32))), .val (.int (p3 &&& (2147483647 : Int32))), .unset, .unset]) rfl k) ?_
        show own_Go _ _ _ _ s₁ (mkF m 57 #[.val (.int p0), .val (.int p1), .val (.int p2), .val (.int p3), .val (.int (1 : Int32)), .val (.int (0 : Int32)), .val (.int (1 : Int32)), .val (.int (p1 &&& (2147483647 : Int32))), .val (.int (p2 &&& (2147483647 : Int32))), .val (.int (p3 &&& (2147483647 : Int32))), .unset, .unset] [])
        obtain ⟨T75, h75, X75, e75, E75, A75, D75, -, st75⟩ := newO X0 hx hZ hown (hw _ (List.mem_of_getElem? (i := 1) rfl)) (hw _ (List.mem_of_getElem? (i := 2) rfl)) (hw _ (List.mem_of_getElem? (i := 3) rfl)) e0 (g := (mkF m 57 #[.val (.int p0), .val (.int p1), .val (.int p2), .val (.int p3), .val (.int (1 : Int32)), .val (.int (0 : Int32)), .val (.int (1 : Int32)), .val (.int (p1 &&& (2147483647 : Int32))), .val (.int (p2 &&& (2147483647 : Int32))), .val (.int (p3 &&& (2147483647 : Int32))), .unset, .unset] [])) rfl (hb hby at_57) (by decide) (by decide)
        obtain ⟨b75, g75⟩ : ∃ z, z = h0.size := ⟨_, rfl⟩
        rw [← g75] at A75 D75 st75
        have sz_b75 : h0.size ≤ b75 := Nat.le_trans K0.1 (Nat.le_of_eq g75.symm)
        have g_b75 : n0 ≤ b75 := Nat.le_trans Z0 sz_b75
        have F75_maxPoolSize : Fld Z h75 b75 "com/example/hot_pool/hotpool/config/PoolSettings" "maxPoolSize" "I" (.int (0 : Int32)) := D75 (Or.inl (hw _ (List.mem_of_getElem? (i := 11) rfl))) (ty := .int) (by decide)
        have F75_connectionWaitTimeout : Fld Z h75 b75 "com/example/hot_pool/hotpool/config/PoolSettings" "connectionWaitTimeout" "I" (.int (0 : Int32)) := D75 (Or.inl (hw _ (List.mem_of_getElem? (i := 13) rfl))) (ty := .int) (by decide)
        have F75_propertyCycle : Fld Z h75 b75 "com/example/hot_pool/hotpool/config/PoolSettings" "propertyCycle" "I" (.int (0 : Int32)) := D75 (Or.inl (hw _ (List.mem_of_getElem? (i := 15) rfl))) (ty := .int) (by decide)
        have F75_validateOnBorrow : Fld Z h75 b75 "com/example/hot_pool/hotpool/config/PoolSettings" "validateOnBorrow" "Z" (.int (0 : Int32)) := D75 (Or.inl (hw _ (List.mem_of_getElem? (i := 17) rfl))) (ty := .boolean) (by decide)
        have F75_validationTimeout : Fld Z h75 b75 "com/example/hot_pool/hotpool/config/PoolSettings" "validationTimeout" "I" (.int (0 : Int32)) := D75 (Or.inl (hw _ (List.mem_of_getElem? (i := 19) rfl))) (ty := .int) (by decide)
        have F75_validationTrustTime : Fld Z h75 b75 "com/example/hot_pool/hotpool/config/PoolSettings" "validationTrustTime" "I" (.int (0 : Int32)) := D75 (Or.inl (hw _ (List.mem_of_getElem? (i := 21) rfl))) (ty := .int) (by decide)
        have F75_flushAfterFailedValidations : Fld Z h75 b75 "com/example/hot_pool/hotpool/config/PoolSettings" "flushAfterFailedValidations" "I" (.int (0 : Int32)) := D75 (Or.inl (hw _ (List.mem_of_getElem? (i := 23) rfl))) (ty := .int) (by decide)
        have F75_autoCommit : Fld Z h75 b75 "com/example/hot_pool/hotpool/config/PoolSettings" "autoCommit" "Z" (.int (0 : Int32)) := D75 (Or.inl (hw _ (List.mem_of_getElem? (i := 25) rfl))) (ty := .boolean) (by decide)
        have F75_abandonedConnectionTimeout : Fld Z h75 b75 "com/example/hot_pool/hotpool/config/PoolSettings" "abandonedConnectionTimeout" "I" (.int (0 : Int32)) := D75 (Or.inl (hw _ (List.mem_of_getElem? (i := 32) rfl))) (ty := .int) (by decide)
        have F75_borrowTimeToLive : Fld Z h75 b75 "com/example/hot_pool/hotpool/config/PoolSettings" "borrowTimeToLive" "I" (.int (0 : Int32)) := D75 (Or.inl (hw _ (List.mem_of_getElem? (i := 34) rfl))) (ty := .int) (by decide)
        have F75_maxConnectionAge : Fld Z h75 b75 "com/example/hot_pool/hotpool/config/PoolSettings" "maxConnectionAge" "I" (.int (0 : Int32)) := D75 (Or.inl (hw _ (List.mem_of_getElem? (i := 53) rfl))) (ty := .int) (by decide)
        have F75_maxIdleTime : Fld Z h75 b75 "com/example/hot_pool/hotpool/config/PoolSettings" "maxIdleTime" "I" (.int (0 : Int32)) := D75 (Or.inl (hw _ (List.mem_of_getElem? (i := 61) rfl))) (ty := .int) (by decide)
        refine own_st st75 ?_
        show own_Go _ _ _ _ T75 (mkF m 60 #[.val (.int p0), .val (.int p1), .val (.int p2), .val (.int p3), .val (.int (1 : Int32)), .val (.int (0 : Int32)), .val (.int (1 : Int32)), .val (.int (p1 &&& (2147483647 : Int32))), .val (.int (p2 &&& (2147483647 : Int32))), .val (.int (p3 &&& (2147483647 : Int32))), .unset, .unset] [(.ref b75)])
        refine own_st (fun t k => XS.dup X75.here hx rfl (hb hby at_60) rfl rfl k) ?_
        show own_Go _ _ _ _ T75 (mkF m 61 #[.val (.int p0), .val (.int p1), .val (.int p2), .val (.int p3), .val (.int (1 : Int32)), .val (.int (0 : Int32)), .val (.int (1 : Int32)), .val (.int (p1 &&& (2147483647 : Int32))), .val (.int (p2 &&& (2147483647 : Int32))), .val (.int (p3 &&& (2147483647 : Int32))), .unset, .unset] [(.ref b75), (.ref b75)])
        have K0_77 := (K0.ext E75)
        obtain ⟨_, _, ⟨T76, L76, k76, n76⟩, -, X76, ⟨Lc76, hQ76, l76, y76, z76⟩, st76⟩ := X75.specialBack hx (y := (⟨"com/example/hot_pool/hotpool/config/PoolSettings", "<init>", "()V"⟩ : MethodName)) rfl hown (mvT hZ (hw _ (List.mem_of_getElem? (i := 4) rfl))) (mvT hZ (hw _ (List.mem_of_getElem? (i := 5) rfl))) (mvT hZ (hw _ (List.mem_of_getElem? (i := 6) rfl))) (by decide) (backOf (W := 1) (rm1 l Z a0 hw [] b75  h75 n0 (Nat.le_trans Z0 K0_77.1) A75 F75_maxPoolSize F75_connectionWaitTimeout F75_propertyCycle F75_validateOnBorrow F75_validationTimeout F75_validationTrustTime F75_flushAfterFailedValidations F75_autoCommit F75_abandonedConnectionTimeout F75_borrowTimeToLive F75_maxConnectionAge F75_maxIdleTime g_b75) hZ (hw _ (List.mem_of_getElem? (i := 6) rfl)) (hw _ (List.mem_of_getElem? (i := 3) rfl)) (by decide) (by decide)) (g := (mkF m 61 #[.val (.int p0), .val (.int p1), .val (.int p2), .val (.int p3), .val (.int (1 : Int32)), .val (.int (0 : Int32)), .val (.int (1 : Int32)), .val (.int (p1 &&& (2147483647 : Int32))), .val (.int (p2 &&& (2147483647 : Int32))), .val (.int (p3 &&& (2147483647 : Int32))), .unset, .unset] [(.ref b75), (.ref b75)])) rfl (by rw [hml]; rfl) (Steps.refl _) (a := b75) (argsL := []) (rest := [(.ref b75)]) (lenOf pd__28_29V rfl) rfl (by show 2 * 0 + _ ≤ _; exact Nat.le_of_eq rfl) (hb hby at_61) (fun _ _ => ⟨rfl, e75, (by decide : 1 + 0 ≤ _), (by decide : 23 + 0 ≤ _)⟩)
        dsimp only [Pt.U, Pt.locs, Pt.cells, Pt.slots] at X76 l76 y76 z76 st76 hQ76
        subst l76 y76 z76
        obtain ⟨rfl, N76q, K76, G76_0, G76_1, G76_2, G76_3, G76_4, G76_5, G76_6, G76_7, G76_8, G76_9, G76_10, G76_11⟩ := hQ76
        obtain ⟨_, X76, N76⟩ := own_hide X76 (Fr.app N0 N76q)
        refine own_tr st76 ?_
        show own_Go _ _ _ _ T76 (mkF m 64 #[.val (.int p0), .val (.int p1), .val (.int p2), .val (.int p3), .val (.int (1 : Int32)), .val (.int (0 : Int32)), .val (.int (1 : Int32)), .val (.int (p1 &&& (2147483647 : Int32))), .val (.int (p2 &&& (2147483647 : Int32))), .val (.int (p3 &&& (2147483647 : Int32))), .unset, .unset] [(.ref b75)])
        refine own_st (fun t k => XS.astore X76.here hx rfl (hb hby at_64) rfl rfl (l' := #[.val (.int p0), .val (.int p1), .val (.int p2), .val (.int p3), .val (.int (1 : Int32)), .val (.int (0 : Int32)), .val (.int (1 : Int32)), .val (.int (p1 &&& (2147483647 : Int32))), .val (.int (p2 &&& (2147483647 : Int32))), .val (.int (p3 &&& (2147483647 : Int32))), .val (.ref b75), .unset]) rfl k) ?_
        show own_Go _ _ _ _ T76 (mkF m 66 #[.val (.int p0), .val (.int p1), .val (.int p2), .val (.int p3), .val (.int (1 : Int32)), .val (.int (0 : Int32)), .val (.int (1 : Int32)), .val (.int (p1 &&& (2147483647 : Int32))), .val (.int (p2 &&& (2147483647 : Int32))), .val (.int (p3 &&& (2147483647 : Int32))), .val (.ref b75), .unset] [])
        refine own_st (fun t k => XS.iload X76.here hx rfl (hb hby at_66) rfl k) ?_
        show own_Go _ _ _ _ T76 (mkF m 68 #[.val (.int p0), .val (.int p1), .val (.int p2), .val (.int p3), .val (.int (1 : Int32)), .val (.int (0 : Int32)), .val (.int (1 : Int32)), .val (.int (p1 &&& (2147483647 : Int32))), .val (.int (p2 &&& (2147483647 : Int32))), .val (.int (p3 &&& (2147483647 : Int32))), .val (.ref b75), .unset] [(.int (1 : Int32))])
        refine own_st (fun t k => XS.ifNo X76.here hx rfl (hb hby at_68) rfl ((if0 _ _).trans (feq (by decide : ¬ ((1 : Int32) = (0 : Int32)))).1) k) ?_
        show own_Go _ _ _ _ T76 (mkF m 71 #[.val (.int p0), .val (.int p1), .val (.int p2), .val (.int p3), .val (.int (1 : Int32)), .val (.int (0 : Int32)), .val (.int (1 : Int32)), .val (.int (p1 &&& (2147483647 : Int32))), .val (.int (p2 &&& (2147483647 : Int32))), .val (.int (p3 &&& (2147483647 : Int32))), .val (.ref b75), .unset] [])
        refine own_st (fun t k => XS.aload X76.here hx rfl (hb hby at_71) rfl rfl k) ?_
        show own_Go _ _ _ _ T76 (mkF m 73 #[.val (.int p0), .val (.int p1), .val (.int p2), .val (.int p3), .val (.int (1 : Int32)), .val (.int (0 : Int32)), .val (.int (1 : Int32)), .val (.int (p1 &&& (2147483647 : Int32))), .val (.int (p2 &&& (2147483647 : Int32))), .val (.int (p3 &&& (2147483647 : Int32))), .val (.ref b75), .unset] [(.ref b75)])
        refine own_st (fun t k => XS.iload X76.here hx rfl (hb hby at_73) rfl k) ?_
        show own_Go _ _ _ _ T76 (mkF m 75 #[.val (.int p0), .val (.int p1), .val (.int p2), .val (.int p3), .val (.int (1 : Int32)), .val (.int (0 : Int32)), .val (.int (1 : Int32)), .val (.int (p1 &&& (2147483647 : Int32))), .val (.int (p2 &&& (2147483647 : Int32))), .val (.int (p3 &&& (2147483647 : Int32))), .val (.ref b75), .unset] [(.int (p3 &&& (2147483647 : Int32))), (.ref b75)])
        have A75_78 := (A75.keep K76)
        have K0_80 := (K0_77.trans K76 (allS ((Or.inr sz_b75)) all0))
        have hk0_81 := (Nat.le_trans (Nat.le_trans hk0 E75.1) K76.1)
        obtain ⟨cq79, kq79, q79a, q79b, q79c⟩ := isOf hZ rfl A75_78
        obtain ⟨_, _, ⟨T79, L79, k79, n79⟩, -, X79, hs79, hg79, ⟨Lc79, hQ79, l79, y79, z79⟩, st79⟩ := X76.virtualBackS hx (y := (⟨"com/example/hot_pool/hotpool/config/PoolSettings", "setMaxConnectionAge", "(I)V"⟩ : MethodName)) (z := (⟨"com/example/hot_pool/hotpool/config/PoolSettings", "setMaxConnectionAge", "(I)V"⟩ : MethodName)) hown (mvT hZ (hw _ (List.mem_of_getElem? (i := 35) rfl))) (mvT hZ (hw _ (List.mem_of_getElem? (i := 36) rfl))) (notFace_of_selects (args := #[]) (mvT hZ (hw _ (List.mem_of_getElem? (i := 38) rfl)))) (mvT hZ (hw _ (List.mem_of_getElem? (i := 38) rfl))) (mvT hZ (hw _ (List.mem_of_getElem? (i := 37) rfl))) (by decide) (backOfS (W := 0) (rm4 l Z a0 hw [] b75 (p3 &&& (2147483647 : Int32)) (0 : Int32) (0 : Int32) (0 : Int32) (0 : Int32)  T76.heap n0 (Nat.le_trans Z0 K0_80.1) A75_78 G76_10 G76_11 G76_8 G76_9 g_b75 (own_nn _)) hZ (hw _ (List.mem_of_getElem? (i := 39) rfl)) (hw _ (List.mem_of_getElem? (i := 3) rfl)) (by decide) (by decide)) q79a q79c (g := (mkF m 75 #[.val (.int p0), .val (.int p1), .val (.int p2), .val (.int p3), .val (.int (1 : Int32)), .val (.int (0 : Int32)), .val (.int (1 : Int32)), .val (.int (p1 &&& (2147483647 : Int32))), .val (.int (p2 &&& (2147483647 : Int32))), .val (.int (p3 &&& (2147483647 : Int32))), .val (.ref b75), .unset] [(.int (p3 &&& (2147483647 : Int32))), (.ref b75)])) rfl (by rw [hml]; rfl) (Steps.refl _) (argsL := [(.int (p3 &&& (2147483647 : Int32)))]) (rest := []) (lenOf pd__28I_29V rfl) rfl (by show 2 * 0 + _ ≤ _; exact Nat.le_of_eq rfl) (hb hby at_75) (fun _ _ => ⟨rfl, rfl, (by decide : 1 + 2 ≤ _), (by decide : 23 + 68 ≤ _)⟩)
        dsimp only [Pt.U, Pt.locs, Pt.cells, Pt.slots] at X79 l79 y79 z79 st79 hQ79 hs79 hg79
        subst l79 y79 z79
        obtain ⟨rfl, N79q, K79, G79_0, G79_1, G79_2, G79_3⟩ := hQ79
        obtain ⟨_, X79, N79⟩ := own_hide X79 (Fr.app N76 N79q)
        have X79 := own_fold X79
        have hS79 := foldS hS0 hk0_81 hs79 hg79
        have hZ79 : Z.Warmed39 (s.setVm T79.vm).vm := own_wz hZ hs79
        have hown79 : (s.setVm T79.vm).vm.findClass "com/example/hot_pool/hotpool/config/PoolSettingsIsReclaimingPinLaw" = some m.cls := own_wo hown hs79
        refine own_tr st79 ?_
        show own_Go _ _ _ _ T79 (mkF m 78 #[.val (.int p0), .val (.int p1), .val (.int p2), .val (.int p3), .val (.int (1 : Int32)), .val (.int (0 : Int32)), .val (.int (1 : Int32)), .val (.int (p1 &&& (2147483647 : Int32))), .val (.int (p2 &&& (2147483647 : Int32))), .val (.int (p3 &&& (2147483647 : Int32))), .val (.ref b75), .unset] [])
        refine own_st (fun t k => XS.aload X79.here hx rfl (hb hby at_78) rfl rfl k) ?_
        show own_Go _ _ _ _ T79 (mkF m 80 #[.val (.int p0), .val (.int p1), .val (.int p2), .val (.int p3), .val (.int (1 : Int32)), .val (.int (0 : Int32)), .val (.int (1 : Int32)), .val (.int (p1 &&& (2147483647 : Int32))), .val (.int (p2 &&& (2147483647 : Int32))), .val (.int (p3 &&& (2147483647 : Int32))), .val (.ref b75), .unset] [(.ref b75)])
        refine own_st (fun t k => XS.iload X79.here hx rfl (hb hby at_80) rfl k) ?_
        show own_Go _ _ _ _ T79 (mkF m 82 #[.val (.int p0), .val (.int p1), .val (.int p2), .val (.int p3), .val (.int (1 : Int32)), .val (.int (0 : Int32)), .val (.int (1 : Int32)), .val (.int (p1 &&& (2147483647 : Int32))), .val (.int (p2 &&& (2147483647 : Int32))), .val (.int (p3 &&& (2147483647 : Int32))), .val (.ref b75), .unset] [(.int (p3 &&& (2147483647 : Int32))), (.ref b75)])
        have A75_82 := (A75_78.keep K79)
        have K0_84 := (K0_80.trans K79 (allS ((Or.inr sz_b75)) all0))
        obtain ⟨cq83, kq83, q83a, q83b, q83c⟩ := isOf hZ79 rfl A75_82
        obtain ⟨_, _, ⟨T83, L83, k83, n83⟩, -, X83, hs83, hg83, ⟨Lc83, hQ83, l83, y83, z83⟩, st83⟩ := X79.virtualBackS hx (y := (⟨"com/example/hot_pool/hotpool/config/PoolSettings", "setMaxIdleTime", "(I)V"⟩ : MethodName)) (z := (⟨"com/example/hot_pool/hotpool/config/PoolSettings", "setMaxIdleTime", "(I)V"⟩ : MethodName)) hown79 (mvT hZ79 (hw _ (List.mem_of_getElem? (i := 54) rfl))) (mvT hZ79 (hw _ (List.mem_of_getElem? (i := 55) rfl))) (notFace_of_selects (args := #[]) (mvT hZ79 (hw _ (List.mem_of_getElem? (i := 57) rfl)))) (mvT hZ79 (hw _ (List.mem_of_getElem? (i := 57) rfl))) (mvT hZ79 (hw _ (List.mem_of_getElem? (i := 56) rfl))) (by decide) (backOfS (W := 0) (rm6 l Z a0 hw [] b75 (p3 &&& (2147483647 : Int32)) (p3 &&& (2147483647 : Int32)) (0 : Int32) (0 : Int32) (0 : Int32)  T79.heap n0 (Nat.le_trans Z0 K0_84.1) A75_82 G79_0 G79_1 G79_2 G79_3 g_b75 (own_nn _)) hZ79 (hw _ (List.mem_of_getElem? (i := 58) rfl)) (hw _ (List.mem_of_getElem? (i := 3) rfl)) (by decide) (by decide)) q83a q83c (g := (mkF m 82 #[.val (.int p0), .val (.int p1), .val (.int p2), .val (.int p3), .val (.int (1 : Int32)), .val (.int (0 : Int32)), .val (.int (1 : Int32)), .val (.int (p1 &&& (2147483647 : Int32))), .val (.int (p2 &&& (2147483647 : Int32))), .val (.int (p3 &&& (2147483647 : Int32))), .val (.ref b75), .unset] [(.int (p3 &&& (2147483647 : Int32))), (.ref b75)])) rfl (by rw [hml]; rfl) (Steps.refl _) (argsL := [(.int (p3 &&& (2147483647 : Int32)))]) (rest := []) (lenOf pd__28I_29V rfl) rfl (by show 2 * 0 + _ ≤ _; exact Nat.le_of_eq rfl) (hb hby at_82) (fun _ _ => ⟨rfl, rfl, (by decide : 3 + 2 ≤ _), (by decide : 91 + 48 ≤ _)⟩)
        dsimp only [Pt.U, Pt.locs, Pt.cells, Pt.slots] at X83 l83 y83 z83 st83 hQ83 hs83 hg83
        subst l83 y83 z83
        obtain ⟨rfl, N83q, K83, G83_0, G83_1, G83_2, G83_3⟩ := hQ83
        obtain ⟨_, X83, N83⟩ := own_hide X83 (Fr.app N79 N83q)
        have X83 := own_fold X83
        have hS83 := foldS hS79 (Nat.le_refl T79.heap.size) hs83 hg83
        have hZ83 : Z.Warmed39 (s.setVm T83.vm).vm := own_wz hZ79 hs83
        have hown83 : (s.setVm T83.vm).vm.findClass "com/example/hot_pool/hotpool/config/PoolSettingsIsReclaimingPinLaw" = some m.cls := own_wo hown79 hs83
        refine own_tr st83 ?_
        show own_Go _ _ _ _ T83 (mkF m 85 #[.val (.int p0), .val (.int p1), .val (.int p2), .val (.int p3), .val (.int (1 : Int32)), .val (.int (0 : Int32)), .val (.int (1 : Int32)), .val (.int (p1 &&& (2147483647 : Int32))), .val (.int (p2 &&& (2147483647 : Int32))), .val (.int (p3 &&& (2147483647 : Int32))), .val (.ref b75), .unset] [])
        refine own_st (fun t k => XS.iload X83.here hx rfl (hb hby at_85) rfl k) ?_
        show own_Go _ _ _ _ T83 (mkF m 87 #[.val (.int p0), .val (.int p1), .val (.int p2), .val (.int p3), .val (.int (1 : Int32)), .val (.int (0 : Int32)), .val (.int (1 : Int32)), .val (.int (p1 &&& (2147483647 : Int32))), .val (.int (p2 &&& (2147483647 : Int32))), .val (.int (p3 &&& (2147483647 : Int32))), .val (.ref b75), .unset] [(.int (1 : Int32))])
        refine own_st (fun t k => XS.ifNo X83.here hx rfl (hb hby at_87) rfl ((if0 _ _).trans (feq (by decide : ¬ ((1 : Int32) = (0 : Int32)))).1) k) ?_
        show own_Go _ _ _ _ T83 (mkF m 90 #[.val (.int p0), .val (.int p1), .val (.int p2), .val (.int p3), .val (.int (1 : Int32)), .val (.int (0 : Int32)), .val (.int (1 : Int32)), .val (.int (p1 &&& (2147483647 : Int32))), .val (.int (p2 &&& (2147483647 : Int32))), .val (.int (p3 &&& (2147483647 : Int32))), .val (.ref b75), .unset] [])
        refine own_st (fun t k => XS.aload X83.here hx rfl (hb hby at_90) rfl rfl k) ?_
        show own_Go _ _ _ _ T83 (mkF m 92 #[.val (.int p0), .val (.int p1), .val (.int p2), .val (.int p3), .val (.int (1 : Int32)), .val (.int (0 : Int32)), .val (.int (1 : Int32)), .val (.int (p1 &&& (2147483647 : Int32))), .val (.int (p2 &&& (2147483647 : Int32))), .val (.int (p3 &&& (2147483647 : Int32))), .val (.ref b75), .unset] [(.ref b75)])
        refine own_st (fun t k => XS.iload X83.here hx rfl (hb hby at_92) rfl k) ?_
        show own_Go _ _ _ _ T83 (mkF m 94 #[.val (.int p0), .val (.int p1), .val (.int p2), .val (.int p3), .val (.int (1 : Int32)), .val (.int (0 : Int32)), .val (.int (1 : Int32)), .val (.int (p1 &&& (2147483647 : Int32))), .val (.int (p2 &&& (2147483647 : Int32))), .val (.int (p3 &&& (2147483647 : Int32))), .val (.ref b75), .unset] [(.int (p1 &&& (2147483647 : Int32))), (.ref b75)])
        have A75_85 := (A75_82.keep K83)
        have K0_87 := (K0_84.trans K83 (allS ((Or.inr sz_b75)) all0))
        obtain ⟨cq86, kq86, q86a, q86b, q86c⟩ := isOf hZ83 rfl A75_85
        obtain ⟨_, _, ⟨T86, L86, k86, n86⟩, -, X86, hs86, hg86, ⟨Lc86, hQ86, l86, y86, z86⟩, st86⟩ := X83.virtualBackS hx (y := (⟨"com/example/hot_pool/hotpool/config/PoolSettings", "setAbandonedConnectionTimeout", "(I)V"⟩ : MethodName)) (z := (⟨"com/example/hot_pool/hotpool/config/PoolSettings", "setAbandonedConnectionTimeout", "(I)V"⟩ : MethodName)) hown83 (mvT hZ83 (hw _ (List.mem_of_getElem? (i := 62) rfl))) (mvT hZ83 (hw _ (List.mem_of_getElem? (i := 63) rfl))) (notFace_of_selects (args := #[]) (mvT hZ83 (hw _ (List.mem_of_getElem? (i := 65) rfl)))) (mvT hZ83 (hw _ (List.mem_of_getElem? (i := 65) rfl))) (mvT hZ83 (hw _ (List.mem_of_getElem? (i := 64) rfl))) (by decide) (backOfS (W := 0) (rm7 l Z a0 hw [] b75 (p1 &&& (2147483647 : Int32)) (p3 &&& (2147483647 : Int32)) (p3 &&& (2147483647 : Int32)) (0 : Int32) (0 : Int32)  T83.heap n0 (Nat.le_trans Z0 K0_87.1) A75_85 G83_0 G83_1 G83_2 G83_3 g_b75 (own_nn _)) hZ83 (hw _ (List.mem_of_getElem? (i := 66) rfl)) (hw _ (List.mem_of_getElem? (i := 3) rfl)) (by decide) (by decide)) q86a q86c (g := (mkF m 94 #[.val (.int p0), .val (.int p1), .val (.int p2), .val (.int p3), .val (.int (1 : Int32)), .val (.int (0 : Int32)), .val (.int (1 : Int32)), .val (.int (p1 &&& (2147483647 : Int32))), .val (.int (p2 &&& (2147483647 : Int32))), .val (.int (p3 &&& (2147483647 : Int32))), .val (.ref b75), .unset] [(.int (p1 &&& (2147483647 : Int32))), (.ref b75)])) rfl (by rw [hml]; rfl) (Steps.refl _) (argsL := [(.int (p1 &&& (2147483647 : Int32)))]) (rest := []) (lenOf pd__28I_29V rfl) rfl (by show 2 * 0 + _ ≤ _; exact Nat.le_of_eq rfl) (hb hby at_94) (fun _ _ => ⟨rfl, rfl, (by decide : 5 + 2 ≤ _), (by decide : 139 + 108 ≤ _)⟩)
        dsimp only [Pt.U, Pt.locs, Pt.cells, Pt.slots] at X86 l86 y86 z86 st86 hQ86 hs86 hg86
        subst l86 y86 z86
        obtain ⟨rfl, N86q, K86, G86_0, G86_1, G86_2, G86_3⟩ := hQ86
        obtain ⟨_, X86, N86⟩ := own_hide X86 (Fr.app N83 N86q)
        have X86 := own_fold X86
        have hS86 := foldS hS83 (Nat.le_refl T83.heap.size) hs86 hg86
        have hZ86 : Z.Warmed39 (s.setVm T86.vm).vm := own_wz hZ83 hs86
        have hown86 : (s.setVm T86.vm).vm.findClass "com/example/hot_pool/hotpool/config/PoolSettingsIsReclaimingPinLaw" = some m.cls := own_wo hown83 hs86
        refine own_tr st86 ?_
        show own_Go _ _ _ _ T86 (mkF m 97 #[.val (.int p0), .val (.int p1), .val (.int p2), .val (.int p3), .val (.int (1 : Int32)), .val (.int (0 : Int32)), .val (.int (1 : Int32)), .val (.int (p1 &&& (2147483647 : Int32))), .val (.int (p2 &&& (2147483647 : Int32))), .val (.int (p3 &&& (2147483647 : Int32))), .val (.ref b75), .unset] [])
        refine own_st (fun t k => XS.iload X86.here hx rfl (hb hby at_97) rfl k) ?_
        show own_Go _ _ _ _ T86 (mkF m 99 #[.val (.int p0), .val (.int p1), .val (.int p2), .val (.int p3), .val (.int (1 : Int32)), .val (.int (0 : Int32)), .val (.int (1 : Int32)), .val (.int (p1 &&& (2147483647 : Int32))), .val (.int (p2 &&& (2147483647 : Int32))), .val (.int (p3 &&& (2147483647 : Int32))), .val (.ref b75), .unset] [(.int (0 : Int32))])
        refine own_st (fun t k => XS.ifYes X86.here hx rfl (pc0 := 99) (pc' := 109) rfl (hb hby at_99) rfl ((if0 _ _).trans (teq (by decide : (0 : Int32) = (0 : Int32))).1) (by decide) (by decide) k) ?_
        show own_Go _ _ _ _ T86 (mkF m 109 #[.val (.int p0), .val (.int p1), .val (.int p2), .val (.int p3), .val (.int (1 : Int32)), .val (.int (0 : Int32)), .val (.int (1 : Int32)), .val (.int (p1 &&& (2147483647 : Int32))), .val (.int (p2 &&& (2147483647 : Int32))), .val (.int (p3 &&& (2147483647 : Int32))), .val (.ref b75), .unset] [])
        refine own_st (fun t k => XS.iconst X86.here hx rfl (hb hby at_109) k) ?_
        show own_Go _ _ _ _ T86 (mkF m 110 #[.val (.int p0), .val (.int p1), .val (.int p2), .val (.int p3), .val (.int (1 : Int32)), .val (.int (0 : Int32)), .val (.int (1 : Int32)), .val (.int (p1 &&& (2147483647 : Int32))), .val (.int (p2 &&& (2147483647 : Int32))), .val (.int (p3 &&& (2147483647 : Int32))), .val (.ref b75), .unset] [(.int (0 : Int32))])
        refine own_st (fun t k => XS.istore X86.here hx rfl (hb hby at_110) rfl (l' := #[.val (.int p0), .val (.int p1), .val (.int p2), .val (.int p3), .val (.int (1 : Int32)), .val (.int (0 : Int32)), .val (.int (1 : Int32)), .val (.int (p1 &&& (2147483647 : Int32))), .val (.int (p2 &&& (2147483647 : Int32))), .val (.int (p3 &&& (2147483647 : Int32))), .val (.ref b75), .val (.int (0 : Int32))]) rfl k) ?_
        show own_Go _ _ _ _ T86 (mkF m 112 #[.val (.int p0), .val (.int p1), .val (.int p2), .val (.int p3), .val (.int (1 : Int32)), .val (.int (0 : Int32)), .val (.int (1 : Int32)), .val (.int (p1 &&& (2147483647 : Int32))), .val (.int (p2 &&& (2147483647 : Int32))), .val (.int (p3 &&& (2147483647 : Int32))), .val (.ref b75), .val (.int (0 : Int32))] [])
        refine own_st (fun t k => XS.iload X86.here hx rfl (hb hby at_112) rfl k) ?_
        show own_Go _ _ _ _ T86 (mkF m 114 #[.val (.int p0), .val (.int p1), .val (.int p2), .val (.int p3), .val (.int (1 : Int32)), .val (.int (0 : Int32)), .val (.int (1 : Int32)), .val (.int (p1 &&& (2147483647 : Int32))), .val (.int (p2 &&& (2147483647 : Int32))), .val (.int (p3 &&& (2147483647 : Int32))), .val (.ref b75), .val (.int (0 : Int32))] [(.int (1 : Int32))])
        refine own_st (fun t k => XS.ifNo X86.here hx rfl (hb hby at_114) rfl ((if0 _ _).trans (feq (by decide : ¬ ((1 : Int32) = (0 : Int32)))).1) k) ?_
        show own_Go _ _ _ _ T86 (mkF m 117 #[.val (.int p0), .val (.int p1), .val (.int p2), .val (.int p3), .val (.int (1 : Int32)), .val (.int (0 : Int32)), .val (.int (1 : Int32)), .val (.int (p1 &&& (2147483647 : Int32))), .val (.int (p2 &&& (2147483647 : Int32))), .val (.int (p3 &&& (2147483647 : Int32))), .val (.ref b75), .val (.int (0 : Int32))] [])
        refine own_st (fun t k => XS.iload X86.here hx rfl (hb hby at_117) rfl k) ?_
        show own_Go _ _ _ _ T86 (mkF m 119 #[.val (.int p0), .val (.int p1), .val (.int p2), .val (.int p3), .val (.int (1 : Int32)), .val (.int (0 : Int32)), .val (.int (1 : Int32)), .val (.int (p1 &&& (2147483647 : Int32))), .val (.int (p2 &&& (2147483647 : Int32))), .val (.int (p3 &&& (2147483647 : Int32))), .val (.ref b75), .val (.int (0 : Int32))] [(.int (p1 &&& (2147483647 : Int32)))])
        by_cases c119_88 : (p1 &&& (2147483647 : Int32)) = (0 : Int32)
        ·
          refine own_st (fun t k => XS.ifYes X86.here hx rfl (pc0 := 119) (pc' := 125) rfl (hb hby at_119) rfl ((if0 _ _).trans (teq c119_88).1) (by decide) (by decide) k) ?_
          show own_Go _ _ _ _ T86 (mkF m 125 #[.val (.int p0), .val (.int p1), .val (.int p2), .val (.int p3), .val (.int (1 : Int32)), .val (.int (0 : Int32)), .val (.int (1 : Int32)), .val (.int (p1 &&& (2147483647 : Int32))), .val (.int (p2 &&& (2147483647 : Int32))), .val (.int (p3 &&& (2147483647 : Int32))), .val (.ref b75), .val (.int (0 : Int32))] [])
          refine own_st (fun t k => XS.iload X86.here hx rfl (hb hby at_125) rfl k) ?_
          show own_Go _ _ _ _ T86 (mkF m 127 #[.val (.int p0), .val (.int p1), .val (.int p2), .val (.int p3), .val (.int (1 : Int32)), .val (.int (0 : Int32)), .val (.int (1 : Int32)), .val (.int (p1 &&& (2147483647 : Int32))), .val (.int (p2 &&& (2147483647 : Int32))), .val (.int (p3 &&& (2147483647 : Int32))), .val (.ref b75), .val (.int (0 : Int32))] [(.int (0 : Int32))])
          refine own_st (fun t k => XS.ifYes X86.here hx rfl (pc0 := 127) (pc' := 138) rfl (hb hby at_127) rfl ((if0 _ _).trans (teq (by decide : (0 : Int32) = (0 : Int32))).1) (by decide) (by decide) k) ?_
          show own_Go _ _ _ _ T86 (mkF m 138 #[.val (.int p0), .val (.int p1), .val (.int p2), .val (.int p3), .val (.int (1 : Int32)), .val (.int (0 : Int32)), .val (.int (1 : Int32)), .val (.int (p1 &&& (2147483647 : Int32))), .val (.int (p2 &&& (2147483647 : Int32))), .val (.int (p3 &&& (2147483647 : Int32))), .val (.ref b75), .val (.int (0 : Int32))] [])
          refine own_st (fun t k => XS.aload X86.here hx rfl (hb hby at_138) rfl rfl k) ?_
          show own_Go _ _ _ _ T86 (mkF m 140 #[.val (.int p0), .val (.int p1), .val (.int p2), .val (.int p3), .val (.int (1 : Int32)), .val (.int (0 : Int32)), .val (.int (1 : Int32)), .val (.int (p1 &&& (2147483647 : Int32))), .val (.int (p2 &&& (2147483647 : Int32))), .val (.int (p3 &&& (2147483647 : Int32))), .val (.ref b75), .val (.int (0 : Int32))] [(.ref b75)])
          have K0_90 := (K0_87.trans K86 (allS ((Or.inr sz_b75)) all0))
          have A75_91 := (A75_85.keep K86)
          obtain ⟨cq89, kq89, q89a, q89b, q89c⟩ := isOf hZ86 rfl A75_91
          obtain ⟨_, _, ⟨T89, L89, k89, n89⟩, -, X89, ⟨Lc89, hQ89, l89, y89, z89⟩, st89⟩ := X86.virtualBack hx (y := (⟨"com/example/hot_pool/hotpool/config/PoolSettings", "isReclaiming", "()Z"⟩ : MethodName)) (z := (⟨"com/example/hot_pool/hotpool/config/PoolSettings", "isReclaiming", "()Z"⟩ : MethodName)) hown86 (mvT hZ86 (hw _ (List.mem_of_getElem? (i := 26) rfl))) (mvT hZ86 (hw _ (List.mem_of_getElem? (i := 27) rfl))) (notFace_of_selects (args := #[]) (mvT hZ86 (hw _ (List.mem_of_getElem? (i := 29) rfl)))) (mvT hZ86 (hw _ (List.mem_of_getElem? (i := 29) rfl))) (mvT hZ86 (hw _ (List.mem_of_getElem? (i := 28) rfl))) (by decide) (backOf (W := 0) (rm3 l Z a0 hw [] b75 (p1 &&& (2147483647 : Int32)) (0 : Int32)  T86.heap n0 (Nat.le_trans Z0 K0_90.1) G86_2 G86_3) hZ86 (hw _ (List.mem_of_getElem? (i := 30) rfl)) (hw _ (List.mem_of_getElem? (i := 3) rfl)) (by decide) (by decide)) q89a q89c (g := (mkF m 140 #[.val (.int p0), .val (.int p1), .val (.int p2), .val (.int p3), .val (.int (1 : Int32)), .val (.int (0 : Int32)), .val (.int (1 : Int32)), .val (.int (p1 &&& (2147483647 : Int32))), .val (.int (p2 &&& (2147483647 : Int32))), .val (.int (p3 &&& (2147483647 : Int32))), .val (.ref b75), .val (.int (0 : Int32))] [(.ref b75)])) rfl (by rw [hml]; rfl) (Steps.refl _) (argsL := []) (rest := []) (lenOf pd__28_29Z rfl) rfl (by show 2 * 0 + _ ≤ _; exact Nat.le_of_eq rfl) (hb hby at_140) (fun _ _ => ⟨rfl, rfl, (by decide : 7 + 0 ≤ _), (by decide : 247 + 0 ≤ _)⟩)
          dsimp only [Pt.U, Pt.locs, Pt.cells, Pt.slots] at X89 l89 y89 z89 st89 hQ89
          subst l89 y89 z89
          obtain ⟨rfl, N89q, e89⟩ := hQ89
          obtain ⟨_, X89, N89⟩ := own_hide X89 (Fr.app N86 N89q)
          refine own_tr st89 ?_
          show own_Go _ _ _ _ T89 (mkF m 143 #[.val (.int p0), .val (.int p1), .val (.int p2), .val (.int p3), .val (.int (1 : Int32)), .val (.int (0 : Int32)), .val (.int (1 : Int32)), .val (.int (p1 &&& (2147483647 : Int32))), .val (.int (p2 &&& (2147483647 : Int32))), .val (.int (p3 &&& (2147483647 : Int32))), .val (.ref b75), .val (.int (0 : Int32))] [(.int (own_r (p1 &&& (2147483647 : Int32)) (0 : Int32)))])
          refine own_st (fun t k => XS.iload X89.here hx rfl (hb hby at_143) rfl k) ?_
          show own_Go _ _ _ _ T89 (mkF m 145 #[.val (.int p0), .val (.int p1), .val (.int p2), .val (.int p3), .val (.int (1 : Int32)), .val (.int (0 : Int32)), .val (.int (1 : Int32)), .val (.int (p1 &&& (2147483647 : Int32))), .val (.int (p2 &&& (2147483647 : Int32))), .val (.int (p3 &&& (2147483647 : Int32))), .val (.ref b75), .val (.int (0 : Int32))] [(.int (0 : Int32)), (.int (own_r (p1 &&& (2147483647 : Int32)) (0 : Int32)))])
          refine own_st (fun t k => XS.icmpNo X89.here hx rfl (hb hby at_145) rfl (teq (own_r_0 (own_mz c119_88) (by decide) : (own_r (p1 &&& (2147483647 : Int32)) (0 : Int32)) = (0 : Int32))).2 k) ?_
          show own_Go _ _ _ _ T89 (mkF m 148 #[.val (.int p0), .val (.int p1), .val (.int p2), .val (.int p3), .val (.int (1 : Int32)), .val (.int (0 : Int32)), .val (.int (1 : Int32)), .val (.int (p1 &&& (2147483647 : Int32))), .val (.int (p2 &&& (2147483647 : Int32))), .val (.int (p3 &&& (2147483647 : Int32))), .val (.ref b75), .val (.int (0 : Int32))] [])
          refine own_st (fun t k => XS.iconst X89.here hx rfl (hb hby at_148) k) ?_
          show own_Go _ _ _ _ T89 (mkF m 149 #[.val (.int p0), .val (.int p1), .val (.int p2), .val (.int p3), .val (.int (1 : Int32)), .val (.int (0 : Int32)), .val (.int (1 : Int32)), .val (.int (p1 &&& (2147483647 : Int32))), .val (.int (p2 &&& (2147483647 : Int32))), .val (.int (p3 &&& (2147483647 : Int32))), .val (.ref b75), .val (.int (0 : Int32))] [(.int (1 : Int32))])
          refine own_st (fun t k => XS.goto X89.here hx rfl (pc0 := 149) (pc' := 153) rfl (hb hby at_149) (by decide) (by decide) k) ?_
          show own_Go _ _ _ _ T89 (mkF m 153 #[.val (.int p0), .val (.int p1), .val (.int p2), .val (.int p3), .val (.int (1 : Int32)), .val (.int (0 : Int32)), .val (.int (1 : Int32)), .val (.int (p1 &&& (2147483647 : Int32))), .val (.int (p2 &&& (2147483647 : Int32))), .val (.int (p3 &&& (2147483647 : Int32))), .val (.ref b75), .val (.int (0 : Int32))] [(.int (1 : Int32))])
          exact own_retNW X89 hS86 (by rw [e89]; exact (Nat.le_refl T86.heap.size)) hx hlk (t := .boolean) hrt (by simp) (hb hby at_153) ⟨rfl, N89⟩ (by decide) (by decide)
        ·
          refine own_st (fun t k => XS.ifNo X86.here hx rfl (hb hby at_119) rfl ((if0 _ _).trans (feq c119_88).1) k) ?_
          show own_Go _ _ _ _ T86 (mkF m 122 #[.val (.int p0), .val (.int p1), .val (.int p2), .val (.int p3), .val (.int (1 : Int32)), .val (.int (0 : Int32)), .val (.int (1 : Int32)), .val (.int (p1 &&& (2147483647 : Int32))), .val (.int (p2 &&& (2147483647 : Int32))), .val (.int (p3 &&& (2147483647 : Int32))), .val (.ref b75), .val (.int (0 : Int32))] [])
          refine own_st (fun t k => XS.iconst X86.here hx rfl (hb hby at_122) k) ?_
          show own_Go _ _ _ _ T86 (mkF m 123 #[.val (.int p0), .val (.int p1), .val (.int p2), .val (.int p3), .val (.int (1 : Int32)), .val (.int (0 : Int32)), .val (.int (1 : Int32)), .val (.int (p1 &&& (2147483647 : Int32))), .val (.int (p2 &&& (2147483647 : Int32))), .val (.int (p3 &&& (2147483647 : Int32))), .val (.ref b75), .val (.int (0 : Int32))] [(.int (1 : Int32))])
          refine own_st (fun t k => XS.istore X86.here hx rfl (hb hby at_123) rfl (l' := #[.val (.int p0), .val (.int p1), .val (.int p2), .val (.int p3), .val (.int (1 : Int32)), .val (.int (0 : Int32)), .val (.int (1 : Int32)), .val (.int (p1 &&& (2147483647 : Int32))), .val (.int (p2 &&& (2147483647 : Int32))), .val (.int (p3 &&& (2147483647 : Int32))), .val (.ref b75), .val (.int (1 : Int32))]) rfl k) ?_
          show own_Go _ _ _ _ T86 (mkF m 125 #[.val (.int p0), .val (.int p1), .val (.int p2), .val (.int p3), .val (.int (1 : Int32)), .val (.int (0 : Int32)), .val (.int (1 : Int32)), .val (.int (p1 &&& (2147483647 : Int32))), .val (.int (p2 &&& (2147483647 : Int32))), .val (.int (p3 &&& (2147483647 : Int32))), .val (.ref b75), .val (.int (1 : Int32))] [])
          refine own_st (fun t k => XS.iload X86.here hx rfl (hb hby at_125) rfl k) ?_
          show own_Go _ _ _ _ T86 (mkF m 127 #[.val (.int p0), .val (.int p1), .val (.int p2), .val (.int p3), .val (.int (1 : Int32)), .val (.int (0 : Int32)), .val (.int (1 : Int32)), .val (.int (p1 &&& (2147483647 : Int32))), .val (.int (p2 &&& (2147483647 : Int32))), .val (.int (p3 &&& (2147483647 : Int32))), .val (.ref b75), .val (.int (1 : Int32))] [(.int (0 : Int32))])
          refine own_st (fun t k => XS.ifYes X86.here hx rfl (pc0 := 127) (pc' := 138) rfl (hb hby at_127) rfl ((if0 _ _).trans (teq (by decide : (0 : Int32) = (0 : Int32))).1) (by decide) (by decide) k) ?_
          show own_Go _ _ _ _ T86 (mkF m 138 #[.val (.int p0), .val (.int p1), .val (.int p2), .val (.int p3), .val (.int (1 : Int32)), .val (.int (0 : Int32)), .val (.int (1 : Int32)), .val (.int (p1 &&& (2147483647 : Int32))), .val (.int (p2 &&& (2147483647 : Int32))), .val (.int (p3 &&& (2147483647 : Int32))), .val (.ref b75), .val (.int (1 : Int32))] [])
          refine own_st (fun t k => XS.aload X86.here hx rfl (hb hby at_138) rfl rfl k) ?_
          show own_Go _ _ _ _ T86 (mkF m 140 #[.val (.int p0), .val (.int p1), .val (.int p2), .val (.int p3), .val (.int (1 : Int32)), .val (.int (0 : Int32)), .val (.int (1 : Int32)), .val (.int (p1 &&& (2147483647 : Int32))), .val (.int (p2 &&& (2147483647 : Int32))), .val (.int (p3 &&& (2147483647 : Int32))), .val (.ref b75), .val (.int (1 : Int32))] [(.ref b75)])
          have K0_93 := (K0_87.trans K86 (allS ((Or.inr sz_b75)) all0))
          have A75_94 := (A75_85.keep K86)
          obtain ⟨cq92, kq92, q92a, q92b, q92c⟩ := isOf hZ86 rfl A75_94
          obtain ⟨_, _, ⟨T92, L92, k92, n92⟩, -, X92, ⟨Lc92, hQ92, l92, y92, z92⟩, st92⟩ := X86.virtualBack hx (y := (⟨"com/example/hot_pool/hotpool/config/PoolSettings", "isReclaiming", "()Z"⟩ : MethodName)) (z := (⟨"com/example/hot_pool/hotpool/config/PoolSettings", "isReclaiming", "()Z"⟩ : MethodName)) hown86 (mvT hZ86 (hw _ (List.mem_of_getElem? (i := 26) rfl))) (mvT hZ86 (hw _ (List.mem_of_getElem? (i := 27) rfl))) (notFace_of_selects (args := #[]) (mvT hZ86 (hw _ (List.mem_of_getElem? (i := 29) rfl)))) (mvT hZ86 (hw _ (List.mem_of_getElem? (i := 29) rfl))) (mvT hZ86 (hw _ (List.mem_of_getElem? (i := 28) rfl))) (by decide) (backOf (W := 0) (rm3 l Z a0 hw [] b75 (p1 &&& (2147483647 : Int32)) (0 : Int32)  T86.heap n0 (Nat.le_trans Z0 K0_93.1) G86_2 G86_3) hZ86 (hw _ (List.mem_of_getElem? (i := 30) rfl)) (hw _ (List.mem_of_getElem? (i := 3) rfl)) (by decide) (by decide)) q92a q92c (g := (mkF m 140 #[.val (.int p0), .val (.int p1), .val (.int p2), .val (.int p3), .val (.int (1 : Int32)), .val (.int (0 : Int32)), .val (.int (1 : Int32)), .val (.int (p1 &&& (2147483647 : Int32))), .val (.int (p2 &&& (2147483647 : Int32))), .val (.int (p3 &&& (2147483647 : Int32))), .val (.ref b75), .val (.int (1 : Int32))] [(.ref b75)])) rfl (by rw [hml]; rfl) (Steps.refl _) (argsL := []) (rest := []) (lenOf pd__28_29Z rfl) rfl (by show 2 * 0 + _ ≤ _; exact Nat.le_of_eq rfl) (hb hby at_140) (fun _ _ => ⟨rfl, rfl, (by decide : 7 + 0 ≤ _), (by decide : 247 + 0 ≤ _)⟩)
          dsimp only [Pt.U, Pt.locs, Pt.cells, Pt.slots] at X92 l92 y92 z92 st92 hQ92
          subst l92 y92 z92
          obtain ⟨rfl, N92q, e92⟩ := hQ92
          obtain ⟨_, X92, N92⟩ := own_hide X92 (Fr.app N86 N92q)
          refine own_tr st92 ?_
          show own_Go _ _ _ _ T92 (mkF m 143 #[.val (.int p0), .val (.int p1), .val (.int p2), .val (.int p3), .val (.int (1 : Int32)), .val (.int (0 : Int32)), .val (.int (1 : Int32)), .val (.int (p1 &&& (2147483647 : Int32))), .val (.int (p2 &&& (2147483647 : Int32))), .val (.int (p3 &&& (2147483647 : Int32))), .val (.ref b75), .val (.int (1 : Int32))] [(.int (own_r (p1 &&& (2147483647 : Int32)) (0 : Int32)))])
          refine own_st (fun t k => XS.iload X92.here hx rfl (hb hby at_143) rfl k) ?_
          show own_Go _ _ _ _ T92 (mkF m 145 #[.val (.int p0), .val (.int p1), .val (.int p2), .val (.int p3), .val (.int (1 : Int32)), .val (.int (0 : Int32)), .val (.int (1 : Int32)), .val (.int (p1 &&& (2147483647 : Int32))), .val (.int (p2 &&& (2147483647 : Int32))), .val (.int (p3 &&& (2147483647 : Int32))), .val (.ref b75), .val (.int (1 : Int32))] [(.int (1 : Int32)), (.int (own_r (p1 &&& (2147483647 : Int32)) (0 : Int32)))])
          refine own_st (fun t k => XS.icmpNo X92.here hx rfl (hb hby at_145) rfl (teq (own_r_a (own_mp c119_88) : (own_r (p1 &&& (2147483647 : Int32)) (0 : Int32)) = (1 : Int32))).2 k) ?_
          show own_Go _ _ _ _ T92 (mkF m 148 #[.val (.int p0), .val (.int p1), .val (.int p2), .val (.int p3), .val (.int (1 : Int32)), .val (.int (0 : Int32)), .val (.int (1 : Int32)), .val (.int (p1 &&& (2147483647 : Int32))), .val (.int (p2 &&& (2147483647 : Int32))), .val (.int (p3 &&& (2147483647 : Int32))), .val (.ref b75), .val (.int (1 : Int32))] [])
          refine own_st (fun t k => XS.iconst X92.here hx rfl (hb hby at_148) k) ?_
          show own_Go _ _ _ _ T92 (mkF m 149 #[.val (.int p0), .val (.int p1), .val (.int p2), .val (.int p3), .val (.int (1 : Int32)), .val (.int (0 : Int32)), .val (.int (1 : Int32)), .val (.int (p1 &&& (2147483647 : Int32))), .val (.int (p2 &&& (2147483647 : Int32))), .val (.int (p3 &&& (2147483647 : Int32))), .val (.ref b75), .val (.int (1 : Int32))] [(.int (1 : Int32))])
          refine own_st (fun t k => XS.goto X92.here hx rfl (pc0 := 149) (pc' := 153) rfl (hb hby at_149) (by decide) (by decide) k) ?_
          show own_Go _ _ _ _ T92 (mkF m 153 #[.val (.int p0), .val (.int p1), .val (.int p2), .val (.int p3), .val (.int (1 : Int32)), .val (.int (0 : Int32)), .val (.int (1 : Int32)), .val (.int (p1 &&& (2147483647 : Int32))), .val (.int (p2 &&& (2147483647 : Int32))), .val (.int (p3 &&& (2147483647 : Int32))), .val (.ref b75), .val (.int (1 : Int32))] [(.int (1 : Int32))])
          exact own_retNW X92 hS86 (by rw [e92]; exact (Nat.le_refl T86.heap.size)) hx hlk (t := .boolean) hrt (by simp) (hb hby at_153) ⟨rfl, N92⟩ (by decide) (by decide)
    ·
      refine own_st (fun t k => XS.ifNo X0.here hx rfl (hb hby at_16) rfl ((if0 _ _).trans (feq c16_59).1) k) ?_
      show own_Go _ _ _ _ s₁ (mkF m 19 #[.val (.int p0), .val (.int p1), .val (.int p2), .val (.int p3), .val (.int (1 : Int32)), .unset, .unset, .unset, .unset, .unset, .unset, .unset] [])
      refine own_st (fun t k => XS.iconst X0.here hx rfl (hb hby at_19) k) ?_
      show own_Go _ _ _ _ s₁ (mkF m 20 #[.val (.int p0), .val (.int p1), .val (.int p2), .val (.int p3), .val (.int (1 : Int32)), .unset, .unset, .unset, .unset, .unset, .unset, .unset] [(.int (1 : Int32))])
      refine own_st (fun t k => XS.goto X0.here hx rfl (pc0 := 20) (pc' := 24) rfl (hb hby at_20) (by decide) (by decide) k) ?_
      show own_Go _ _ _ _ s₁ (mkF m 24 #[.val (.int p0), .val (.int p1), .val (.int p2), .val (.int p3), .val (.int (1 : Int32)), .unset, .unset, .unset, .unset, .unset, .unset, .unset] [(.int (1 : Int32))])
      refine own_st (fun t k => XS.istore X0.here hx rfl (hb hby at_24) rfl (l' := #[.val (.int p0), .val (.int p1), .val (.int p2), .val (.int p3), .val (.int (1 : Int32)), .val (.int (1 : Int32)), .unset, .unset, .unset, .unset, .unset, .unset]) rfl k) ?_
      show own_Go _ _ _ _ s₁ (mkF m 26 #[.val (.int p0), .val (.int p1), .val (.int p2), .val (.int p3), .val (.int (1 : Int32)), .val (.int (1 : Int32)), .unset, .unset, .unset, .unset, .unset, .unset] [])
      refine own_st (fun t k => XS.iloadN X0.here hx rfl (hb hby at_26) rfl k) ?_
      show own_Go _ _ _ _ s₁ (mkF m 27 #[.val (.int p0), .val (.int p1), .val (.int p2), .val (.int p3), .val (.int (1 : Int32)), .val (.int (1 : Int32)), .unset, .unset, .unset, .unset, .unset, .unset] [(.int p0)])
      refine own_st (fun t k => XS.iconst X0.here hx rfl (hb hby at_27) k) ?_
      show own_Go _ _ _ _ s₁ (mkF m 28 #[.val (.int p0), .val (.int p1), .val (.int p2), .val (.int p3), .val (.int (1 : Int32)), .val (.int (1 : Int32)), .unset, .unset, .unset, .unset, .unset, .unset] [(.int (4 : Int32)), (.int p0)])
      refine own_st (fun t k => XS.iand X0.here hx rfl (hb hby at_28) rfl k) ?_
      show own_Go _ _ _ _ s₁ (mkF m 29 #[.val (.int p0), .val (.int p1), .val (.int p2), .val (.int p3), .val (.int (1 : Int32)), .val (.int (1 : Int32)), .unset, .unset, .unset, .unset, .unset, .unset] [(.int (p0 &&& (4 : Int32)))])
      by_cases c29_95 : (p0 &&& (4 : Int32)) = (0 : Int32)
      ·
        refine own_st (fun t k => XS.ifYes X0.here hx rfl (pc0 := 29) (pc' := 36) rfl (hb hby at_29) rfl ((if0 _ _).trans (teq c29_95).1) (by decide) (by decide) k) ?_
        show own_Go _ _ _ _ s₁ (mkF m 36 #[.val (.int p0), .val (.int p1), .val (.int p2), .val (.int p3), .val (.int (1 : Int32)), .val (.int (1 : Int32)), .unset, .unset, .unset, .unset, .unset, .unset] [])
        refine own_st (fun t k => XS.iconst X0.here hx rfl (hb hby at_36) k) ?_
        show own_Go _ _ _ _ s₁ (mkF m 37 #[.val (.int p0), .val (.int p1), .val (.int p2), .val (.int p3), .val (.int (1 : Int32)), .val (.int (1 : Int32)), .unset, .unset, .unset, .unset, .unset, .unset] [(.int (0 : Int32))])
        refine own_st (fun t k => XS.istore X0.here hx rfl (hb hby at_37) rfl (l' := #[.val (.int p0), .val (.int p1), .val (.int p2), .val (.int p3), .val (.int (1 : Int32)), .val (.int (1 : Int32)), .val (.int (0 : Int32)), .unset, .unset, .unset, .unset, .unset]) rfl k) ?_
        show own_Go _ _ _ _ s₁ (mkF m 39 #[.val (.int p0), .val (.int p1), .val (.int p2), .val (.int p3), .val (.int (1 : Int32)), .val (.int (1 : Int32)), .val (.int (0 : Int32)), .unset, .unset, .unset, .unset, .unset] [])
        refine own_st (fun t k => XS.iloadN X0.here hx rfl (hb hby at_39) rfl k) ?_
        show own_Go _ _ _ _ s₁ (mkF m 40 #[.val (.int p0), .val (.int p1), .val (.int p2), .val (.int p3), .val (.int (1 : Int32)), .val (.int (1 : Int32)), .val (.int (0 : Int32)), .unset, .unset, .unset, .unset, .unset] [(.int p1)])
        refine own_st (X0.ldcInt hx hown (mvT hZ (hw _ (List.mem_of_getElem? (i := 0) rfl))) (g := (mkF m 40 #[.val (.int p0), .val (.int p1), .val (.int p2), .val (.int p3), .val (.int (1 : Int32)), .val (.int (1 : Int32)), .val (.int (0 : Int32)), .unset, .unset, .unset, .unset, .unset] [(.int p1)])) rfl (hb hby at_40)) ?_
        show own_Go _ _ _ _ s₁ (mkF m 42 #[.val (.int p0), .val (.int p1), .val (.int p2), .val (.int p3), .val (.int (1 : Int32)), .val (.int (1 : Int32)), .val (.int (0 : Int32)), .unset, .unset, .unset, .unset, .unset] [(.int (2147483647 : Int32)), (.int p1)])
        refine own_st (fun t k => XS.iand X0.here hx rfl (hb hby at_42) rfl k) ?_
        show own_Go _ _ _ _ s₁ (mkF m 43 #[.val (.int p0), .val (.int p1), .val (.int p2), .val (.int p3), .val (.int (1 : Int32)), .val (.int (1 : Int32)), .val (.int (0 : Int32)), .unset, .unset, .unset, .unset, .unset] [(.int (p1 &&& (2147483647 : Int32)))])
        refine own_st (fun t k => XS.istore X0.here hx rfl (hb hby at_43) rfl (l' := #[.val (.int p0), .val (.int p1), .val (.int p2), .val (.int p3), .val (.int (1 : Int32)), .val (.int (1 : Int32)), .val (.int (0 : Int32)), .val (.int (p1 &&& (2147483647 : Int32))), .unset, .unset, .unset, .unset]) rfl k) ?_
        show own_Go _ _ _ _ s₁ (mkF m 45 #[.val (.int p0), .val (.int p1), .val (.int p2), .val (.int p3), .val (.int (1 : Int32)), .val (.int (1 : Int32)), .val (.int (0 : Int32)), .val (.int (p1 &&& (2147483647 : Int32))), .unset, .unset, .unset, .unset] [])
        refine own_st (fun t k => XS.iloadN X0.here hx rfl (hb hby at_45) rfl k) ?_
        show own_Go _ _ _ _ s₁ (mkF m 46 #[.val (.int p0), .val (.int p1), .val (.int p2), .val (.int p3), .val (.int (1 : Int32)), .val (.int (1 : Int32)), .val (.int (0 : Int32)), .val (.int (p1 &&& (2147483647 : Int32))), .unset, .unset, .unset, .unset] [(.int p2)])
        refine own_st (X0.ldcInt hx hown (mvT hZ (hw _ (List.mem_of_getElem? (i := 0) rfl))) (g := (mkF m 46 #[.val (.int p0), .val (.int p1), .val (.int p2), .val (.int p3), .val (.int (1 : Int32)), .val (.int (1 : Int32)), .val (.int (0 : Int32)), .val (.int (p1 &&& (2147483647 : Int32))), .unset, .unset, .unset, .unset] [(.int p2)])) rfl (hb hby at_46)) ?_
        show own_Go _ _ _ _ s₁ (mkF m 48 #[.val (.int p0), .val (.int p1), .val (.int p2), .val (.int p3), .val (.int (1 : Int32)), .val (.int (1 : Int32)), .val (.int (0 : Int32)), .val (.int (p1 &&& (2147483647 : Int32))), .unset, .unset, .unset, .unset] [(.int (2147483647 : Int32)), (.int p2)])
        refine own_st (fun t k => XS.iand X0.here hx rfl (hb hby at_48) rfl k) ?_
        show own_Go _ _ _ _ s₁ (mkF m 49 #[.val (.int p0), .val (.int p1), .val (.int p2), .val (.int p3), .val (.int (1 : Int32)), .val (.int (1 : Int32)), .val (.int (0 : Int32)), .val (.int (p1 &&& (2147483647 : Int32))), .unset, .unset, .unset, .unset] [(.int (p2 &&& (2147483647 : Int32)))])
        refine own_st (fun t k => XS.istore X0.here hx rfl (hb hby at_49) rfl (l' := #[.val (.int p0), .val (.int p1), .val (.int p2), .val (.int p3), .val (.int (1 : Int32)), .val (.int (1 : Int32)), .val (.int (0 : Int32)), .val (.int (p1 &&& (2147483647 : Int32))), .val (.int (p2 &&& (2147483647 : Int32))), .unset, .unset, .unset]) rfl k) ?_
        show own_Go _ _ _ _ s₁ (mkF m 51 #[.val (.int p0), .val (.int p1), .val (.int p2), .val (.int p3), .val (.int (1 : Int32)), .val (.int (1 : Int32)), .val (.int (0 : Int32)), .val (.int (p1 &&& (2147483647 : Int32))), .val (.int (p2 &&& (2147483647 : Int32))), .unset, .unset, .unset] [])
        refine own_st (fun t k => XS.iloadN X0.here hx rfl (hb hby at_51) rfl k) ?_
        show own_Go _ _ _ _ s₁ (mkF m 52 #[.val (.int p0), .val (.int p1), .val (.int p2), .val (.int p3), .val (.int (1 : Int32)), .val (.int (1 : Int32)), .val (.int (0 : Int32)), .val (.int (p1 &&& (2147483647 : Int32))), .val (.int (p2 &&& (2147483647 : Int32))), .unset, .unset, .unset] [(.int p3)])
        refine own_st (X0.ldcInt hx hown (mvT hZ (hw _ (List.mem_of_getElem? (i := 0) rfl))) (g := (mkF m 52 #[.val (.int p0), .val (.int p1), .val (.int p2), .val (.int p3), .val (.int (1 : Int32)), .val (.int (1 : Int32)), .val (.int (0 : Int32)), .val (.int (p1 &&& (2147483647 : Int32))), .val (.int (p2 &&& (2147483647 : Int32))), .unset, .unset, .unset] [(.int p3)])) rfl (hb hby at_52)) ?_
        show own_Go _ _ _ _ s₁ (mkF m 54 #[.val (.int p0), .val (.int p1), .val (.int p2), .val (.int p3), .val (.int (1 : Int32)), .val (.int (1 : Int32)), .val (.int (0 : Int32)), .val (.int (p1 &&& (2147483647 : Int32))), .val (.int (p2 &&& (2147483647 : Int32))), .unset, .unset, .unset] [(.int (2147483647 : Int32)), (.int p3)])
        refine own_st (fun t k => XS.iand X0.here hx rfl (hb hby at_54) rfl k) ?_
        show own_Go _ _ _ _ s₁ (mkF m 55 #[.val (.int p0), .val (.int p1), .val (.int p2), .val (.int p3), .val (.int (1 : Int32)), .val (.int (1 : Int32)), .val (.int (0 : Int32)), .val (.int (p1 &&& (2147483647 : Int32))), .val (.int (p2 &&& (2147483647 : Int32))), .unset, .unset, .unset] [(.int (p3 &&& (2147483647 : Int32)))])
        refine own_st (fun t k => XS.istore X0.here hx rfl (hb hby at_55) rfl (l' := #[.val (.int p0), .val (.int p1), .val (.int p2), .val (.int p3), .val (.int (1 : Int32)), .val (.int (1 : Int32)), .val (.int (0 : Int32)), .val (.int (p1 &&& (2147483647 : Int32))), .val (.int (p2 &&& (2147483647 : Int32))), .val (.int (p3 &&& (2147483647 : Int32))), .unset, .unset]) rfl k) ?_
        show own_Go _ _ _ _ s₁ (mkF m 57 #[.val (.int p0), .val (.int p1), .val (.int p2), .val (.int p3), .val (.int (1 : Int32)), .val (.int (1 : Int32)), .val (.int (0 : Int32)), .val (.int (p1 &&& (2147483647 : Int32))), .val (.int (p2 &&& (2147483647 : Int32))), .val (.int (p3 &&& (2147483647 : Int32))), .unset, .unset] [])
        obtain ⟨T96, h96, X96, e96, E96, A96, D96, -, st96⟩ := newO X0 hx hZ hown (hw _ (List.mem_of_getElem? (i := 1) rfl)) (hw _ (List.mem_of_getElem? (i := 2) rfl)) (hw _ (List.mem_of_getElem? (i := 3) rfl)) e0 (g := (mkF m 57 #[.val (.int p0), .val (.int p1), .val (.int p2), .val (.int p3), .val (.int (1 : Int32)), .val (.int (1 : Int32)), .val (.int (0 : Int32)), .val (.int (p1 &&& (2147483647 : Int32))), .val (.int (p2 &&& (2147483647 : Int32))), .val (.int (p3 &&& (2147483647 : Int32))), .unset, .unset] [])) rfl (hb hby at_57) (by decide) (by decide)
        obtain ⟨b96, g96⟩ : ∃ z, z = h0.size := ⟨_, rfl⟩
        rw [← g96] at A96 D96 st96
        have sz_b96 : h0.size ≤ b96 := Nat.le_trans K0.1 (Nat.le_of_eq g96.symm)
        have g_b96 : n0 ≤ b96 := Nat.le_trans Z0 sz_b96
        have F96_maxPoolSize : Fld Z h96 b96 "com/example/hot_pool/hotpool/config/PoolSettings" "maxPoolSize" "I" (.int (0 : Int32)) := D96 (Or.inl (hw _ (List.mem_of_getElem? (i := 11) rfl))) (ty := .int) (by decide)
        have F96_connectionWaitTimeout : Fld Z h96 b96 "com/example/hot_pool/hotpool/config/PoolSettings" "connectionWaitTimeout" "I" (.int (0 : Int32)) := D96 (Or.inl (hw _ (List.mem_of_getElem? (i := 13) rfl))) (ty := .int) (by decide)
        have F96_propertyCycle : Fld Z h96 b96 "com/example/hot_pool/hotpool/config/PoolSettings" "propertyCycle" "I" (.int (0 : Int32)) := D96 (Or.inl (hw _ (List.mem_of_getElem? (i := 15) rfl))) (ty := .int) (by decide)
        have F96_validateOnBorrow : Fld Z h96 b96 "com/example/hot_pool/hotpool/config/PoolSettings" "validateOnBorrow" "Z" (.int (0 : Int32)) := D96 (Or.inl (hw _ (List.mem_of_getElem? (i := 17) rfl))) (ty := .boolean) (by decide)
        have F96_validationTimeout : Fld Z h96 b96 "com/example/hot_pool/hotpool/config/PoolSettings" "validationTimeout" "I" (.int (0 : Int32)) := D96 (Or.inl (hw _ (List.mem_of_getElem? (i := 19) rfl))) (ty := .int) (by decide)
        have F96_validationTrustTime : Fld Z h96 b96 "com/example/hot_pool/hotpool/config/PoolSettings" "validationTrustTime" "I" (.int (0 : Int32)) := D96 (Or.inl (hw _ (List.mem_of_getElem? (i := 21) rfl))) (ty := .int) (by decide)
        have F96_flushAfterFailedValidations : Fld Z h96 b96 "com/example/hot_pool/hotpool/config/PoolSettings" "flushAfterFailedValidations" "I" (.int (0 : Int32)) := D96 (Or.inl (hw _ (List.mem_of_getElem? (i := 23) rfl))) (ty := .int) (by decide)
        have F96_autoCommit : Fld Z h96 b96 "com/example/hot_pool/hotpool/config/PoolSettings" "autoCommit" "Z" (.int (0 : Int32)) := D96 (Or.inl (hw _ (List.mem_of_getElem? (i := 25) rfl))) (ty := .boolean) (by decide)
        have F96_abandonedConnectionTimeout : Fld Z h96 b96 "com/example/hot_pool/hotpool/config/PoolSettings" "abandonedConnectionTimeout" "I" (.int (0 : Int32)) := D96 (Or.inl (hw _ (List.mem_of_getElem? (i := 32) rfl))) (ty := .int) (by decide)
        have F96_borrowTimeToLive : Fld Z h96 b96 "com/example/hot_pool/hotpool/config/PoolSettings" "borrowTimeToLive" "I" (.int (0 : Int32)) := D96 (Or.inl (hw _ (List.mem_of_getElem? (i := 34) rfl))) (ty := .int) (by decide)
        have F96_maxConnectionAge : Fld Z h96 b96 "com/example/hot_pool/hotpool/config/PoolSettings" "maxConnectionAge" "I" (.int (0 : Int32)) := D96 (Or.inl (hw _ (List.mem_of_getElem? (i := 53) rfl))) (ty := .int) (by decide)
        have F96_maxIdleTime : Fld Z h96 b96 "com/example/hot_pool/hotpool/config/PoolSettings" "maxIdleTime" "I" (.int (0 : Int32)) := D96 (Or.inl (hw _ (List.mem_of_getElem? (i := 61) rfl))) (ty := .int) (by decide)
        refine own_st st96 ?_
        show own_Go _ _ _ _ T96 (mkF m 60 #[.val (.int p0), .val (.int p1), .val (.int p2), .val (.int p3), .val (.int (1 : Int32)), .val (.int (1 : Int32)), .val (.int (0 : Int32)), .val (.int (p1 &&& (2147483647 : Int32))), .val (.int (p2 &&& (2147483647 : Int32))), .val (.int (p3 &&& (2147483647 : Int32))), .unset, .unset] [(.ref b96)])
        refine own_st (fun t k => XS.dup X96.here hx rfl (hb hby at_60) rfl rfl k) ?_
        show own_Go _ _ _ _ T96 (mkF m 61 #[.val (.int p0), .val (.int p1), .val (.int p2), .val (.int p3), .val (.int (1 : Int32)), .val (.int (1 : Int32)), .val (.int (0 : Int32)), .val (.int (p1 &&& (2147483647 : Int32))), .val (.int (p2 &&& (2147483647 : Int32))), .val (.int (p3 &&& (2147483647 : Int32))), .unset, .unset] [(.ref b96), (.ref b96)])
        have K0_98 := (K0.ext E96)
        obtain ⟨_, _, ⟨T97, L97, k97, n97⟩, -, X97, ⟨Lc97, hQ97, l97, y97, z97⟩, st97⟩ := X96.specialBack hx (y := (⟨"com/example/hot_pool/hotpool/config/PoolSettings", "<init>", "()V"⟩ : MethodName)) rfl hown (mvT hZ (hw _ (List.mem_of_getElem? (i := 4) rfl))) (mvT hZ (hw _ (List.mem_of_getElem? (i := 5) rfl))) (mvT hZ (hw _ (List.mem_of_getElem? (i := 6) rfl))) (by decide) (backOf (W := 1) (rm1 l Z a0 hw [] b96  h96 n0 (Nat.le_trans Z0 K0_98.1) A96 F96_maxPoolSize F96_connectionWaitTimeout F96_propertyCycle F96_validateOnBorrow F96_validationTimeout F96_validationTrustTime F96_flushAfterFailedValidations F96_autoCommit F96_abandonedConnectionTimeout F96_borrowTimeToLive F96_maxConnectionAge F96_maxIdleTime g_b96) hZ (hw _ (List.mem_of_getElem? (i := 6) rfl)) (hw _ (List.mem_of_getElem? (i := 3) rfl)) (by decide) (by decide)) (g := (mkF m 61 #[.val (.int p0), .val (.int p1), .val (.int p2), .val (.int p3), .val (.int (1 : Int32)), .val (.int (1 : Int32)), .val (.int (0 : Int32)), .val (.int (p1 &&& (2147483647 : Int32))), .val (.int (p2 &&& (2147483647 : Int32))), .val (.int (p3 &&& (2147483647 : Int32))), .unset, .unset] [(.ref b96), (.ref b96)])) rfl (by rw [hml]; rfl) (Steps.refl _) (a := b96) (argsL := []) (rest := [(.ref b96)]) (lenOf pd__28_29V rfl) rfl (by show 2 * 0 + _ ≤ _; exact Nat.le_of_eq rfl) (hb hby at_61) (fun _ _ => ⟨rfl, e96, (by decide : 1 + 0 ≤ _), (by decide : 23 + 0 ≤ _)⟩)
        dsimp only [Pt.U, Pt.locs, Pt.cells, Pt.slots] at X97 l97 y97 z97 st97 hQ97
        subst l97 y97 z97
        obtain ⟨rfl, N97q, K97, G97_0, G97_1, G97_2, G97_3, G97_4, G97_5, G97_6, G97_7, G97_8, G97_9, G97_10, G97_11⟩ := hQ97
        obtain ⟨_, X97, N97⟩ := own_hide X97 (Fr.app N0 N97q)
        refine own_tr st97 ?_
        show own_Go _ _ _ _ T97 (mkF m 64 #[.val (.int p0), .val (.int p1), .val (.int p2), .val (.int p3), .val (.int (1 : Int32)), .val (.int (1 : Int32)), .val (.int (0 : Int32)), .val (.int (p1 &&& (2147483647 : Int32))), .val (.int (p2 &&& (2147483647 : Int32))), .val (.int (p3 &&& (2147483647 : Int32))), .unset, .unset] [(.ref b96)])
        refine own_st (fun t k => XS.astore X97.here hx rfl (hb hby at_64) rfl rfl (l' := #[.val (.int p0), .val (.int p1), .val (.int p2), .val (.int p3), .val (.int (1 : Int32)), .val (.int (1 : Int32)), .val (.int (0 : Int32)), .val (.int (p1 &&& (2147483647 : Int32))), .val (.int (p2 &&& (2147483647 : Int32))), .val (.int (p3 &&& (2147483647 : Int32))), .val (.ref b96), .unset]) rfl k) ?_
        show own_Go _ _ _ _ T97 (mkF m 66 #[.val (.int p0), .val (.int p1), .val (.int p2), .val (.int p3), .val (.int (1 : Int32)), .val (.int (1 : Int32)), .val (.int (0 : Int32)), .val (.int (p1 &&& (2147483647 : Int32))), .val (.int (p2 &&& (2147483647 : Int32))), .val (.int (p3 &&& (2147483647 : Int32))), .val (.ref b96), .unset] [])
        refine own_st (fun t k => XS.iload X97.here hx rfl (hb hby at_66) rfl k) ?_
        show own_Go _ _ _ _ T97 (mkF m 68 #[.val (.int p0), .val (.int p1), .val (.int p2), .val (.int p3), .val (.int (1 : Int32)), .val (.int (1 : Int32)), .val (.int (0 : Int32)), .val (.int (p1 &&& (2147483647 : Int32))), .val (.int (p2 &&& (2147483647 : Int32))), .val (.int (p3 &&& (2147483647 : Int32))), .val (.ref b96), .unset] [(.int (0 : Int32))])
        refine own_st (fun t k => XS.ifYes X97.here hx rfl (pc0 := 68) (pc' := 85) rfl (hb hby at_68) rfl ((if0 _ _).trans (teq (by decide : (0 : Int32) = (0 : Int32))).1) (by decide) (by decide) k) ?_
        show own_Go _ _ _ _ T97 (mkF m 85 #[.val (.int p0), .val (.int p1), .val (.int p2), .val (.int p3), .val (.int (1 : Int32)), .val (.int (1 : Int32)), .val (.int (0 : Int32)), .val (.int (p1 &&& (2147483647 : Int32))), .val (.int (p2 &&& (2147483647 : Int32))), .val (.int (p3 &&& (2147483647 : Int32))), .val (.ref b96), .unset] [])
        refine own_st (fun t k => XS.iload X97.here hx rfl (hb hby at_85) rfl k) ?_
        show own_Go _ _ _ _ T97 (mkF m 87 #[.val (.int p0), .val (.int p1), .val (.int p2), .val (.int p3), .val (.int (1 : Int32)), .val (.int (1 : Int32)), .val (.int (0 : Int32)), .val (.int (p1 &&& (2147483647 : Int32))), .val (.int (p2 &&& (2147483647 : Int32))), .val (.int (p3 &&& (2147483647 : Int32))), .val (.ref b96), .unset] [(.int (1 : Int32))])
        refine own_st (fun t k => XS.ifNo X97.here hx rfl (hb hby at_87) rfl ((if0 _ _).trans (feq (by decide : ¬ ((1 : Int32) = (0 : Int32)))).1) k) ?_
        show own_Go _ _ _ _ T97 (mkF m 90 #[.val (.int p0), .val (.int p1), .val (.int p2), .val (.int p3), .val (.int (1 : Int32)), .val (.int (1 : Int32)), .val (.int (0 : Int32)), .val (.int (p1 &&& (2147483647 : Int32))), .val (.int (p2 &&& (2147483647 : Int32))), .val (.int (p3 &&& (2147483647 : Int32))), .val (.ref b96), .unset] [])
        refine own_st (fun t k => XS.aload X97.here hx rfl (hb hby at_90) rfl rfl k) ?_
        show own_Go _ _ _ _ T97 (mkF m 92 #[.val (.int p0), .val (.int p1), .val (.int p2), .val (.int p3), .val (.int (1 : Int32)), .val (.int (1 : Int32)), .val (.int (0 : Int32)), .val (.int (p1 &&& (2147483647 : Int32))), .val (.int (p2 &&& (2147483647 : Int32))), .val (.int (p3 &&& (2147483647 : Int32))), .val (.ref b96), .unset] [(.ref b96)])
        refine own_st (fun t k => XS.iload X97.here hx rfl (hb hby at_92) rfl k) ?_
        show own_Go _ _ _ _ T97 (mkF m 94 #[.val (.int p0), .val (.int p1), .val (.int p2), .val (.int p3), .val (.int (1 : Int32)), .val (.int (1 : Int32)), .val (.int (0 : Int32)), .val (.int (p1 &&& (2147483647 : Int32))), .val (.int (p2 &&& (2147483647 : Int32))), .val (.int (p3 &&& (2147483647 : Int32))), .val (.ref b96), .unset] [(.int (p1 &&& (2147483647 : Int32))), (.ref b96)])
        have A96_99 := (A96.keep K97)
        have K0_101 := (K0_98.trans K97 (allS ((Or.inr sz_b96)) all0))
        have hk0_102 := (Nat.le_trans (Nat.le_trans hk0 E96.1) K97.1)
        obtain ⟨cq100, kq100, q100a, q100b, q100c⟩ := isOf hZ rfl A96_99
        obtain ⟨_, _, ⟨T100, L100, k100, n100⟩, -, X100, hs100, hg100, ⟨Lc100, hQ100, l100, y100, z100⟩, st100⟩ := X97.virtualBackS hx (y := (⟨"com/example/hot_pool/hotpool/config/PoolSettings", "setAbandonedConnectionTimeout", "(I)V"⟩ : MethodName)) (z := (⟨"com/example/hot_pool/hotpool/config/PoolSettings", "setAbandonedConnectionTimeout", "(I)V"⟩ : MethodName)) hown (mvT hZ (hw _ (List.mem_of_getElem? (i := 62) rfl))) (mvT hZ (hw _ (List.mem_of_getElem? (i := 63) rfl))) (notFace_of_selects (args := #[]) (mvT hZ (hw _ (List.mem_of_getElem? (i := 65) rfl)))) (mvT hZ (hw _ (List.mem_of_getElem? (i := 65) rfl))) (mvT hZ (hw _ (List.mem_of_getElem? (i := 64) rfl))) (by decide) (backOfS (W := 0) (rm7 l Z a0 hw [] b96 (p1 &&& (2147483647 : Int32)) (0 : Int32) (0 : Int32) (0 : Int32) (0 : Int32)  T97.heap n0 (Nat.le_trans Z0 K0_101.1) A96_99 G97_10 G97_11 G97_8 G97_9 g_b96 (own_nn _)) hZ (hw _ (List.mem_of_getElem? (i := 66) rfl)) (hw _ (List.mem_of_getElem? (i := 3) rfl)) (by decide) (by decide)) q100a q100c (g := (mkF m 94 #[.val (.int p0), .val (.int p1), .val (.int p2), .val (.int p3), .val (.int (1 : Int32)), .val (.int (1 : Int32)), .val (.int (0 : Int32)), .val (.int (p1 &&& (2147483647 : Int32))), .val (.int (p2 &&& (2147483647 : Int32))), .val (.int (p3 &&& (2147483647 : Int32))), .val (.ref b96), .unset] [(.int (p1 &&& (2147483647 : Int32))), (.ref b96)])) rfl (by rw [hml]; rfl) (Steps.refl _) (argsL := [(.int (p1 &&& (2147483647 : Int32)))]) (rest := []) (lenOf pd__28I_29V rfl) rfl (by show 2 * 0 + _ ≤ _; exact Nat.le_of_eq rfl) (hb hby at_94) (fun _ _ => ⟨rfl, rfl, (by decide : 1 + 2 ≤ _), (by decide : 23 + 108 ≤ _)⟩)
        dsimp only [Pt.U, Pt.locs, Pt.cells, Pt.slots] at X100 l100 y100 z100 st100 hQ100 hs100 hg100
        subst l100 y100 z100
        obtain ⟨rfl, N100q, K100, G100_0, G100_1, G100_2, G100_3⟩ := hQ100
        obtain ⟨_, X100, N100⟩ := own_hide X100 (Fr.app N97 N100q)
        have X100 := own_fold X100
        have hS100 := foldS hS0 hk0_102 hs100 hg100
        have hZ100 : Z.Warmed39 (s.setVm T100.vm).vm := own_wz hZ hs100
        have hown100 : (s.setVm T100.vm).vm.findClass "com/example/hot_pool/hotpool/config/PoolSettingsIsReclaimingPinLaw" = some m.cls := own_wo hown hs100
        refine own_tr st100 ?_
        show own_Go _ _ _ _ T100 (mkF m 97 #[.val (.int p0), .val (.int p1), .val (.int p2), .val (.int p3), .val (.int (1 : Int32)), .val (.int (1 : Int32)), .val (.int (0 : Int32)), .val (.int (p1 &&& (2147483647 : Int32))), .val (.int (p2 &&& (2147483647 : Int32))), .val (.int (p3 &&& (2147483647 : Int32))), .val (.ref b96), .unset] [])
        refine own_st (fun t k => XS.iload X100.here hx rfl (hb hby at_97) rfl k) ?_
        show own_Go _ _ _ _ T100 (mkF m 99 #[.val (.int p0), .val (.int p1), .val (.int p2), .val (.int p3), .val (.int (1 : Int32)), .val (.int (1 : Int32)), .val (.int (0 : Int32)), .val (.int (p1 &&& (2147483647 : Int32))), .val (.int (p2 &&& (2147483647 : Int32))), .val (.int (p3 &&& (2147483647 : Int32))), .val (.ref b96), .unset] [(.int (1 : Int32))])
        refine own_st (fun t k => XS.ifNo X100.here hx rfl (hb hby at_99) rfl ((if0 _ _).trans (feq (by decide : ¬ ((1 : Int32) = (0 : Int32)))).1) k) ?_
        show own_Go _ _ _ _ T100 (mkF m 102 #[.val (.int p0), .val (.int p1), .val (.int p2), .val (.int p3), .val (.int (1 : Int32)), .val (.int (1 : Int32)), .val (.int (0 : Int32)), .val (.int (p1 &&& (2147483647 : Int32))), .val (.int (p2 &&& (2147483647 : Int32))), .val (.int (p3 &&& (2147483647 : Int32))), .val (.ref b96), .unset] [])
        refine own_st (fun t k => XS.aload X100.here hx rfl (hb hby at_102) rfl rfl k) ?_
        show own_Go _ _ _ _ T100 (mkF m 104 #[.val (.int p0), .val (.int p1), .val (.int p2), .val (.int p3), .val (.int (1 : Int32)), .val (.int (1 : Int32)), .val (.int (0 : Int32)), .val (.int (p1 &&& (2147483647 : Int32))), .val (.int (p2 &&& (2147483647 : Int32))), .val (.int (p3 &&& (2147483647 : Int32))), .val (.ref b96), .unset] [(.ref b96)])
        refine own_st (fun t k => XS.iload X100.here hx rfl (hb hby at_104) rfl k) ?_
        show own_Go _ _ _ _ T100 (mkF m 106 #[.val (.int p0), .val (.int p1), .val (.int p2), .val (.int p3), .val (.int (1 : Int32)), .val (.int (1 : Int32)), .val (.int (0 : Int32)), .val (.int (p1 &&& (2147483647 : Int32))), .val (.int (p2 &&& (2147483647 : Int32))), .val (.int (p3 &&& (2147483647 : Int32))), .val (.ref b96), .unset] [(.int (p2 &&& (2147483647 : Int32))), (.ref b96)])
        have A96_103 := (A96_99.keep K100)
        have K0_105 := (K0_101.trans K100 (allS ((Or.inr sz_b96)) all0))
        obtain ⟨cq104, kq104, q104a, q104b, q104c⟩ := isOf hZ100 rfl A96_103
        obtain ⟨_, _, ⟨T104, L104, k104, n104⟩, -, X104, hs104, hg104, ⟨Lc104, hQ104, l104, y104, z104⟩, st104⟩ := X100.virtualBackS hx (y := (⟨"com/example/hot_pool/hotpool/config/PoolSettings", "setBorrowTimeToLive", "(I)V"⟩ : MethodName)) (z := (⟨"com/example/hot_pool/hotpool/config/PoolSettings", "setBorrowTimeToLive", "(I)V"⟩ : MethodName)) hown100 (mvT hZ100 (hw _ (List.mem_of_getElem? (i := 68) rfl))) (mvT hZ100 (hw _ (List.mem_of_getElem? (i := 69) rfl))) (notFace_of_selects (args := #[]) (mvT hZ100 (hw _ (List.mem_of_getElem? (i := 71) rfl)))) (mvT hZ100 (hw _ (List.mem_of_getElem? (i := 71) rfl))) (mvT hZ100 (hw _ (List.mem_of_getElem? (i := 70) rfl))) (by decide) (backOfS (W := 0) (rm8 l Z a0 hw [] b96 (p2 &&& (2147483647 : Int32)) (0 : Int32) (0 : Int32) (p1 &&& (2147483647 : Int32)) (0 : Int32)  T100.heap n0 (Nat.le_trans Z0 K0_105.1) A96_103 G100_0 G100_1 G100_2 G100_3 g_b96 (own_nn _)) hZ100 (hw _ (List.mem_of_getElem? (i := 72) rfl)) (hw _ (List.mem_of_getElem? (i := 3) rfl)) (by decide) (by decide)) q104a q104c (g := (mkF m 106 #[.val (.int p0), .val (.int p1), .val (.int p2), .val (.int p3), .val (.int (1 : Int32)), .val (.int (1 : Int32)), .val (.int (0 : Int32)), .val (.int (p1 &&& (2147483647 : Int32))), .val (.int (p2 &&& (2147483647 : Int32))), .val (.int (p3 &&& (2147483647 : Int32))), .val (.ref b96), .unset] [(.int (p2 &&& (2147483647 : Int32))), (.ref b96)])) rfl (by rw [hml]; rfl) (Steps.refl _) (argsL := [(.int (p2 &&& (2147483647 : Int32)))]) (rest := []) (lenOf pd__28I_29V rfl) rfl (by show 2 * 0 + _ ≤ _; exact Nat.le_of_eq rfl) (hb hby at_106) (fun _ _ => ⟨rfl, rfl, (by decide : 3 + 2 ≤ _), (by decide : 131 + 68 ≤ _)⟩)
        dsimp only [Pt.U, Pt.locs, Pt.cells, Pt.slots] at X104 l104 y104 z104 st104 hQ104 hs104 hg104
        subst l104 y104 z104
        obtain ⟨rfl, N104q, K104, G104_0, G104_1, G104_2, G104_3⟩ := hQ104
        obtain ⟨_, X104, N104⟩ := own_hide X104 (Fr.app N100 N104q)
        have X104 := own_fold X104
        have hS104 := foldS hS100 (Nat.le_refl T100.heap.size) hs104 hg104
        have hZ104 : Z.Warmed39 (s.setVm T104.vm).vm := own_wz hZ100 hs104
        have hown104 : (s.setVm T104.vm).vm.findClass "com/example/hot_pool/hotpool/config/PoolSettingsIsReclaimingPinLaw" = some m.cls := own_wo hown100 hs104
        refine own_tr st104 ?_
        show own_Go _ _ _ _ T104 (mkF m 109 #[.val (.int p0), .val (.int p1), .val (.int p2), .val (.int p3), .val (.int (1 : Int32)), .val (.int (1 : Int32)), .val (.int (0 : Int32)), .val (.int (p1 &&& (2147483647 : Int32))), .val (.int (p2 &&& (2147483647 : Int32))), .val (.int (p3 &&& (2147483647 : Int32))), .val (.ref b96), .unset] [])
        refine own_st (fun t k => XS.iconst X104.here hx rfl (hb hby at_109) k) ?_
        show own_Go _ _ _ _ T104 (mkF m 110 #[.val (.int p0), .val (.int p1), .val (.int p2), .val (.int p3), .val (.int (1 : Int32)), .val (.int (1 : Int32)), .val (.int (0 : Int32)), .val (.int (p1 &&& (2147483647 : Int32))), .val (.int (p2 &&& (2147483647 : Int32))), .val (.int (p3 &&& (2147483647 : Int32))), .val (.ref b96), .unset] [(.int (0 : Int32))])
        refine own_st (fun t k => XS.istore X104.here hx rfl (hb hby at_110) rfl (l' := #[.val (.int p0), .val (.int p1), .val (.int p2), .val (.int p3), .val (.int (1 : Int32)), .val (.int (1 : Int32)), .val (.int (0 : Int32)), .val (.int (p1 &&& (2147483647 : Int32))), .val (.int (p2 &&& (2147483647 : Int32))), .val (.int (p3 &&& (2147483647 : Int32))), .val (.ref b96), .val (.int (0 : Int32))]) rfl k) ?_
        show own_Go _ _ _ _ T104 (mkF m 112 #[.val (.int p0), .val (.int p1), .val (.int p2), .val (.int p3), .val (.int (1 : Int32)), .val (.int (1 : Int32)), .val (.int (0 : Int32)), .val (.int (p1 &&& (2147483647 : Int32))), .val (.int (p2 &&& (2147483647 : Int32))), .val (.int (p3 &&& (2147483647 : Int32))), .val (.ref b96), .val (.int (0 : Int32))] [])
        refine own_st (fun t k => XS.iload X104.here hx rfl (hb hby at_112) rfl k) ?_
        show own_Go _ _ _ _ T104 (mkF m 114 #[.val (.int p0), .val (.int p1), .val (.int p2), .val (.int p3), .val (.int (1 : Int32)), .val (.int (1 : Int32)), .val (.int (0 : Int32)), .val (.int (p1 &&& (2147483647 : Int32))), .val (.int (p2 &&& (2147483647 : Int32))), .val (.int (p3 &&& (2147483647 : Int32))), .val (.ref b96), .val (.int (0 : Int32))] [(.int (1 : Int32))])
        refine own_st (fun t k => XS.ifNo X104.here hx rfl (hb hby at_114) rfl ((if0 _ _).trans (feq (by decide : ¬ ((1 : Int32) = (0 : Int32)))).1) k) ?_
        show own_Go _ _ _ _ T104 (mkF m 117 #[.val (.int p0), .val (.int p1), .val (.int p2), .val (.int p3), .val (.int (1 : Int32)), .val (.int (1 : Int32)), .val (.int (0 : Int32)), .val (.int (p1 &&& (2147483647 : Int32))), .val (.int (p2 &&& (2147483647 : Int32))), .val (.int (p3 &&& (2147483647 : Int32))), .val (.ref b96), .val (.int (0 : Int32))] [])
        refine own_st (fun t k => XS.iload X104.here hx rfl (hb hby at_117) rfl k) ?_
        show own_Go _ _ _ _ T104 (mkF m 119 #[.val (.int p0), .val (.int p1), .val (.int p2), .val (.int p3), .val (.int (1 : Int32)), .val (.int (1 : Int32)), .val (.int (0 : Int32)), .val (.int (p1 &&& (2147483647 : Int32))), .val (.int (p2 &&& (2147483647 : Int32))), .val (.int (p3 &&& (2147483647 : Int32))), .val (.ref b96), .val (.int (0 : Int32))] [(.int (p1 &&& (2147483647 : Int32)))])
        by_cases c119_106 : (p1 &&& (2147483647 : Int32)) = (0 : Int32)
        ·
          refine own_st (fun t k => XS.ifYes X104.here hx rfl (pc0 := 119) (pc' := 125) rfl (hb hby at_119) rfl ((if0 _ _).trans (teq c119_106).1) (by decide) (by decide) k) ?_
          show own_Go _ _ _ _ T104 (mkF m 125 #[.val (.int p0), .val (.int p1), .val (.int p2), .val (.int p3), .val (.int (1 : Int32)), .val (.int (1 : Int32)), .val (.int (0 : Int32)), .val (.int (p1 &&& (2147483647 : Int32))), .val (.int (p2 &&& (2147483647 : Int32))), .val (.int (p3 &&& (2147483647 : Int32))), .val (.ref b96), .val (.int (0 : Int32))] [])
          refine own_st (fun t k => XS.iload X104.here hx rfl (hb hby at_125) rfl k) ?_
          show own_Go _ _ _ _ T104 (mkF m 127 #[.val (.int p0), .val (.int p1), .val (.int p2), .val (.int p3), .val (.int (1 : Int32)), .val (.int (1 : Int32)), .val (.int (0 : Int32)), .val (.int (p1 &&& (2147483647 : Int32))), .val (.int (p2 &&& (2147483647 : Int32))), .val (.int (p3 &&& (2147483647 : Int32))), .val (.ref b96), .val (.int (0 : Int32))] [(.int (1 : Int32))])
          refine own_st (fun t k => XS.ifNo X104.here hx rfl (hb hby at_127) rfl ((if0 _ _).trans (feq (by decide : ¬ ((1 : Int32) = (0 : Int32)))).1) k) ?_
          show own_Go _ _ _ _ T104 (mkF m 130 #[.val (.int p0), .val (.int p1), .val (.int p2), .val (.int p3), .val (.int (1 : Int32)), .val (.int (1 : Int32)), .val (.int (0 : Int32)), .val (.int (p1 &&& (2147483647 : Int32))), .val (.int (p2 &&& (2147483647 : Int32))), .val (.int (p3 &&& (2147483647 : Int32))), .val (.ref b96), .val (.int (0 : Int32))] [])
          refine own_st (fun t k => XS.iload X104.here hx rfl (hb hby at_130) rfl k) ?_
          show own_Go _ _ _ _ T104 (mkF m 132 #[.val (.int p0), .val (.int p1), .val (.int p2), .val (.int p3), .val (.int (1 : Int32)), .val (.int (1 : Int32)), .val (.int (0 : Int32)), .val (.int (p1 &&& (2147483647 : Int32))), .val (.int (p2 &&& (2147483647 : Int32))), .val (.int (p3 &&& (2147483647 : Int32))), .val (.ref b96), .val (.int (0 : Int32))] [(.int (p2 &&& (2147483647 : Int32)))])
          by_cases c132_107 : (p2 &&& (2147483647 : Int32)) = (0 : Int32)
          ·
            refine own_st (fun t k => XS.ifYes X104.here hx rfl (pc0 := 132) (pc' := 138) rfl (hb hby at_132) rfl ((if0 _ _).trans (teq c132_107).1) (by decide) (by decide) k) ?_
            show own_Go _ _ _ _ T104 (mkF m 138 #[.val (.int p0), .val (.int p1), .val (.int p2), .val (.int p3), .val (.int (1 : Int32)), .val (.int (1 : Int32)), .val (.int (0 : Int32)), .val (.int (p1 &&& (2147483647 : Int32))), .val (.int (p2 &&& (2147483647 : Int32))), .val (.int (p3 &&& (2147483647 : Int32))), .val (.ref b96), .val (.int (0 : Int32))] [])
            refine own_st (fun t k => XS.aload X104.here hx rfl (hb hby at_138) rfl rfl k) ?_
            show own_Go _ _ _ _ T104 (mkF m 140 #[.val (.int p0), .val (.int p1), .val (.int p2), .val (.int p3), .val (.int (1 : Int32)), .val (.int (1 : Int32)), .val (.int (0 : Int32)), .val (.int (p1 &&& (2147483647 : Int32))), .val (.int (p2 &&& (2147483647 : Int32))), .val (.int (p3 &&& (2147483647 : Int32))), .val (.ref b96), .val (.int (0 : Int32))] [(.ref b96)])
            have K0_109 := (K0_105.trans K104 (allS ((Or.inr sz_b96)) all0))
            have A96_110 := (A96_103.keep K104)
            obtain ⟨cq108, kq108, q108a, q108b, q108c⟩ := isOf hZ104 rfl A96_110
            obtain ⟨_, _, ⟨T108, L108, k108, n108⟩, -, X108, ⟨Lc108, hQ108, l108, y108, z108⟩, st108⟩ := X104.virtualBack hx (y := (⟨"com/example/hot_pool/hotpool/config/PoolSettings", "isReclaiming", "()Z"⟩ : MethodName)) (z := (⟨"com/example/hot_pool/hotpool/config/PoolSettings", "isReclaiming", "()Z"⟩ : MethodName)) hown104 (mvT hZ104 (hw _ (List.mem_of_getElem? (i := 26) rfl))) (mvT hZ104 (hw _ (List.mem_of_getElem? (i := 27) rfl))) (notFace_of_selects (args := #[]) (mvT hZ104 (hw _ (List.mem_of_getElem? (i := 29) rfl)))) (mvT hZ104 (hw _ (List.mem_of_getElem? (i := 29) rfl))) (mvT hZ104 (hw _ (List.mem_of_getElem? (i := 28) rfl))) (by decide) (backOf (W := 0) (rm3 l Z a0 hw [] b96 (p1 &&& (2147483647 : Int32)) (p2 &&& (2147483647 : Int32))  T104.heap n0 (Nat.le_trans Z0 K0_109.1) G104_2 G104_3) hZ104 (hw _ (List.mem_of_getElem? (i := 30) rfl)) (hw _ (List.mem_of_getElem? (i := 3) rfl)) (by decide) (by decide)) q108a q108c (g := (mkF m 140 #[.val (.int p0), .val (.int p1), .val (.int p2), .val (.int p3), .val (.int (1 : Int32)), .val (.int (1 : Int32)), .val (.int (0 : Int32)), .val (.int (p1 &&& (2147483647 : Int32))), .val (.int (p2 &&& (2147483647 : Int32))), .val (.int (p3 &&& (2147483647 : Int32))), .val (.ref b96), .val (.int (0 : Int32))] [(.ref b96)])) rfl (by rw [hml]; rfl) (Steps.refl _) (argsL := []) (rest := []) (lenOf pd__28_29Z rfl) rfl (by show 2 * 0 + _ ≤ _; exact Nat.le_of_eq rfl) (hb hby at_140) (fun _ _ => ⟨rfl, rfl, (by decide : 5 + 0 ≤ _), (by decide : 199 + 0 ≤ _)⟩)
            dsimp only [Pt.U, Pt.locs, Pt.cells, Pt.slots] at X108 l108 y108 z108 st108 hQ108
            subst l108 y108 z108
            obtain ⟨rfl, N108q, e108⟩ := hQ108
            obtain ⟨_, X108, N108⟩ := own_hide X108 (Fr.app N104 N108q)
            refine own_tr st108 ?_
            show own_Go _ _ _ _ T108 (mkF m 143 #[.val (.int p0), .val (.int p1), .val (.int p2), .val (.int p3), .val (.int (1 : Int32)), .val (.int (1 : Int32)), .val (.int (0 : Int32)), .val (.int (p1 &&& (2147483647 : Int32))), .val (.int (p2 &&& (2147483647 : Int32))), .val (.int (p3 &&& (2147483647 : Int32))), .val (.ref b96), .val (.int (0 : Int32))] [(.int (own_r (p1 &&& (2147483647 : Int32)) (p2 &&& (2147483647 : Int32))))])
            refine own_st (fun t k => XS.iload X108.here hx rfl (hb hby at_143) rfl k) ?_
            show own_Go _ _ _ _ T108 (mkF m 145 #[.val (.int p0), .val (.int p1), .val (.int p2), .val (.int p3), .val (.int (1 : Int32)), .val (.int (1 : Int32)), .val (.int (0 : Int32)), .val (.int (p1 &&& (2147483647 : Int32))), .val (.int (p2 &&& (2147483647 : Int32))), .val (.int (p3 &&& (2147483647 : Int32))), .val (.ref b96), .val (.int (0 : Int32))] [(.int (0 : Int32)), (.int (own_r (p1 &&& (2147483647 : Int32)) (p2 &&& (2147483647 : Int32))))])
            refine own_st (fun t k => XS.icmpNo X108.here hx rfl (hb hby at_145) rfl (teq (own_r_0 (own_mz c119_106) (own_mz c132_107) : (own_r (p1 &&& (2147483647 : Int32)) (p2 &&& (2147483647 : Int32))) = (0 : Int32))).2 k) ?_
            show own_Go _ _ _ _ T108 (mkF m 148 #[.val (.int p0), .val (.int p1), .val (.int p2), .val (.int p3), .val (.int (1 : Int32)), .val (.int (1 : Int32)), .val (.int (0 : Int32)), .val (.int (p1 &&& (2147483647 : Int32))), .val (.int (p2 &&& (2147483647 : Int32))), .val (.int (p3 &&& (2147483647 : Int32))), .val (.ref b96), .val (.int (0 : Int32))] [])
            refine own_st (fun t k => XS.iconst X108.here hx rfl (hb hby at_148) k) ?_
            show own_Go _ _ _ _ T108 (mkF m 149 #[.val (.int p0), .val (.int p1), .val (.int p2), .val (.int p3), .val (.int (1 : Int32)), .val (.int (1 : Int32)), .val (.int (0 : Int32)), .val (.int (p1 &&& (2147483647 : Int32))), .val (.int (p2 &&& (2147483647 : Int32))), .val (.int (p3 &&& (2147483647 : Int32))), .val (.ref b96), .val (.int (0 : Int32))] [(.int (1 : Int32))])
            refine own_st (fun t k => XS.goto X108.here hx rfl (pc0 := 149) (pc' := 153) rfl (hb hby at_149) (by decide) (by decide) k) ?_
            show own_Go _ _ _ _ T108 (mkF m 153 #[.val (.int p0), .val (.int p1), .val (.int p2), .val (.int p3), .val (.int (1 : Int32)), .val (.int (1 : Int32)), .val (.int (0 : Int32)), .val (.int (p1 &&& (2147483647 : Int32))), .val (.int (p2 &&& (2147483647 : Int32))), .val (.int (p3 &&& (2147483647 : Int32))), .val (.ref b96), .val (.int (0 : Int32))] [(.int (1 : Int32))])
            exact own_retNW X108 hS104 (by rw [e108]; exact (Nat.le_refl T104.heap.size)) hx hlk (t := .boolean) hrt (by simp) (hb hby at_153) ⟨rfl, N108⟩ (by decide) (by decide)
          ·
            refine own_st (fun t k => XS.ifNo X104.here hx rfl (hb hby at_132) rfl ((if0 _ _).trans (feq c132_107).1) k) ?_
            show own_Go _ _ _ _ T104 (mkF m 135 #[.val (.int p0), .val (.int p1), .val (.int p2), .val (.int p3), .val (.int (1 : Int32)), .val (.int (1 : Int32)), .val (.int (0 : Int32)), .val (.int (p1 &&& (2147483647 : Int32))), .val (.int (p2 &&& (2147483647 : Int32))), .val (.int (p3 &&& (2147483647 : Int32))), .val (.ref b96), .val (.int (0 : Int32))] [])
            refine own_st (fun t k => XS.iconst X104.here hx rfl (hb hby at_135) k) ?_
            show own_Go _ _ _ _ T104 (mkF m 136 #[.val (.int p0), .val (.int p1), .val (.int p2), .val (.int p3), .val (.int (1 : Int32)), .val (.int (1 : Int32)), .val (.int (0 : Int32)), .val (.int (p1 &&& (2147483647 : Int32))), .val (.int (p2 &&& (2147483647 : Int32))), .val (.int (p3 &&& (2147483647 : Int32))), .val (.ref b96), .val (.int (0 : Int32))] [(.int (1 : Int32))])
            refine own_st (fun t k => XS.istore X104.here hx rfl (hb hby at_136) rfl (l' := #[.val (.int p0), .val (.int p1), .val (.int p2), .val (.int p3), .val (.int (1 : Int32)), .val (.int (1 : Int32)), .val (.int (0 : Int32)), .val (.int (p1 &&& (2147483647 : Int32))), .val (.int (p2 &&& (2147483647 : Int32))), .val (.int (p3 &&& (2147483647 : Int32))), .val (.ref b96), .val (.int (1 : Int32))]) rfl k) ?_
            show own_Go _ _ _ _ T104 (mkF m 138 #[.val (.int p0), .val (.int p1), .val (.int p2), .val (.int p3), .val (.int (1 : Int32)), .val (.int (1 : Int32)), .val (.int (0 : Int32)), .val (.int (p1 &&& (2147483647 : Int32))), .val (.int (p2 &&& (2147483647 : Int32))), .val (.int (p3 &&& (2147483647 : Int32))), .val (.ref b96), .val (.int (1 : Int32))] [])
            refine own_st (fun t k => XS.aload X104.here hx rfl (hb hby at_138) rfl rfl k) ?_
            show own_Go _ _ _ _ T104 (mkF m 140 #[.val (.int p0), .val (.int p1), .val (.int p2), .val (.int p3), .val (.int (1 : Int32)), .val (.int (1 : Int32)), .val (.int (0 : Int32)), .val (.int (p1 &&& (2147483647 : Int32))), .val (.int (p2 &&& (2147483647 : Int32))), .val (.int (p3 &&& (2147483647 : Int32))), .val (.ref b96), .val (.int (1 : Int32))] [(.ref b96)])
            have K0_112 := (K0_105.trans K104 (allS ((Or.inr sz_b96)) all0))
            have A96_113 := (A96_103.keep K104)
            obtain ⟨cq111, kq111, q111a, q111b, q111c⟩ := isOf hZ104 rfl A96_113
            obtain ⟨_, _, ⟨T111, L111, k111, n111⟩, -, X111, ⟨Lc111, hQ111, l111, y111, z111⟩, st111⟩ := X104.virtualBack hx (y := (⟨"com/example/hot_pool/hotpool/config/PoolSettings", "isReclaiming", "()Z"⟩ : MethodName)) (z := (⟨"com/example/hot_pool/hotpool/config/PoolSettings", "isReclaiming", "()Z"⟩ : MethodName)) hown104 (mvT hZ104 (hw _ (List.mem_of_getElem? (i := 26) rfl))) (mvT hZ104 (hw _ (List.mem_of_getElem? (i := 27) rfl))) (notFace_of_selects (args := #[]) (mvT hZ104 (hw _ (List.mem_of_getElem? (i := 29) rfl)))) (mvT hZ104 (hw _ (List.mem_of_getElem? (i := 29) rfl))) (mvT hZ104 (hw _ (List.mem_of_getElem? (i := 28) rfl))) (by decide) (backOf (W := 0) (rm3 l Z a0 hw [] b96 (p1 &&& (2147483647 : Int32)) (p2 &&& (2147483647 : Int32))  T104.heap n0 (Nat.le_trans Z0 K0_112.1) G104_2 G104_3) hZ104 (hw _ (List.mem_of_getElem? (i := 30) rfl)) (hw _ (List.mem_of_getElem? (i := 3) rfl)) (by decide) (by decide)) q111a q111c (g := (mkF m 140 #[.val (.int p0), .val (.int p1), .val (.int p2), .val (.int p3), .val (.int (1 : Int32)), .val (.int (1 : Int32)), .val (.int (0 : Int32)), .val (.int (p1 &&& (2147483647 : Int32))), .val (.int (p2 &&& (2147483647 : Int32))), .val (.int (p3 &&& (2147483647 : Int32))), .val (.ref b96), .val (.int (1 : Int32))] [(.ref b96)])) rfl (by rw [hml]; rfl) (Steps.refl _) (argsL := []) (rest := []) (lenOf pd__28_29Z rfl) rfl (by show 2 * 0 + _ ≤ _; exact Nat.le_of_eq rfl) (hb hby at_140) (fun _ _ => ⟨rfl, rfl, (by decide : 5 + 0 ≤ _), (by decide : 199 + 0 ≤ _)⟩)
            dsimp only [Pt.U, Pt.locs, Pt.cells, Pt.slots] at X111 l111 y111 z111 st111 hQ111
            subst l111 y111 z111
            obtain ⟨rfl, N111q, e111⟩ := hQ111
            obtain ⟨_, X111, N111⟩ := own_hide X111 (Fr.app N104 N111q)
            refine own_tr st111 ?_
            show own_Go _ _ _ _ T111 (mkF m 143 #[.val (.int p0), .val (.int p1), .val (.int p2), .val (.int p3), .val (.int (1 : Int32)), .val (.int (1 : Int32)), .val (.int (0 : Int32)), .val (.int (p1 &&& (2147483647 : Int32))), .val (.int (p2 &&& (2147483647 : Int32))), .val (.int (p3 &&& (2147483647 : Int32))), .val (.ref b96), .val (.int (1 : Int32))] [(.int (own_r (p1 &&& (2147483647 : Int32)) (p2 &&& (2147483647 : Int32))))])
            refine own_st (fun t k => XS.iload X111.here hx rfl (hb hby at_143) rfl k) ?_
            show own_Go _ _ _ _ T111 (mkF m 145 #[.val (.int p0), .val (.int p1), .val (.int p2), .val (.int p3), .val (.int (1 : Int32)), .val (.int (1 : Int32)), .val (.int (0 : Int32)), .val (.int (p1 &&& (2147483647 : Int32))), .val (.int (p2 &&& (2147483647 : Int32))), .val (.int (p3 &&& (2147483647 : Int32))), .val (.ref b96), .val (.int (1 : Int32))] [(.int (1 : Int32)), (.int (own_r (p1 &&& (2147483647 : Int32)) (p2 &&& (2147483647 : Int32))))])
            refine own_st (fun t k => XS.icmpNo X111.here hx rfl (hb hby at_145) rfl (teq (own_r_b (own_mz c119_106) (own_mp c132_107) : (own_r (p1 &&& (2147483647 : Int32)) (p2 &&& (2147483647 : Int32))) = (1 : Int32))).2 k) ?_
            show own_Go _ _ _ _ T111 (mkF m 148 #[.val (.int p0), .val (.int p1), .val (.int p2), .val (.int p3), .val (.int (1 : Int32)), .val (.int (1 : Int32)), .val (.int (0 : Int32)), .val (.int (p1 &&& (2147483647 : Int32))), .val (.int (p2 &&& (2147483647 : Int32))), .val (.int (p3 &&& (2147483647 : Int32))), .val (.ref b96), .val (.int (1 : Int32))] [])
            refine own_st (fun t k => XS.iconst X111.here hx rfl (hb hby at_148) k) ?_
            show own_Go _ _ _ _ T111 (mkF m 149 #[.val (.int p0), .val (.int p1), .val (.int p2), .val (.int p3), .val (.int (1 : Int32)), .val (.int (1 : Int32)), .val (.int (0 : Int32)), .val (.int (p1 &&& (2147483647 : Int32))), .val (.int (p2 &&& (2147483647 : Int32))), .val (.int (p3 &&& (2147483647 : Int32))), .val (.ref b96), .val (.int (1 : Int32))] [(.int (1 : Int32))])
            refine own_st (fun t k => XS.goto X111.here hx rfl (pc0 := 149) (pc' := 153) rfl (hb hby at_149) (by decide) (by decide) k) ?_
            show own_Go _ _ _ _ T111 (mkF m 153 #[.val (.int p0), .val (.int p1), .val (.int p2), .val (.int p3), .val (.int (1 : Int32)), .val (.int (1 : Int32)), .val (.int (0 : Int32)), .val (.int (p1 &&& (2147483647 : Int32))), .val (.int (p2 &&& (2147483647 : Int32))), .val (.int (p3 &&& (2147483647 : Int32))), .val (.ref b96), .val (.int (1 : Int32))] [(.int (1 : Int32))])
            exact own_retNW X111 hS104 (by rw [e111]; exact (Nat.le_refl T104.heap.size)) hx hlk (t := .boolean) hrt (by simp) (hb hby at_153) ⟨rfl, N111⟩ (by decide) (by decide)
        ·
          refine own_st (fun t k => XS.ifNo X104.here hx rfl (hb hby at_119) rfl ((if0 _ _).trans (feq c119_106).1) k) ?_
          show own_Go _ _ _ _ T104 (mkF m 122 #[.val (.int p0), .val (.int p1), .val (.int p2), .val (.int p3), .val (.int (1 : Int32)), .val (.int (1 : Int32)), .val (.int (0 : Int32)), .val (.int (p1 &&& (2147483647 : Int32))), .val (.int (p2 &&& (2147483647 : Int32))), .val (.int (p3 &&& (2147483647 : Int32))), .val (.ref b96), .val (.int (0 : Int32))] [])
          refine own_st (fun t k => XS.iconst X104.here hx rfl (hb hby at_122) k) ?_
          show own_Go _ _ _ _ T104 (mkF m 123 #[.val (.int p0), .val (.int p1), .val (.int p2), .val (.int p3), .val (.int (1 : Int32)), .val (.int (1 : Int32)), .val (.int (0 : Int32)), .val (.int (p1 &&& (2147483647 : Int32))), .val (.int (p2 &&& (2147483647 : Int32))), .val (.int (p3 &&& (2147483647 : Int32))), .val (.ref b96), .val (.int (0 : Int32))] [(.int (1 : Int32))])
          refine own_st (fun t k => XS.istore X104.here hx rfl (hb hby at_123) rfl (l' := #[.val (.int p0), .val (.int p1), .val (.int p2), .val (.int p3), .val (.int (1 : Int32)), .val (.int (1 : Int32)), .val (.int (0 : Int32)), .val (.int (p1 &&& (2147483647 : Int32))), .val (.int (p2 &&& (2147483647 : Int32))), .val (.int (p3 &&& (2147483647 : Int32))), .val (.ref b96), .val (.int (1 : Int32))]) rfl k) ?_
          show own_Go _ _ _ _ T104 (mkF m 125 #[.val (.int p0), .val (.int p1), .val (.int p2), .val (.int p3), .val (.int (1 : Int32)), .val (.int (1 : Int32)), .val (.int (0 : Int32)), .val (.int (p1 &&& (2147483647 : Int32))), .val (.int (p2 &&& (2147483647 : Int32))), .val (.int (p3 &&& (2147483647 : Int32))), .val (.ref b96), .val (.int (1 : Int32))] [])
          refine own_st (fun t k => XS.iload X104.here hx rfl (hb hby at_125) rfl k) ?_
          show own_Go _ _ _ _ T104 (mkF m 127 #[.val (.int p0), .val (.int p1), .val (.int p2), .val (.int p3), .val (.int (1 : Int32)), .val (.int (1 : Int32)), .val (.int (0 : Int32)), .val (.int (p1 &&& (2147483647 : Int32))), .val (.int (p2 &&& (2147483647 : Int32))), .val (.int (p3 &&& (2147483647 : Int32))), .val (.ref b96), .val (.int (1 : Int32))] [(.int (1 : Int32))])
          refine own_st (fun t k => XS.ifNo X104.here hx rfl (hb hby at_127) rfl ((if0 _ _).trans (feq (by decide : ¬ ((1 : Int32) = (0 : Int32)))).1) k) ?_
          show own_Go _ _ _ _ T104 (mkF m 130 #[.val (.int p0), .val (.int p1), .val (.int p2), .val (.int p3), .val (.int (1 : Int32)), .val (.int (1 : Int32)), .val (.int (0 : Int32)), .val (.int (p1 &&& (2147483647 : Int32))), .val (.int (p2 &&& (2147483647 : Int32))), .val (.int (p3 &&& (2147483647 : Int32))), .val (.ref b96), .val (.int (1 : Int32))] [])
          refine own_st (fun t k => XS.iload X104.here hx rfl (hb hby at_130) rfl k) ?_
          show own_Go _ _ _ _ T104 (mkF m 132 #[.val (.int p0), .val (.int p1), .val (.int p2), .val (.int p3), .val (.int (1 : Int32)), .val (.int (1 : Int32)), .val (.int (0 : Int32)), .val (.int (p1 &&& (2147483647 : Int32))), .val (.int (p2 &&& (2147483647 : Int32))), .val (.int (p3 &&& (2147483647 : Int32))), .val (.ref b96), .val (.int (1 : Int32))] [(.int (p2 &&& (2147483647 : Int32)))])
          by_cases c132_114 : (p2 &&& (2147483647 : Int32)) = (0 : Int32)
          ·
            refine own_st (fun t k => XS.ifYes X104.here hx rfl (pc0 := 132) (pc' := 138) rfl (hb hby at_132) rfl ((if0 _ _).trans (teq c132_114).1) (by decide) (by decide) k) ?_
            show own_Go _ _ _ _ T104 (mkF m 138 #[.val (.int p0), .val (.int p1), .val (.int p2), .val (.int p3), .val (.int (1 : Int32)), .val (.int (1 : Int32)), .val (.int (0 : Int32)), .val (.int (p1 &&& (2147483647 : Int32))), .val (.int (p2 &&& (2147483647 : Int32))), .val (.int (p3 &&& (2147483647 : Int32))), .val (.ref b96), .val (.int (1 : Int32))] [])
            refine own_st (fun t k => XS.aload X104.here hx rfl (hb hby at_138) rfl rfl k) ?_
            show own_Go _ _ _ _ T104 (mkF m 140 #[.val (.int p0), .val (.int p1), .val (.int p2), .val (.int p3), .val (.int (1 : Int32)), .val (.int (1 : Int32)), .val (.int (0 : Int32)), .val (.int (p1 &&& (2147483647 : Int32))), .val (.int (p2 &&& (2147483647 : Int32))), .val (.int (p3 &&& (2147483647 : Int32))), .val (.ref b96), .val (.int (1 : Int32))] [(.ref b96)])
            have K0_116 := (K0_105.trans K104 (allS ((Or.inr sz_b96)) all0))
            have A96_117 := (A96_103.keep K104)
            obtain ⟨cq115, kq115, q115a, q115b, q115c⟩ := isOf hZ104 rfl A96_117
            obtain ⟨_, _, ⟨T115, L115, k115, n115⟩, -, X115, ⟨Lc115, hQ115, l115, y115, z115⟩, st115⟩ := X104.virtualBack hx (y := (⟨"com/example/hot_pool/hotpool/config/PoolSettings", "isReclaiming", "()Z"⟩ : MethodName)) (z := (⟨"com/example/hot_pool/hotpool/config/PoolSettings", "isReclaiming", "()Z"⟩ : MethodName)) hown104 (mvT hZ104 (hw _ (List.mem_of_getElem? (i := 26) rfl))) (mvT hZ104 (hw _ (List.mem_of_getElem? (i := 27) rfl))) (notFace_of_selects (args := #[]) (mvT hZ104 (hw _ (List.mem_of_getElem? (i := 29) rfl)))) (mvT hZ104 (hw _ (List.mem_of_getElem? (i := 29) rfl))) (mvT hZ104 (hw _ (List.mem_of_getElem? (i := 28) rfl))) (by decide) (backOf (W := 0) (rm3 l Z a0 hw [] b96 (p1 &&& (2147483647 : Int32)) (p2 &&& (2147483647 : Int32))  T104.heap n0 (Nat.le_trans Z0 K0_116.1) G104_2 G104_3) hZ104 (hw _ (List.mem_of_getElem? (i := 30) rfl)) (hw _ (List.mem_of_getElem? (i := 3) rfl)) (by decide) (by decide)) q115a q115c (g := (mkF m 140 #[.val (.int p0), .val (.int p1), .val (.int p2), .val (.int p3), .val (.int (1 : Int32)), .val (.int (1 : Int32)), .val (.int (0 : Int32)), .val (.int (p1 &&& (2147483647 : Int32))), .val (.int (p2 &&& (2147483647 : Int32))), .val (.int (p3 &&& (2147483647 : Int32))), .val (.ref b96), .val (.int (1 : Int32))] [(.ref b96)])) rfl (by rw [hml]; rfl) (Steps.refl _) (argsL := []) (rest := []) (lenOf pd__28_29Z rfl) rfl (by show 2 * 0 + _ ≤ _; exact Nat.le_of_eq rfl) (hb hby at_140) (fun _ _ => ⟨rfl, rfl, (by decide : 5 + 0 ≤ _), (by decide : 199 + 0 ≤ _)⟩)
            dsimp only [Pt.U, Pt.locs, Pt.cells, Pt.slots] at X115 l115 y115 z115 st115 hQ115
            subst l115 y115 z115
            obtain ⟨rfl, N115q, e115⟩ := hQ115
            obtain ⟨_, X115, N115⟩ := own_hide X115 (Fr.app N104 N115q)
            refine own_tr st115 ?_
            show own_Go _ _ _ _ T115 (mkF m 143 #[.val (.int p0), .val (.int p1), .val (.int p2), .val (.int p3), .val (.int (1 : Int32)), .val (.int (1 : Int32)), .val (.int (0 : Int32)), .val (.int (p1 &&& (2147483647 : Int32))), .val (.int (p2 &&& (2147483647 : Int32))), .val (.int (p3 &&& (2147483647 : Int32))), .val (.ref b96), .val (.int (1 : Int32))] [(.int (own_r (p1 &&& (2147483647 : Int32)) (p2 &&& (2147483647 : Int32))))])
            refine own_st (fun t k => XS.iload X115.here hx rfl (hb hby at_143) rfl k) ?_
            show own_Go _ _ _ _ T115 (mkF m 145 #[.val (.int p0), .val (.int p1), .val (.int p2), .val (.int p3), .val (.int (1 : Int32)), .val (.int (1 : Int32)), .val (.int (0 : Int32)), .val (.int (p1 &&& (2147483647 : Int32))), .val (.int (p2 &&& (2147483647 : Int32))), .val (.int (p3 &&& (2147483647 : Int32))), .val (.ref b96), .val (.int (1 : Int32))] [(.int (1 : Int32)), (.int (own_r (p1 &&& (2147483647 : Int32)) (p2 &&& (2147483647 : Int32))))])
            refine own_st (fun t k => XS.icmpNo X115.here hx rfl (hb hby at_145) rfl (teq (own_r_a (own_mp c119_106) : (own_r (p1 &&& (2147483647 : Int32)) (p2 &&& (2147483647 : Int32))) = (1 : Int32))).2 k) ?_
            show own_Go _ _ _ _ T115 (mkF m 148 #[.val (.int p0), .val (.int p1), .val (.int p2), .val (.int p3), .val (.int (1 : Int32)), .val (.int (1 : Int32)), .val (.int (0 : Int32)), .val (.int (p1 &&& (2147483647 : Int32))), .val (.int (p2 &&& (2147483647 : Int32))), .val (.int (p3 &&& (2147483647 : Int32))), .val (.ref b96), .val (.int (1 : Int32))] [])
            refine own_st (fun t k => XS.iconst X115.here hx rfl (hb hby at_148) k) ?_
            show own_Go _ _ _ _ T115 (mkF m 149 #[.val (.int p0), .val (.int p1), .val (.int p2), .val (.int p3), .val (.int (1 : Int32)), .val (.int (1 : Int32)), .val (.int (0 : Int32)), .val (.int (p1 &&& (2147483647 : Int32))), .val (.int (p2 &&& (2147483647 : Int32))), .val (.int (p3 &&& (2147483647 : Int32))), .val (.ref b96), .val (.int (1 : Int32))] [(.int (1 : Int32))])
            refine own_st (fun t k => XS.goto X115.here hx rfl (pc0 := 149) (pc' := 153) rfl (hb hby at_149) (by decide) (by decide) k) ?_
            show own_Go _ _ _ _ T115 (mkF m 153 #[.val (.int p0), .val (.int p1), .val (.int p2), .val (.int p3), .val (.int (1 : Int32)), .val (.int (1 : Int32)), .val (.int (0 : Int32)), .val (.int (p1 &&& (2147483647 : Int32))), .val (.int (p2 &&& (2147483647 : Int32))), .val (.int (p3 &&& (2147483647 : Int32))), .val (.ref b96), .val (.int (1 : Int32))] [(.int (1 : Int32))])
            exact own_retNW X115 hS104 (by rw [e115]; exact (Nat.le_refl T104.heap.size)) hx hlk (t := .boolean) hrt (by simp) (hb hby at_153) ⟨rfl, N115⟩ (by decide) (by decide)
          ·
            refine own_st (fun t k => XS.ifNo X104.here hx rfl (hb hby at_132) rfl ((if0 _ _).trans (feq c132_114).1) k) ?_
            show own_Go _ _ _ _ T104 (mkF m 135 #[.val (.int p0), .val (.int p1), .val (.int p2), .val (.int p3), .val (.int (1 : Int32)), .val (.int (1 : Int32)), .val (.int (0 : Int32)), .val (.int (p1 &&& (2147483647 : Int32))), .val (.int (p2 &&& (2147483647 : Int32))), .val (.int (p3 &&& (2147483647 : Int32))), .val (.ref b96), .val (.int (1 : Int32))] [])
            refine own_st (fun t k => XS.iconst X104.here hx rfl (hb hby at_135) k) ?_
            show own_Go _ _ _ _ T104 (mkF m 136 #[.val (.int p0), .val (.int p1), .val (.int p2), .val (.int p3), .val (.int (1 : Int32)), .val (.int (1 : Int32)), .val (.int (0 : Int32)), .val (.int (p1 &&& (2147483647 : Int32))), .val (.int (p2 &&& (2147483647 : Int32))), .val (.int (p3 &&& (2147483647 : Int32))), .val (.ref b96), .val (.int (1 : Int32))] [(.int (1 : Int32))])
            refine own_st (fun t k => XS.istore X104.here hx rfl (hb hby at_136) rfl (l' := #[.val (.int p0), .val (.int p1), .val (.int p2), .val (.int p3), .val (.int (1 : Int32)), .val (.int (1 : Int32)), .val (.int (0 : Int32)), .val (.int (p1 &&& (2147483647 : Int32))), .val (.int (p2 &&& (2147483647 : Int32))), .val (.int (p3 &&& (2147483647 : Int32))), .val (.ref b96), .val (.int (1 : Int32))]) rfl k) ?_
            show own_Go _ _ _ _ T104 (mkF m 138 #[.val (.int p0), .val (.int p1), .val (.int p2), .val (.int p3), .val (.int (1 : Int32)), .val (.int (1 : Int32)), .val (.int (0 : Int32)), .val (.int (p1 &&& (2147483647 : Int32))), .val (.int (p2 &&& (2147483647 : Int32))), .val (.int (p3 &&& (2147483647 : Int32))), .val (.ref b96), .val (.int (1 : Int32))] [])
            refine own_st (fun t k => XS.aload X104.here hx rfl (hb hby at_138) rfl rfl k) ?_
            show own_Go _ _ _ _ T104 (mkF m 140 #[.val (.int p0), .val (.int p1), .val (.int p2), .val (.int p3), .val (.int (1 : Int32)), .val (.int (1 : Int32)), .val (.int (0 : Int32)), .val (.int (p1 &&& (2147483647 : Int32))), .val (.int (p2 &&& (2147483647 : Int32))), .val (.int (p3 &&& (2147483647 : Int32))), .val (.ref b96), .val (.int (1 : Int32))] [(.ref b96)])
            have K0_119 := (K0_105.trans K104 (allS ((Or.inr sz_b96)) all0))
            have A96_120 := (A96_103.keep K104)
            obtain ⟨cq118, kq118, q118a, q118b, q118c⟩ := isOf hZ104 rfl A96_120
            obtain ⟨_, _, ⟨T118, L118, k118, n118⟩, -, X118, ⟨Lc118, hQ118, l118, y118, z118⟩, st118⟩ := X104.virtualBack hx (y := (⟨"com/example/hot_pool/hotpool/config/PoolSettings", "isReclaiming", "()Z"⟩ : MethodName)) (z := (⟨"com/example/hot_pool/hotpool/config/PoolSettings", "isReclaiming", "()Z"⟩ : MethodName)) hown104 (mvT hZ104 (hw _ (List.mem_of_getElem? (i := 26) rfl))) (mvT hZ104 (hw _ (List.mem_of_getElem? (i := 27) rfl))) (notFace_of_selects (args := #[]) (mvT hZ104 (hw _ (List.mem_of_getElem? (i := 29) rfl)))) (mvT hZ104 (hw _ (List.mem_of_getElem? (i := 29) rfl))) (mvT hZ104 (hw _ (List.mem_of_getElem? (i := 28) rfl))) (by decide) (backOf (W := 0) (rm3 l Z a0 hw [] b96 (p1 &&& (2147483647 : Int32)) (p2 &&& (2147483647 : Int32))  T104.heap n0 (Nat.le_trans Z0 K0_119.1) G104_2 G104_3) hZ104 (hw _ (List.mem_of_getElem? (i := 30) rfl)) (hw _ (List.mem_of_getElem? (i := 3) rfl)) (by decide) (by decide)) q118a q118c (g := (mkF m 140 #[.val (.int p0), .val (.int p1), .val (.int p2), .val (.int p3), .val (.int (1 : Int32)), .val (.int (1 : Int32)), .val (.int (0 : Int32)), .val (.int (p1 &&& (2147483647 : Int32))), .val (.int (p2 &&& (2147483647 : Int32))), .val (.int (p3 &&& (2147483647 : Int32))), .val (.ref b96), .val (.int (1 : Int32))] [(.ref b96)])) rfl (by rw [hml]; rfl) (Steps.refl _) (argsL := []) (rest := []) (lenOf pd__28_29Z rfl) rfl (by show 2 * 0 + _ ≤ _; exact Nat.le_of_eq rfl) (hb hby at_140) (fun _ _ => ⟨rfl, rfl, (by decide : 5 + 0 ≤ _), (by decide : 199 + 0 ≤ _)⟩)
            dsimp only [Pt.U, Pt.locs, Pt.cells, Pt.slots] at X118 l118 y118 z118 st118 hQ118
            subst l118 y118 z118
            obtain ⟨rfl, N118q, e118⟩ := hQ118
            obtain ⟨_, X118, N118⟩ := own_hide X118 (Fr.app N104 N118q)
            refine own_tr st118 ?_
            show own_Go _ _ _ _ T118 (mkF m 143 #[.val (.int p0), .val (.int p1), .val (.int p2), .val (.int p3), .val (.int (1 : Int32)), .val (.int (1 : Int32)), .val (.int (0 : Int32)), .val (.int (p1 &&& (2147483647 : Int32))), .val (.int (p2 &&& (2147483647 : Int32))), .val (.int (p3 &&& (2147483647 : Int32))), .val (.ref b96), .val (.int (1 : Int32))] [(.int (own_r (p1 &&& (2147483647 : Int32)) (p2 &&& (2147483647 : Int32))))])
            refine own_st (fun t k => XS.iload X118.here hx rfl (hb hby at_143) rfl k) ?_
            show own_Go _ _ _ _ T118 (mkF m 145 #[.val (.int p0), .val (.int p1), .val (.int p2), .val (.int p3), .val (.int (1 : Int32)), .val (.int (1 : Int32)), .val (.int (0 : Int32)), .val (.int (p1 &&& (2147483647 : Int32))), .val (.int (p2 &&& (2147483647 : Int32))), .val (.int (p3 &&& (2147483647 : Int32))), .val (.ref b96), .val (.int (1 : Int32))] [(.int (1 : Int32)), (.int (own_r (p1 &&& (2147483647 : Int32)) (p2 &&& (2147483647 : Int32))))])
            refine own_st (fun t k => XS.icmpNo X118.here hx rfl (hb hby at_145) rfl (teq (own_r_a (own_mp c119_106) : (own_r (p1 &&& (2147483647 : Int32)) (p2 &&& (2147483647 : Int32))) = (1 : Int32))).2 k) ?_
            show own_Go _ _ _ _ T118 (mkF m 148 #[.val (.int p0), .val (.int p1), .val (.int p2), .val (.int p3), .val (.int (1 : Int32)), .val (.int (1 : Int32)), .val (.int (0 : Int32)), .val (.int (p1 &&& (2147483647 : Int32))), .val (.int (p2 &&& (2147483647 : Int32))), .val (.int (p3 &&& (2147483647 : Int32))), .val (.ref b96), .val (.int (1 : Int32))] [])
            refine own_st (fun t k => XS.iconst X118.here hx rfl (hb hby at_148) k) ?_
            show own_Go _ _ _ _ T118 (mkF m 149 #[.val (.int p0), .val (.int p1), .val (.int p2), .val (.int p3), .val (.int (1 : Int32)), .val (.int (1 : Int32)), .val (.int (0 : Int32)), .val (.int (p1 &&& (2147483647 : Int32))), .val (.int (p2 &&& (2147483647 : Int32))), .val (.int (p3 &&& (2147483647 : Int32))), .val (.ref b96), .val (.int (1 : Int32))] [(.int (1 : Int32))])
            refine own_st (fun t k => XS.goto X118.here hx rfl (pc0 := 149) (pc' := 153) rfl (hb hby at_149) (by decide) (by decide) k) ?_
            show own_Go _ _ _ _ T118 (mkF m 153 #[.val (.int p0), .val (.int p1), .val (.int p2), .val (.int p3), .val (.int (1 : Int32)), .val (.int (1 : Int32)), .val (.int (0 : Int32)), .val (.int (p1 &&& (2147483647 : Int32))), .val (.int (p2 &&& (2147483647 : Int32))), .val (.int (p3 &&& (2147483647 : Int32))), .val (.ref b96), .val (.int (1 : Int32))] [(.int (1 : Int32))])
            exact own_retNW X118 hS104 (by rw [e118]; exact (Nat.le_refl T104.heap.size)) hx hlk (t := .boolean) hrt (by simp) (hb hby at_153) ⟨rfl, N118⟩ (by decide) (by decide)
      ·
        refine own_st (fun t k => XS.ifNo X0.here hx rfl (hb hby at_29) rfl ((if0 _ _).trans (feq c29_95).1) k) ?_
        show own_Go _ _ _ _ s₁ (mkF m 32 #[.val (.int p0), .val (.int p1), .val (.int p2), .val (.int p3), .val (.int (1 : Int32)), .val (.int (1 : Int32)), .unset, .unset, .unset, .unset, .unset, .unset] [])
        refine own_st (fun t k => XS.iconst X0.here hx rfl (hb hby at_32) k) ?_
        show own_Go _ _ _ _ s₁ (mkF m 33 #[.val (.int p0), .val (.int p1), .val (.int p2), .val (.int p3), .val (.int (1 : Int32)), .val (.int (1 : Int32)), .unset, .unset, .unset, .unset, .unset, .unset] [(.int (1 : Int32))])
        refine own_st (fun t k => XS.goto X0.here hx rfl (pc0 := 33) (pc' := 37) rfl (hb hby at_33) (by decide) (by decide) k) ?_
        show own_Go _ _ _ _ s₁ (mkF m 37 #[.val (.int p0), .val (.int p1), .val (.int p2), .val (.int p3), .val (.int (1 : Int32)), .val (.int (1 : Int32)), .unset, .unset, .unset, .unset, .unset, .unset] [(.int (1 : Int32))])
        refine own_st (fun t k => XS.istore X0.here hx rfl (hb hby at_37) rfl (l' := #[.val (.int p0), .val (.int p1), .val (.int p2), .val (.int p3), .val (.int (1 : Int32)), .val (.int (1 : Int32)), .val (.int (1 : Int32)), .unset, .unset, .unset, .unset, .unset]) rfl k) ?_
        show own_Go _ _ _ _ s₁ (mkF m 39 #[.val (.int p0), .val (.int p1), .val (.int p2), .val (.int p3), .val (.int (1 : Int32)), .val (.int (1 : Int32)), .val (.int (1 : Int32)), .unset, .unset, .unset, .unset, .unset] [])
        refine own_st (fun t k => XS.iloadN X0.here hx rfl (hb hby at_39) rfl k) ?_
        show own_Go _ _ _ _ s₁ (mkF m 40 #[.val (.int p0), .val (.int p1), .val (.int p2), .val (.int p3), .val (.int (1 : Int32)), .val (.int (1 : Int32)), .val (.int (1 : Int32)), .unset, .unset, .unset, .unset, .unset] [(.int p1)])
        refine own_st (X0.ldcInt hx hown (mvT hZ (hw _ (List.mem_of_getElem? (i := 0) rfl))) (g := (mkF m 40 #[.val (.int p0), .val (.int p1), .val (.int p2), .val (.int p3), .val (.int (1 : Int32)), .val (.int (1 : Int32)), .val (.int (1 : Int32)), .unset, .unset, .unset, .unset, .unset] [(.int p1)])) rfl (hb hby at_40)) ?_
        show own_Go _ _ _ _ s₁ (mkF m 42 #[.val (.int p0), .val (.int p1), .val (.int p2), .val (.int p3), .val (.int (1 : Int32)), .val (.int (1 : Int32)), .val (.int (1 : Int32)), .unset, .unset, .unset, .unset, .unset] [(.int (2147483647 : Int32)), (.int p1)])
        refine own_st (fun t k => XS.iand X0.here hx rfl (hb hby at_42) rfl k) ?_
        show own_Go _ _ _ _ s₁ (mkF m 43 #[.val (.int p0), .val (.int p1), .val (.int p2), .val (.int p3), .val (.int (1 : Int32)), .val (.int (1 : Int32)), .val (.int (1 : Int32)), .unset, .unset, .unset, .unset, .unset] [(.int (p1 &&& (2147483647 : Int32)))])
        refine own_st (fun t k => XS.istore X0.here hx rfl (hb hby at_43) rfl (l' := #[.val (.int p0), .val (.int p1), .val (.int p2), .val (.int p3), .val (.int (1 : Int32)), .val (.int (1 : Int32)), .val (.int (1 : Int32)), .val (.int (p1 &&& (2147483647 : Int32))), .unset, .unset, .unset, .unset]) rfl k) ?_
        show own_Go _ _ _ _ s₁ (mkF m 45 #[.val (.int p0), .val (.int p1), .val (.int p2), .val (.int p3), .val (.int (1 : Int32)), .val (.int (1 : Int32)), .val (.int (1 : Int32)), .val (.int (p1 &&& (2147483647 : Int32))), .unset, .unset, .unset, .unset] [])
        refine own_st (fun t k => XS.iloadN X0.here hx rfl (hb hby at_45) rfl k) ?_
        show own_Go _ _ _ _ s₁ (mkF m 46 #[.val (.int p0), .val (.int p1), .val (.int p2), .val (.int p3), .val (.int (1 : Int32)), .val (.int (1 : Int32)), .val (.int (1 : Int32)), .val (.int (p1 &&& (2147483647 : Int32))), .unset, .unset, .unset, .unset] [(.int p2)])
        refine own_st (X0.ldcInt hx hown (mvT hZ (hw _ (List.mem_of_getElem? (i := 0) rfl))) (g := (mkF m 46 #[.val (.int p0), .val (.int p1), .val (.int p2), .val (.int p3), .val (.int (1 : Int32)), .val (.int (1 : Int32)), .val (.int (1 : Int32)), .val (.int (p1 &&& (2147483647 : Int32))), .unset, .unset, .unset, .unset] [(.int p2)])) rfl (hb hby at_46)) ?_
        show own_Go _ _ _ _ s₁ (mkF m 48 #[.val (.int p0), .val (.int p1), .val (.int p2), .val (.int p3), .val (.int (1 : Int32)), .val (.int (1 : Int32)), .val (.int (1 : Int32)), .val (.int (p1 &&& (2147483647 : Int32))), .unset, .unset, .unset, .unset] [(.int (2147483647 : Int32)), (.int p2)])
        refine own_st (fun t k => XS.iand X0.here hx rfl (hb hby at_48) rfl k) ?_
        show own_Go _ _ _ _ s₁ (mkF m 49 #[.val (.int p0), .val (.int p1), .val (.int p2), .val (.int p3), .val (.int (1 : Int32)), .val (.int (1 : Int32)), .val (.int (1 : Int32)), .val (.int (p1 &&& (2147483647 : Int32))), .unset, .unset, .unset, .unset] [(.int (p2 &&& (2147483647 : Int32)))])
        refine own_st (fun t k => XS.istore X0.here hx rfl (hb hby at_49) rfl (l' := #[.val (.int p0), .val (.int p1), .val (.int p2), .val (.int p3), .val (.int (1 : Int32)), .val (.int (1 : Int32)), .val (.int (1 : Int32)), .val (.int (p1 &&& (2147483647 : Int32))), .val (.int (p2 &&& (2147483647 : Int32))), .unset, .unset, .unset]) rfl k) ?_
        show own_Go _ _ _ _ s₁ (mkF m 51 #[.val (.int p0), .val (.int p1), .val (.int p2), .val (.int p3), .val (.int (1 : Int32)), .val (.int (1 : Int32)), .val (.int (1 : Int32)), .val (.int (p1 &&& (2147483647 : Int32))), .val (.int (p2 &&& (2147483647 : Int32))), .unset, .unset, .unset] [])
        refine own_st (fun t k => XS.iloadN X0.here hx rfl (hb hby at_51) rfl k) ?_
        show own_Go _ _ _ _ s₁ (mkF m 52 #[.val (.int p0), .val (.int p1), .val (.int p2), .val (.int p3), .val (.int (1 : Int32)), .val (.int (1 : Int32)), .val (.int (1 : Int32)), .val (.int (p1 &&& (2147483647 : Int32))), .val (.int (p2 &&& (2147483647 : Int32))), .unset, .unset, .unset] [(.int p3)])
        refine own_st (X0.ldcInt hx hown (mvT hZ (hw _ (List.mem_of_getElem? (i := 0) rfl))) (g := (mkF m 52 #[.val (.int p0), .val (.int p1), .val (.int p2), .val (.int p3), .val (.int (1 : Int32)), .val (.int (1 : Int32)), .val (.int (1 : Int32)), .val (.int (p1 &&& (2147483647 : Int32))), .val (.int (p2 &&& (2147483647 : Int32))), .unset, .unset, .unset] [(.int p3)])) rfl (hb hby at_52)) ?_
        show own_Go _ _ _ _ s₁ (mkF m 54 #[.val (.int p0), .val (.int p1), .val (.int p2), .val (.int p3), .val (.int (1 : Int32)), .val (.int (1 : Int32)), .val (.int (1 : Int32)), .val (.int (p1 &&& (2147483647 : Int32))), .val (.int (p2 &&& (2147483647 : Int32))), .unset, .unset, .unset] [(.int (2147483647 : Int32)), (.int p3)])
        refine own_st (fun t k => XS.iand X0.here hx rfl (hb hby at_54) rfl k) ?_
        show own_Go _ _ _ _ s₁ (mkF m 55 #[.val (.int p0), .val (.int p1), .val (.int p2), .val (.int p3), .val (.int (1 : Int32)), .val (.int (1 : Int32)), .val (.int (1 : Int32)), .val (.int (p1 &&& (2147483647 : Int32))), .val (.int (p2 &&& (2147483647 : Int32))), .unset, .unset, .unset] [(.int (p3 &&& (2147483647 : Int32)))])
        refine own_st (fun t k => XS.istore X0.here hx rfl (hb hby at_55) rfl (l' := #[.val (.int p0), .val (.int p1), .val (.int p2), .val (.int p3), .val (.int (1 : Int32)), .val (.int (1 : Int32)), .val (.int (1 : Int32)), .val (.int (p1 &&& (2147483647 : Int32))), .val (.int (p2 &&& (2147483647 : Int32))), .val (.int (p3 &&& (2147483647 : Int32))), .unset, .unset]) rfl k) ?_
        show own_Go _ _ _ _ s₁ (mkF m 57 #[.val (.int p0), .val (.int p1), .val (.int p2), .val (.int p3), .val (.int (1 : Int32)), .val (.int (1 : Int32)), .val (.int (1 : Int32)), .val (.int (p1 &&& (2147483647 : Int32))), .val (.int (p2 &&& (2147483647 : Int32))), .val (.int (p3 &&& (2147483647 : Int32))), .unset, .unset] [])
        obtain ⟨T121, h121, X121, e121, E121, A121, D121, -, st121⟩ := newO X0 hx hZ hown (hw _ (List.mem_of_getElem? (i := 1) rfl)) (hw _ (List.mem_of_getElem? (i := 2) rfl)) (hw _ (List.mem_of_getElem? (i := 3) rfl)) e0 (g := (mkF m 57 #[.val (.int p0), .val (.int p1), .val (.int p2), .val (.int p3), .val (.int (1 : Int32)), .val (.int (1 : Int32)), .val (.int (1 : Int32)), .val (.int (p1 &&& (2147483647 : Int32))), .val (.int (p2 &&& (2147483647 : Int32))), .val (.int (p3 &&& (2147483647 : Int32))), .unset, .unset] [])) rfl (hb hby at_57) (by decide) (by decide)
        obtain ⟨b121, g121⟩ : ∃ z, z = h0.size := ⟨_, rfl⟩
        rw [← g121] at A121 D121 st121
        have sz_b121 : h0.size ≤ b121 := Nat.le_trans K0.1 (Nat.le_of_eq g121.symm)
        have g_b121 : n0 ≤ b121 := Nat.le_trans Z0 sz_b121
        have F121_maxPoolSize : Fld Z h121 b121 "com/example/hot_pool/hotpool/config/PoolSettings" "maxPoolSize" "I" (.int (0 : Int32)) := D121 (Or.inl (hw _ (List.mem_of_getElem? (i := 11) rfl))) (ty := .int) (by decide)
        have F121_connectionWaitTimeout : Fld Z h121 b121 "com/example/hot_pool/hotpool/config/PoolSettings" "connectionWaitTimeout" "I" (.int (0 : Int32)) := D121 (Or.inl (hw _ (List.mem_of_getElem? (i := 13) rfl))) (ty := .int) (by decide)
        have F121_propertyCycle : Fld Z h121 b121 "com/example/hot_pool/hotpool/config/PoolSettings" "propertyCycle" "I" (.int (0 : Int32)) := D121 (Or.inl (hw _ (List.mem_of_getElem? (i := 15) rfl))) (ty := .int) (by decide)
        have F121_validateOnBorrow : Fld Z h121 b121 "com/example/hot_pool/hotpool/config/PoolSettings" "validateOnBorrow" "Z" (.int (0 : Int32)) := D121 (Or.inl (hw _ (List.mem_of_getElem? (i := 17) rfl))) (ty := .boolean) (by decide)
        have F121_validationTimeout : Fld Z h121 b121 "com/example/hot_pool/hotpool/config/PoolSettings" "validationTimeout" "I" (.int (0 : Int32)) := D121 (Or.inl (hw _ (List.mem_of_getElem? (i := 19) rfl))) (ty := .int) (by decide)
        have F121_validationTrustTime : Fld Z h121 b121 "com/example/hot_pool/hotpool/config/PoolSettings" "validationTrustTime" "I" (.int (0 : Int32)) := D121 (Or.inl (hw _ (List.mem_of_getElem? (i := 21) rfl))) (ty := .int) (by decide)
        have F121_flushAfterFailedValidations : Fld Z h121 b121 "com/example/hot_pool/hotpool/config/PoolSettings" "flushAfterFailedValidations" "I" (.int (0 : Int32)) := D121 (Or.inl (hw _ (List.mem_of_getElem? (i := 23) rfl))) (ty := .int) (by decide)
        have F121_autoCommit : Fld Z h121 b121 "com/example/hot_pool/hotpool/config/PoolSettings" "autoCommit" "Z" (.int (0 : Int32)) := D121 (Or.inl (hw _ (List.mem_of_getElem? (i := 25) rfl))) (ty := .boolean) (by decide)
        have F121_abandonedConnectionTimeout : Fld Z h121 b121 "com/example/hot_pool/hotpool/config/PoolSettings" "abandonedConnectionTimeout" "I" (.int (0 : Int32)) := D121 (Or.inl (hw _ (List.mem_of_getElem? (i := 32) rfl))) (ty := .int) (by decide)
        have F121_borrowTimeToLive : Fld Z h121 b121 "com/example/hot_pool/hotpool/config/PoolSettings" "borrowTimeToLive" "I" (.int (0 : Int32)) := D121 (Or.inl (hw _ (List.mem_of_getElem? (i := 34) rfl))) (ty := .int) (by decide)
        have F121_maxConnectionAge : Fld Z h121 b121 "com/example/hot_pool/hotpool/config/PoolSettings" "maxConnectionAge" "I" (.int (0 : Int32)) := D121 (Or.inl (hw _ (List.mem_of_getElem? (i := 53) rfl))) (ty := .int) (by decide)
        have F121_maxIdleTime : Fld Z h121 b121 "com/example/hot_pool/hotpool/config/PoolSettings" "maxIdleTime" "I" (.int (0 : Int32)) := D121 (Or.inl (hw _ (List.mem_of_getElem? (i := 61) rfl))) (ty := .int) (by decide)
        refine own_st st121 ?_
        show own_Go _ _ _ _ T121 (mkF m 60 #[.val (.int p0), .val (.int p1), .val (.int p2), .val (.int p3), .val (.int (1 : Int32)), .val (.int (1 : Int32)), .val (.int (1 : Int32)), .val (.int (p1 &&& (2147483647 : Int32))), .val (.int (p2 &&& (2147483647 : Int32))), .val (.int (p3 &&& (2147483647 : Int32))), .unset, .unset] [(.ref b121)])
        refine own_st (fun t k => XS.dup X121.here hx rfl (hb hby at_60) rfl rfl k) ?_
        show own_Go _ _ _ _ T121 (mkF m 61 #[.val (.int p0), .val (.int p1), .val (.int p2), .val (.int p3), .val (.int (1 : Int32)), .val (.int (1 : Int32)), .val (.int (1 : Int32)), .val (.int (p1 &&& (2147483647 : Int32))), .val (.int (p2 &&& (2147483647 : Int32))), .val (.int (p3 &&& (2147483647 : Int32))), .unset, .unset] [(.ref b121), (.ref b121)])
        have K0_123 := (K0.ext E121)
        obtain ⟨_, _, ⟨T122, L122, k122, n122⟩, -, X122, ⟨Lc122, hQ122, l122, y122, z122⟩, st122⟩ := X121.specialBack hx (y := (⟨"com/example/hot_pool/hotpool/config/PoolSettings", "<init>", "()V"⟩ : MethodName)) rfl hown (mvT hZ (hw _ (List.mem_of_getElem? (i := 4) rfl))) (mvT hZ (hw _ (List.mem_of_getElem? (i := 5) rfl))) (mvT hZ (hw _ (List.mem_of_getElem? (i := 6) rfl))) (by decide) (backOf (W := 1) (rm1 l Z a0 hw [] b121  h121 n0 (Nat.le_trans Z0 K0_123.1) A121 F121_maxPoolSize F121_connectionWaitTimeout F121_propertyCycle F121_validateOnBorrow F121_validationTimeout F121_validationTrustTime F121_flushAfterFailedValidations F121_autoCommit F121_abandonedConnectionTimeout F121_borrowTimeToLive F121_maxConnectionAge F121_maxIdleTime g_b121) hZ (hw _ (List.mem_of_getElem? (i := 6) rfl)) (hw _ (List.mem_of_getElem? (i := 3) rfl)) (by decide) (by decide)) (g := (mkF m 61 #[.val (.int p0), .val (.int p1), .val (.int p2), .val (.int p3), .val (.int (1 : Int32)), .val (.int (1 : Int32)), .val (.int (1 : Int32)), .val (.int (p1 &&& (2147483647 : Int32))), .val (.int (p2 &&& (2147483647 : Int32))), .val (.int (p3 &&& (2147483647 : Int32))), .unset, .unset] [(.ref b121), (.ref b121)])) rfl (by rw [hml]; rfl) (Steps.refl _) (a := b121) (argsL := []) (rest := [(.ref b121)]) (lenOf pd__28_29V rfl) rfl (by show 2 * 0 + _ ≤ _; exact Nat.le_of_eq rfl) (hb hby at_61) (fun _ _ => ⟨rfl, e121, (by decide : 1 + 0 ≤ _), (by decide : 23 + 0 ≤ _)⟩)
        dsimp only [Pt.U, Pt.locs, Pt.cells, Pt.slots] at X122 l122 y122 z122 st122 hQ122
        subst l122 y122 z122
        obtain ⟨rfl, N122q, K122, G122_0, G122_1, G122_2, G122_3, G122_4, G122_5, G122_6, G122_7, G122_8, G122_9, G122_10, G122_11⟩ := hQ122
        obtain ⟨_, X122, N122⟩ := own_hide X122 (Fr.app N0 N122q)
        refine own_tr st122 ?_
        show own_Go _ _ _ _ T122 (mkF m 64 #[.val (.int p0), .val (.int p1), .val (.int p2), .val (.int p3), .val (.int (1 : Int32)), .val (.int (1 : Int32)), .val (.int (1 : Int32)), .val (.int (p1 &&& (2147483647 : Int32))), .val (.int (p2 &&& (2147483647 : Int32))), .val (.int (p3 &&& (2147483647 : Int32))), .unset, .unset] [(.ref b121)])
        refine own_st (fun t k => XS.astore X122.here hx rfl (hb hby at_64) rfl rfl (l' := #[.val (.int p0), .val (.int p1), .val (.int p2), .val (.int p3), .val (.int (1 : Int32)), .val (.int (1 : Int32)), .val (.int (1 : Int32)), .val (.int (p1 &&& (2147483647 : Int32))), .val (.int (p2 &&& (2147483647 : Int32))), .val (.int (p3 &&& (2147483647 : Int32))), .val (.ref b121), .unset]) rfl k) ?_
        show own_Go _ _ _ _ T122 (mkF m 66 #[.val (.int p0), .val (.int p1), .val (.int p2), .val (.int p3), .val (.int (1 : Int32)), .val (.int (1 : Int32)), .val (.int (1 : Int32)), .val (.int (p1 &&& (2147483647 : Int32))), .val (.int (p2 &&& (2147483647 : Int32))), .val (.int (p3 &&& (2147483647 : Int32))), .val (.ref b121), .unset] [])
        refine own_st (fun t k => XS.iload X122.here hx rfl (hb hby at_66) rfl k) ?_
        show own_Go _ _ _ _ T122 (mkF m 68 #[.val (.int p0), .val (.int p1), .val (.int p2), .val (.int p3), .val (.int (1 : Int32)), .val (.int (1 : Int32)), .val (.int (1 : Int32)), .val (.int (p1 &&& (2147483647 : Int32))), .val (.int (p2 &&& (2147483647 : Int32))), .val (.int (p3 &&& (2147483647 : Int32))), .val (.ref b121), .unset] [(.int (1 : Int32))])
        refine own_st (fun t k => XS.ifNo X122.here hx rfl (hb hby at_68) rfl ((if0 _ _).trans (feq (by decide : ¬ ((1 : Int32) = (0 : Int32)))).1) k) ?_
        show own_Go _ _ _ _ T122 (mkF m 71 #[.val (.int p0), .val (.int p1), .val (.int p2), .val (.int p3), .val (.int (1 : Int32)), .val (.int (1 : Int32)), .val (.int (1 : Int32)), .val (.int (p1 &&& (2147483647 : Int32))), .val (.int (p2 &&& (2147483647 : Int32))), .val (.int (p3 &&& (2147483647 : Int32))), .val (.ref b121), .unset] [])
        refine own_st (fun t k => XS.aload X122.here hx rfl (hb hby at_71) rfl rfl k) ?_
        show own_Go _ _ _ _ T122 (mkF m 73 #[.val (.int p0), .val (.int p1), .val (.int p2), .val (.int p3), .val (.int (1 : Int32)), .val (.int (1 : Int32)), .val (.int (1 : Int32)), .val (.int (p1 &&& (2147483647 : Int32))), .val (.int (p2 &&& (2147483647 : Int32))), .val (.int (p3 &&& (2147483647 : Int32))), .val (.ref b121), .unset] [(.ref b121)])
        refine own_st (fun t k => XS.iload X122.here hx rfl (hb hby at_73) rfl k) ?_
        show own_Go _ _ _ _ T122 (mkF m 75 #[.val (.int p0), .val (.int p1), .val (.int p2), .val (.int p3), .val (.int (1 : Int32)), .val (.int (1 : Int32)), .val (.int (1 : Int32)), .val (.int (p1 &&& (2147483647 : Int32))), .val (.int (p2 &&& (2147483647 : Int32))), .val (.int (p3 &&& (2147483647 : Int32))), .val (.ref b121), .unset] [(.int (p3 &&& (2147483647 : Int32))), (.ref b121)])
        have A121_124 := (A121.keep K122)
        have K0_126 := (K0_123.trans K122 (allS ((Or.inr sz_b121)) all0))
        have hk0_127 := (Nat.le_trans (Nat.le_trans hk0 E121.1) K122.1)
        obtain ⟨cq125, kq125, q125a, q125b, q125c⟩ := isOf hZ rfl A121_124
        obtain ⟨_, _, ⟨T125, L125, k125, n125⟩, -, X125, hs125, hg125, ⟨Lc125, hQ125, l125, y125, z125⟩, st125⟩ := X122.virtualBackS hx (y := (⟨"com/example/hot_pool/hotpool/config/PoolSettings", "setMaxConnectionAge", "(I)V"⟩ : MethodName)) (z := (⟨"com/example/hot_pool/hotpool/config/PoolSettings", "setMaxConnectionAge", "(I)V"⟩ : MethodName)) hown (mvT hZ (hw _ (List.mem_of_getElem? (i := 35) rfl))) (mvT hZ (hw _ (List.mem_of_getElem? (i := 36) rfl))) (notFace_of_selects (args := #[]) (mvT hZ (hw _ (List.mem_of_getElem? (i := 38) rfl)))) (mvT hZ (hw _ (List.mem_of_getElem? (i := 38) rfl))) (mvT hZ (hw _ (List.mem_of_getElem? (i := 37) rfl))) (by decide) (backOfS (W := 0) (rm4 l Z a0 hw [] b121 (p3 &&& (2147483647 : Int32)) (0 : Int32) (0 : Int32) (0 : Int32) (0 : Int32)  T122.heap n0 (Nat.le_trans Z0 K0_126.1) A121_124 G122_10 G122_11 G122_8 G122_9 g_b121 (own_nn _)) hZ (hw _ (List.mem_of_getElem? (i := 39) rfl)) (hw _ (List.mem_of_getElem? (i := 3) rfl)) (by decide) (by decide)) q125a q125c (g := (mkF m 75 #[.val (.int p0), .val (.int p1), .val (.int p2), .val (.int p3), .val (.int (1 : Int32)), .val (.int (1 : Int32)), .val (.int (1 : Int32)), .val (.int (p1 &&& (2147483647 : Int32))), .val (.int (p2 &&& (2147483647 : Int32))), .val (.int (p3 &&& (2147483647 : Int32))), .val (.ref b121), .unset] [(.int (p3 &&& (2147483647 : Int32))), (.ref b121)])) rfl (by rw [hml]; rfl) (Steps.refl _) (argsL := [(.int (p3 &&& (2147483647 : Int32)))]) (rest := []) (lenOf pd__28I_29V rfl) rfl (by show 2 * 0 + _ ≤ _; exact Nat.le_of_eq rfl) (hb hby at_75) (fun _ _ => ⟨rfl, rfl, (by decide : 1 + 2 ≤ _), (by decide : 23 + 68 ≤ _)⟩)
        dsimp only [Pt.U, Pt.locs, Pt.cells, Pt.slots] at X125 l125 y125 z125 st125 hQ125 hs125 hg125
        subst l125 y125 z125
        obtain ⟨rfl, N125q, K125, G125_0, G125_1, G125_2, G125_3⟩ := hQ125
        obtain ⟨_, X125, N125⟩ := own_hide X125 (Fr.app N122 N125q)
        have X125 := own_fold X125
        have hS125 := foldS hS0 hk0_127 hs125 hg125
        have hZ125 : Z.Warmed39 (s.setVm T125.vm).vm := own_wz hZ hs125
        have hown125 : (s.setVm T125.vm).vm.findClass "com/example/hot_pool/hotpool/config/PoolSettingsIsReclaimingPinLaw" = some m.cls := own_wo hown hs125
        refine own_tr st125 ?_
        show own_Go _ _ _ _ T125 (mkF m 78 #[.val (.int p0), .val (.int p1), .val (.int p2), .val (.int p3), .val (.int (1 : Int32)), .val (.int (1 : Int32)), .val (.int (1 : Int32)), .val (.int (p1 &&& (2147483647 : Int32))), .val (.int (p2 &&& (2147483647 : Int32))), .val (.int (p3 &&& (2147483647 : Int32))), .val (.ref b121), .unset] [])
        refine own_st (fun t k => XS.aload X125.here hx rfl (hb hby at_78) rfl rfl k) ?_
        show own_Go _ _ _ _ T125 (mkF m 80 #[.val (.int p0), .val (.int p1), .val (.int p2), .val (.int p3), .val (.int (1 : Int32)), .val (.int (1 : Int32)), .val (.int (1 : Int32)), .val (.int (p1 &&& (2147483647 : Int32))), .val (.int (p2 &&& (2147483647 : Int32))), .val (.int (p3 &&& (2147483647 : Int32))), .val (.ref b121), .unset] [(.ref b121)])
        refine own_st (fun t k => XS.iload X125.here hx rfl (hb hby at_80) rfl k) ?_
        show own_Go _ _ _ _ T125 (mkF m 82 #[.val (.int p0), .val (.int p1), .val (.int p2), .val (.int p3), .val (.int (1 : Int32)), .val (.int (1 : Int32)), .val (.int (1 : Int32)), .val (.int (p1 &&& (2147483647 : Int32))), .val (.int (p2 &&& (2147483647 : Int32))), .val (.int (p3 &&& (2147483647 : Int32))), .val (.ref b121), .unset] [(.int (p3 &&& (2147483647 : Int32))), (.ref b121)])
        have A121_128 := (A121_124.keep K125)
        have K0_130 := (K0_126.trans K125 (allS ((Or.inr sz_b121)) all0))
        obtain ⟨cq129, kq129, q129a, q129b, q129c⟩ := isOf hZ125 rfl A121_128
        obtain ⟨_, _, ⟨T129, L129, k129, n129⟩, -, X129, hs129, hg129, ⟨Lc129, hQ129, l129, y129, z129⟩, st129⟩ := X125.virtualBackS hx (y := (⟨"com/example/hot_pool/hotpool/config/PoolSettings", "setMaxIdleTime", "(I)V"⟩ : MethodName)) (z := (⟨"com/example/hot_pool/hotpool/config/PoolSettings", "setMaxIdleTime", "(I)V"⟩ : MethodName)) hown125 (mvT hZ125 (hw _ (List.mem_of_getElem? (i := 54) rfl))) (mvT hZ125 (hw _ (List.mem_of_getElem? (i := 55) rfl))) (notFace_of_selects (args := #[]) (mvT hZ125 (hw _ (List.mem_of_getElem? (i := 57) rfl)))) (mvT hZ125 (hw _ (List.mem_of_getElem? (i := 57) rfl))) (mvT hZ125 (hw _ (List.mem_of_getElem? (i := 56) rfl))) (by decide) (backOfS (W := 0) (rm6 l Z a0 hw [] b121 (p3 &&& (2147483647 : Int32)) (p3 &&& (2147483647 : Int32)) (0 : Int32) (0 : Int32) (0 : Int32)  T125.heap n0 (Nat.le_trans Z0 K0_130.1) A121_128 G125_0 G125_1 G125_2 G125_3 g_b121 (own_nn _)) hZ125 (hw _ (List.mem_of_getElem? (i := 58) rfl)) (hw _ (List.mem_of_getElem? (i := 3) rfl)) (by decide) (by decide)) q129a q129c (g := (mkF m 82 #[.val (.int p0), .val (.int p1), .val (.int p2), .val (.int p3), .val (.int (1 : Int32)), .val (.int (1 : Int32)), .val (.int (1 : Int32)), .val (.int (p1 &&& (2147483647 : Int32))), .val (.int (p2 &&& (2147483647 : Int32))), .val (.int (p3 &&& (2147483647 : Int32))), .val (.ref b121), .unset] [(.int (p3 &&& (2147483647 : Int32))), (.ref b121)])) rfl (by rw [hml]; rfl) (Steps.refl _) (argsL := [(.int (p3 &&& (2147483647 : Int32)))]) (rest := []) (lenOf pd__28I_29V rfl) rfl (by show 2 * 0 + _ ≤ _; exact Nat.le_of_eq rfl) (hb hby at_82) (fun _ _ => ⟨rfl, rfl, (by decide : 3 + 2 ≤ _), (by decide : 91 + 48 ≤ _)⟩)
        dsimp only [Pt.U, Pt.locs, Pt.cells, Pt.slots] at X129 l129 y129 z129 st129 hQ129 hs129 hg129
        subst l129 y129 z129
        obtain ⟨rfl, N129q, K129, G129_0, G129_1, G129_2, G129_3⟩ := hQ129
        obtain ⟨_, X129, N129⟩ := own_hide X129 (Fr.app N125 N129q)
        have X129 := own_fold X129
        have hS129 := foldS hS125 (Nat.le_refl T125.heap.size) hs129 hg129
        have hZ129 : Z.Warmed39 (s.setVm T129.vm).vm := own_wz hZ125 hs129
        have hown129 : (s.setVm T129.vm).vm.findClass "com/example/hot_pool/hotpool/config/PoolSettingsIsReclaimingPinLaw" = some m.cls := own_wo hown125 hs129
        refine own_tr st129 ?_
        show own_Go _ _ _ _ T129 (mkF m 85 #[.val (.int p0), .val (.int p1), .val (.int p2), .val (.int p3), .val (.int (1 : Int32)), .val (.int (1 : Int32)), .val (.int (1 : Int32)), .val (.int (p1 &&& (2147483647 : Int32))), .val (.int (p2 &&& (2147483647 : Int32))), .val (.int (p3 &&& (2147483647 : Int32))), .val (.ref b121), .unset] [])
        refine own_st (fun t k => XS.iload X129.here hx rfl (hb hby at_85) rfl k) ?_
        show own_Go _ _ _ _ T129 (mkF m 87 #[.val (.int p0), .val (.int p1), .val (.int p2), .val (.int p3), .val (.int (1 : Int32)), .val (.int (1 : Int32)), .val (.int (1 : Int32)), .val (.int (p1 &&& (2147483647 : Int32))), .val (.int (p2 &&& (2147483647 : Int32))), .val (.int (p3 &&& (2147483647 : Int32))), .val (.ref b121), .unset] [(.int (1 : Int32))])
        refine own_st (fun t k => XS.ifNo X129.here hx rfl (hb hby at_87) rfl ((if0 _ _).trans (feq (by decide : ¬ ((1 : Int32) = (0 : Int32)))).1) k) ?_
        show own_Go _ _ _ _ T129 (mkF m 90 #[.val (.int p0), .val (.int p1), .val (.int p2), .val (.int p3), .val (.int (1 : Int32)), .val (.int (1 : Int32)), .val (.int (1 : Int32)), .val (.int (p1 &&& (2147483647 : Int32))), .val (.int (p2 &&& (2147483647 : Int32))), .val (.int (p3 &&& (2147483647 : Int32))), .val (.ref b121), .unset] [])
        refine own_st (fun t k => XS.aload X129.here hx rfl (hb hby at_90) rfl rfl k) ?_
        show own_Go _ _ _ _ T129 (mkF m 92 #[.val (.int p0), .val (.int p1), .val (.int p2), .val (.int p3), .val (.int (1 : Int32)), .val (.int (1 : Int32)), .val (.int (1 : Int32)), .val (.int (p1 &&& (2147483647 : Int32))), .val (.int (p2 &&& (2147483647 : Int32))), .val (.int (p3 &&& (2147483647 : Int32))), .val (.ref b121), .unset] [(.ref b121)])
        refine own_st (fun t k => XS.iload X129.here hx rfl (hb hby at_92) rfl k) ?_
        show own_Go _ _ _ _ T129 (mkF m 94 #[.val (.int p0), .val (.int p1), .val (.int p2), .val (.int p3), .val (.int (1 : Int32)), .val (.int (1 : Int32)), .val (.int (1 : Int32)), .val (.int (p1 &&& (2147483647 : Int32))), .val (.int (p2 &&& (2147483647 : Int32))), .val (.int (p3 &&& (2147483647 : Int32))), .val (.ref b121), .unset] [(.int (p1 &&& (2147483647 : Int32))), (.ref b121)])
        have A121_131 := (A121_128.keep K129)
        have K0_133 := (K0_130.trans K129 (allS ((Or.inr sz_b121)) all0))
        obtain ⟨cq132, kq132, q132a, q132b, q132c⟩ := isOf hZ129 rfl A121_131
        obtain ⟨_, _, ⟨T132, L132, k132, n132⟩, -, X132, hs132, hg132, ⟨Lc132, hQ132, l132, y132, z132⟩, st132⟩ := X129.virtualBackS hx (y := (⟨"com/example/hot_pool/hotpool/config/PoolSettings", "setAbandonedConnectionTimeout", "(I)V"⟩ : MethodName)) (z := (⟨"com/example/hot_pool/hotpool/config/PoolSettings", "setAbandonedConnectionTimeout", "(I)V"⟩ : MethodName)) hown129 (mvT hZ129 (hw _ (List.mem_of_getElem? (i := 62) rfl))) (mvT hZ129 (hw _ (List.mem_of_getElem? (i := 63) rfl))) (notFace_of_selects (args := #[]) (mvT hZ129 (hw _ (List.mem_of_getElem? (i := 65) rfl)))) (mvT hZ129 (hw _ (List.mem_of_getElem? (i := 65) rfl))) (mvT hZ129 (hw _ (List.mem_of_getElem? (i := 64) rfl))) (by decide) (backOfS (W := 0) (rm7 l Z a0 hw [] b121 (p1 &&& (2147483647 : Int32)) (p3 &&& (2147483647 : Int32)) (p3 &&& (2147483647 : Int32)) (0 : Int32) (0 : Int32)  T129.heap n0 (Nat.le_trans Z0 K0_133.1) A121_131 G129_0 G129_1 G129_2 G129_3 g_b121 (own_nn _)) hZ129 (hw _ (List.mem_of_getElem? (i := 66) rfl)) (hw _ (List.mem_of_getElem? (i := 3) rfl)) (by decide) (by decide)) q132a q132c (g := (mkF m 94 #[.val (.int p0), .val (.int p1), .val (.int p2), .val (.int p3), .val (.int (1 : Int32)), .val (.int (1 : Int32)), .val (.int (1 : Int32)), .val (.int (p1 &&& (2147483647 : Int32))), .val (.int (p2 &&& (2147483647 : Int32))), .val (.int (p3 &&& (2147483647 : Int32))), .val (.ref b121), .unset] [(.int (p1 &&& (2147483647 : Int32))), (.ref b121)])) rfl (by rw [hml]; rfl) (Steps.refl _) (argsL := [(.int (p1 &&& (2147483647 : Int32)))]) (rest := []) (lenOf pd__28I_29V rfl) rfl (by show 2 * 0 + _ ≤ _; exact Nat.le_of_eq rfl) (hb hby at_94) (fun _ _ => ⟨rfl, rfl, (by decide : 5 + 2 ≤ _), (by decide : 139 + 108 ≤ _)⟩)
        dsimp only [Pt.U, Pt.locs, Pt.cells, Pt.slots] at X132 l132 y132 z132 st132 hQ132 hs132 hg132
        subst l132 y132 z132
        obtain ⟨rfl, N132q, K132, G132_0, G132_1, G132_2, G132_3⟩ := hQ132
        obtain ⟨_, X132, N132⟩ := own_hide X132 (Fr.app N129 N132q)
        have X132 := own_fold X132
        have hS132 := foldS hS129 (Nat.le_refl T129.heap.size) hs132 hg132
        have hZ132 : Z.Warmed39 (s.setVm T132.vm).vm := own_wz hZ129 hs132
        have hown132 : (s.setVm T132.vm).vm.findClass "com/example/hot_pool/hotpool/config/PoolSettingsIsReclaimingPinLaw" = some m.cls := own_wo hown129 hs132
        refine own_tr st132 ?_
        show own_Go _ _ _ _ T132 (mkF m 97 #[.val (.int p0), .val (.int p1), .val (.int p2), .val (.int p3), .val (.int (1 : Int32)), .val (.int (1 : Int32)), .val (.int (1 : Int32)), .val (.int (p1 &&& (2147483647 : Int32))), .val (.int (p2 &&& (2147483647 : Int32))), .val (.int (p3 &&& (2147483647 : Int32))), .val (.ref b121), .unset] [])
        refine own_st (fun t k => XS.iload X132.here hx rfl (hb hby at_97) rfl k) ?_
        show own_Go _ _ _ _ T132 (mkF m 99 #[.val (.int p0), .val (.int p1), .val (.int p2), .val (.int p3), .val (.int (1 : Int32)), .val (.int (1 : Int32)), .val (.int (1 : Int32)), .val (.int (p1 &&& (2147483647 : Int32))), .val (.int (p2 &&& (2147483647 : Int32))), .val (.int (p3 &&& (2147483647 : Int32))), .val (.ref b121), .unset] [(.int (1 : Int32))])
        refine own_st (fun t k => XS.ifNo X132.here hx rfl (hb hby at_99) rfl ((if0 _ _).trans (feq (by decide : ¬ ((1 : Int32) = (0 : Int32)))).1) k) ?_
        show own_Go _ _ _ _ T132 (mkF m 102 #[.val (.int p0), .val (.int p1), .val (.int p2), .val (.int p3), .val (.int (1 : Int32)), .val (.int (1 : Int32)), .val (.int (1 : Int32)), .val (.int (p1 &&& (2147483647 : Int32))), .val (.int (p2 &&& (2147483647 : Int32))), .val (.int (p3 &&& (2147483647 : Int32))), .val (.ref b121), .unset] [])
        refine own_st (fun t k => XS.aload X132.here hx rfl (hb hby at_102) rfl rfl k) ?_
        show own_Go _ _ _ _ T132 (mkF m 104 #[.val (.int p0), .val (.int p1), .val (.int p2), .val (.int p3), .val (.int (1 : Int32)), .val (.int (1 : Int32)), .val (.int (1 : Int32)), .val (.int (p1 &&& (2147483647 : Int32))), .val (.int (p2 &&& (2147483647 : Int32))), .val (.int (p3 &&& (2147483647 : Int32))), .val (.ref b121), .unset] [(.ref b121)])
        refine own_st (fun t k => XS.iload X132.here hx rfl (hb hby at_104) rfl k) ?_
        show own_Go _ _ _ _ T132 (mkF m 106 #[.val (.int p0), .val (.int p1), .val (.int p2), .val (.int p3), .val (.int (1 : Int32)), .val (.int (1 : Int32)), .val (.int (1 : Int32)), .val (.int (p1 &&& (2147483647 : Int32))), .val (.int (p2 &&& (2147483647 : Int32))), .val (.int (p3 &&& (2147483647 : Int32))), .val (.ref b121), .unset] [(.int (p2 &&& (2147483647 : Int32))), (.ref b121)])
        have A121_134 := (A121_131.keep K132)
        have K0_136 := (K0_133.trans K132 (allS ((Or.inr sz_b121)) all0))
        obtain ⟨cq135, kq135, q135a, q135b, q135c⟩ := isOf hZ132 rfl A121_134
        obtain ⟨_, _, ⟨T135, L135, k135, n135⟩, -, X135, hs135, hg135, ⟨Lc135, hQ135, l135, y135, z135⟩, st135⟩ := X132.virtualBackS hx (y := (⟨"com/example/hot_pool/hotpool/config/PoolSettings", "setBorrowTimeToLive", "(I)V"⟩ : MethodName)) (z := (⟨"com/example/hot_pool/hotpool/config/PoolSettings", "setBorrowTimeToLive", "(I)V"⟩ : MethodName)) hown132 (mvT hZ132 (hw _ (List.mem_of_getElem? (i := 68) rfl))) (mvT hZ132 (hw _ (List.mem_of_getElem? (i := 69) rfl))) (notFace_of_selects (args := #[]) (mvT hZ132 (hw _ (List.mem_of_getElem? (i := 71) rfl)))) (mvT hZ132 (hw _ (List.mem_of_getElem? (i := 71) rfl))) (mvT hZ132 (hw _ (List.mem_of_getElem? (i := 70) rfl))) (by decide) (backOfS (W := 0) (rm8 l Z a0 hw [] b121 (p2 &&& (2147483647 : Int32)) (p3 &&& (2147483647 : Int32)) (p3 &&& (2147483647 : Int32)) (p1 &&& (2147483647 : Int32)) (0 : Int32)  T132.heap n0 (Nat.le_trans Z0 K0_136.1) A121_134 G132_0 G132_1 G132_2 G132_3 g_b121 (own_nn _)) hZ132 (hw _ (List.mem_of_getElem? (i := 72) rfl)) (hw _ (List.mem_of_getElem? (i := 3) rfl)) (by decide) (by decide)) q135a q135c (g := (mkF m 106 #[.val (.int p0), .val (.int p1), .val (.int p2), .val (.int p3), .val (.int (1 : Int32)), .val (.int (1 : Int32)), .val (.int (1 : Int32)), .val (.int (p1 &&& (2147483647 : Int32))), .val (.int (p2 &&& (2147483647 : Int32))), .val (.int (p3 &&& (2147483647 : Int32))), .val (.ref b121), .unset] [(.int (p2 &&& (2147483647 : Int32))), (.ref b121)])) rfl (by rw [hml]; rfl) (Steps.refl _) (argsL := [(.int (p2 &&& (2147483647 : Int32)))]) (rest := []) (lenOf pd__28I_29V rfl) rfl (by show 2 * 0 + _ ≤ _; exact Nat.le_of_eq rfl) (hb hby at_106) (fun _ _ => ⟨rfl, rfl, (by decide : 7 + 2 ≤ _), (by decide : 247 + 68 ≤ _)⟩)
        dsimp only [Pt.U, Pt.locs, Pt.cells, Pt.slots] at X135 l135 y135 z135 st135 hQ135 hs135 hg135
        subst l135 y135 z135
        obtain ⟨rfl, N135q, K135, G135_0, G135_1, G135_2, G135_3⟩ := hQ135
        obtain ⟨_, X135, N135⟩ := own_hide X135 (Fr.app N132 N135q)
        have X135 := own_fold X135
        have hS135 := foldS hS132 (Nat.le_refl T132.heap.size) hs135 hg135
        have hZ135 : Z.Warmed39 (s.setVm T135.vm).vm := own_wz hZ132 hs135
        have hown135 : (s.setVm T135.vm).vm.findClass "com/example/hot_pool/hotpool/config/PoolSettingsIsReclaimingPinLaw" = some m.cls := own_wo hown132 hs135
        refine own_tr st135 ?_
        show own_Go _ _ _ _ T135 (mkF m 109 #[.val (.int p0), .val (.int p1), .val (.int p2), .val (.int p3), .val (.int (1 : Int32)), .val (.int (1 : Int32)), .val (.int (1 : Int32)), .val (.int (p1 &&& (2147483647 : Int32))), .val (.int (p2 &&& (2147483647 : Int32))), .val (.int (p3 &&& (2147483647 : Int32))), .val (.ref b121), .unset] [])
        refine own_st (fun t k => XS.iconst X135.here hx rfl (hb hby at_109) k) ?_
        show own_Go _ _ _ _ T135 (mkF m 110 #[.val (.int p0), .val (.int p1), .val (.int p2), .val (.int p3), .val (.int (1 : Int32)), .val (.int (1 : Int32)), .val (.int (1 : Int32)), .val (.int (p1 &&& (2147483647 : Int32))), .val (.int (p2 &&& (2147483647 : Int32))), .val (.int (p3 &&& (2147483647 : Int32))), .val (.ref b121), .unset] [(.int (0 : Int32))])
        refine own_st (fun t k => XS.istore X135.here hx rfl (hb hby at_110) rfl (l' := #[.val (.int p0), .val (.int p1), .val (.int p2), .val (.int p3), .val (.int (1 : Int32)), .val (.int (1 : Int32)), .val (.int (1 : Int32)), .val (.int (p1 &&& (2147483647 : Int32))), .val (.int (p2 &&& (2147483647 : Int32))), .val (.int (p3 &&& (2147483647 : Int32))), .val (.ref b121), .val (.int (0 : Int32))]) rfl k) ?_
        show own_Go _ _ _ _ T135 (mkF m 112 #[.val (.int p0), .val (.int p1), .val (.int p2), .val (.int p3), .val (.int (1 : Int32)), .val (.int (1 : Int32)), .val (.int (1 : Int32)), .val (.int (p1 &&& (2147483647 : Int32))), .val (.int (p2 &&& (2147483647 : Int32))), .val (.int (p3 &&& (2147483647 : Int32))), .val (.ref b121), .val (.int (0 : Int32))] [])
        refine own_st (fun t k => XS.iload X135.here hx rfl (hb hby at_112) rfl k) ?_
        show own_Go _ _ _ _ T135 (mkF m 114 #[.val (.int p0), .val (.int p1), .val (.int p2), .val (.int p3), .val (.int (1 : Int32)), .val (.int (1 : Int32)), .val (.int (1 : Int32)), .val (.int (p1 &&& (2147483647 : Int32))), .val (.int (p2 &&& (2147483647 : Int32))), .val (.int (p3 &&& (2147483647 : Int32))), .val (.ref b121), .val (.int (0 : Int32))] [(.int (1 : Int32))])
        refine own_st (fun t k => XS.ifNo X135.here hx rfl (hb hby at_114) rfl ((if0 _ _).trans (feq (by decide : ¬ ((1 : Int32) = (0 : Int32)))).1) k) ?_
        show own_Go _ _ _ _ T135 (mkF m 117 #[.val (.int p0), .val (.int p1), .val (.int p2), .val (.int p3), .val (.int (1 : Int32)), .val (.int (1 : Int32)), .val (.int (1 : Int32)), .val (.int (p1 &&& (2147483647 : Int32))), .val (.int (p2 &&& (2147483647 : Int32))), .val (.int (p3 &&& (2147483647 : Int32))), .val (.ref b121), .val (.int (0 : Int32))] [])
        refine own_st (fun t k => XS.iload X135.here hx rfl (hb hby at_117) rfl k) ?_
        show own_Go _ _ _ _ T135 (mkF m 119 #[.val (.int p0), .val (.int p1), .val (.int p2), .val (.int p3), .val (.int (1 : Int32)), .val (.int (1 : Int32)), .val (.int (1 : Int32)), .val (.int (p1 &&& (2147483647 : Int32))), .val (.int (p2 &&& (2147483647 : Int32))), .val (.int (p3 &&& (2147483647 : Int32))), .val (.ref b121), .val (.int (0 : Int32))] [(.int (p1 &&& (2147483647 : Int32)))])
        by_cases c119_137 : (p1 &&& (2147483647 : Int32)) = (0 : Int32)
        ·
          refine own_st (fun t k => XS.ifYes X135.here hx rfl (pc0 := 119) (pc' := 125) rfl (hb hby at_119) rfl ((if0 _ _).trans (teq c119_137).1) (by decide) (by decide) k) ?_
          show own_Go _ _ _ _ T135 (mkF m 125 #[.val (.int p0), .val (.int p1), .val (.int p2), .val (.int p3), .val (.int (1 : Int32)), .val (.int (1 : Int32)), .val (.int (1 : Int32)), .val (.int (p1 &&& (2147483647 : Int32))), .val (.int (p2 &&& (2147483647 : Int32))), .val (.int (p3 &&& (2147483647 : Int32))), .val (.ref b121), .val (.int (0 : Int32))] [])
          refine own_st (fun t k => XS.iload X135.here hx rfl (hb hby at_125) rfl k) ?_
          show own_Go _ _ _ _ T135 (mkF m 127 #[.val (.int p0), .val (.int p1), .val (.int p2), .val (.int p3), .val (.int (1 : Int32)), .val (.int (1 : Int32)), .val (.int (1 : Int32)), .val (.int (p1 &&& (2147483647 : Int32))), .val (.int (p2 &&& (2147483647 : Int32))), .val (.int (p3 &&& (2147483647 : Int32))), .val (.ref b121), .val (.int (0 : Int32))] [(.int (1 : Int32))])
          refine own_st (fun t k => XS.ifNo X135.here hx rfl (hb hby at_127) rfl ((if0 _ _).trans (feq (by decide : ¬ ((1 : Int32) = (0 : Int32)))).1) k) ?_
          show own_Go _ _ _ _ T135 (mkF m 130 #[.val (.int p0), .val (.int p1), .val (.int p2), .val (.int p3), .val (.int (1 : Int32)), .val (.int (1 : Int32)), .val (.int (1 : Int32)), .val (.int (p1 &&& (2147483647 : Int32))), .val (.int (p2 &&& (2147483647 : Int32))), .val (.int (p3 &&& (2147483647 : Int32))), .val (.ref b121), .val (.int (0 : Int32))] [])
          refine own_st (fun t k => XS.iload X135.here hx rfl (hb hby at_130) rfl k) ?_
          show own_Go _ _ _ _ T135 (mkF m 132 #[.val (.int p0), .val (.int p1), .val (.int p2), .val (.int p3), .val (.int (1 : Int32)), .val (.int (1 : Int32)), .val (.int (1 : Int32)), .val (.int (p1 &&& (2147483647 : Int32))), .val (.int (p2 &&& (2147483647 : Int32))), .val (.int (p3 &&& (2147483647 : Int32))), .val (.ref b121), .val (.int (0 : Int32))] [(.int (p2 &&& (2147483647 : Int32)))])
          by_cases c132_138 : (p2 &&& (2147483647 : Int32)) = (0 : Int32)
          ·
            refine own_st (fun t k => XS.ifYes X135.here hx rfl (pc0 := 132) (pc' := 138) rfl (hb hby at_132) rfl ((if0 _ _).trans (teq c132_138).1) (by decide) (by decide) k) ?_
            show own_Go _ _ _ _ T135 (mkF m 138 #[.val (.int p0), .val (.int p1), .val (.int p2), .val (.int p3), .val (.int (1 : Int32)), .val (.int (1 : Int32)), .val (.int (1 : Int32)), .val (.int (p1 &&& (2147483647 : Int32))), .val (.int (p2 &&& (2147483647 : Int32))), .val (.int (p3 &&& (2147483647 : Int32))), .val (.ref b121), .val (.int (0 : Int32))] [])
            refine own_st (fun t k => XS.aload X135.here hx rfl (hb hby at_138) rfl rfl k) ?_
            show own_Go _ _ _ _ T135 (mkF m 140 #[.val (.int p0), .val (.int p1), .val (.int p2), .val (.int p3), .val (.int (1 : Int32)), .val (.int (1 : Int32)), .val (.int (1 : Int32)), .val (.int (p1 &&& (2147483647 : Int32))), .val (.int (p2 &&& (2147483647 : Int32))), .val (.int (p3 &&& (2147483647 : Int32))), .val (.ref b121), .val (.int (0 : Int32))] [(.ref b121)])
            have K0_140 := (K0_136.trans K135 (allS ((Or.inr sz_b121)) all0))
            have A121_141 := (A121_134.keep K135)
            obtain ⟨cq139, kq139, q139a, q139b, q139c⟩ := isOf hZ135 rfl A121_141
            obtain ⟨_, _, ⟨T139, L139, k139, n139⟩, -, X139, ⟨Lc139, hQ139, l139, y139, z139⟩, st139⟩ := X135.virtualBack hx (y := (⟨"com/example/hot_pool/hotpool/config/PoolSettings", "isReclaiming", "()Z"⟩ : MethodName)) (z := (⟨"com/example/hot_pool/hotpool/config/PoolSettings", "isReclaiming", "()Z"⟩ : MethodName)) hown135 (mvT hZ135 (hw _ (List.mem_of_getElem? (i := 26) rfl))) (mvT hZ135 (hw _ (List.mem_of_getElem? (i := 27) rfl))) (notFace_of_selects (args := #[]) (mvT hZ135 (hw _ (List.mem_of_getElem? (i := 29) rfl)))) (mvT hZ135 (hw _ (List.mem_of_getElem? (i := 29) rfl))) (mvT hZ135 (hw _ (List.mem_of_getElem? (i := 28) rfl))) (by decide) (backOf (W := 0) (rm3 l Z a0 hw [] b121 (p1 &&& (2147483647 : Int32)) (p2 &&& (2147483647 : Int32))  T135.heap n0 (Nat.le_trans Z0 K0_140.1) G135_2 G135_3) hZ135 (hw _ (List.mem_of_getElem? (i := 30) rfl)) (hw _ (List.mem_of_getElem? (i := 3) rfl)) (by decide) (by decide)) q139a q139c (g := (mkF m 140 #[.val (.int p0), .val (.int p1), .val (.int p2), .val (.int p3), .val (.int (1 : Int32)), .val (.int (1 : Int32)), .val (.int (1 : Int32)), .val (.int (p1 &&& (2147483647 : Int32))), .val (.int (p2 &&& (2147483647 : Int32))), .val (.int (p3 &&& (2147483647 : Int32))), .val (.ref b121), .val (.int (0 : Int32))] [(.ref b121)])) rfl (by rw [hml]; rfl) (Steps.refl _) (argsL := []) (rest := []) (lenOf pd__28_29Z rfl) rfl (by show 2 * 0 + _ ≤ _; exact Nat.le_of_eq rfl) (hb hby at_140) (fun _ _ => ⟨rfl, rfl, (by decide : 9 + 0 ≤ _), (by decide : 315 + 0 ≤ _)⟩)
            dsimp only [Pt.U, Pt.locs, Pt.cells, Pt.slots] at X139 l139 y139 z139 st139 hQ139
            subst l139 y139 z139
            obtain ⟨rfl, N139q, e139⟩ := hQ139
            obtain ⟨_, X139, N139⟩ := own_hide X139 (Fr.app N135 N139q)
            refine own_tr st139 ?_
            show own_Go _ _ _ _ T139 (mkF m 143 #[.val (.int p0), .val (.int p1), .val (.int p2), .val (.int p3), .val (.int (1 : Int32)), .val (.int (1 : Int32)), .val (.int (1 : Int32)), .val (.int (p1 &&& (2147483647 : Int32))), .val (.int (p2 &&& (2147483647 : Int32))), .val (.int (p3 &&& (2147483647 : Int32))), .val (.ref b121), .val (.int (0 : Int32))] [(.int (own_r (p1 &&& (2147483647 : Int32)) (p2 &&& (2147483647 : Int32))))])
            refine own_st (fun t k => XS.iload X139.here hx rfl (hb hby at_143) rfl k) ?_
            show own_Go _ _ _ _ T139 (mkF m 145 #[.val (.int p0), .val (.int p1), .val (.int p2), .val (.int p3), .val (.int (1 : Int32)), .val (.int (1 : Int32)), .val (.int (1 : Int32)), .val (.int (p1 &&& (2147483647 : Int32))), .val (.int (p2 &&& (2147483647 : Int32))), .val (.int (p3 &&& (2147483647 : Int32))), .val (.ref b121), .val (.int (0 : Int32))] [(.int (0 : Int32)), (.int (own_r (p1 &&& (2147483647 : Int32)) (p2 &&& (2147483647 : Int32))))])
            refine own_st (fun t k => XS.icmpNo X139.here hx rfl (hb hby at_145) rfl (teq (own_r_0 (own_mz c119_137) (own_mz c132_138) : (own_r (p1 &&& (2147483647 : Int32)) (p2 &&& (2147483647 : Int32))) = (0 : Int32))).2 k) ?_
            show own_Go _ _ _ _ T139 (mkF m 148 #[.val (.int p0), .val (.int p1), .val (.int p2), .val (.int p3), .val (.int (1 : Int32)), .val (.int (1 : Int32)), .val (.int (1 : Int32)), .val (.int (p1 &&& (2147483647 : Int32))), .val (.int (p2 &&& (2147483647 : Int32))), .val (.int (p3 &&& (2147483647 : Int32))), .val (.ref b121), .val (.int (0 : Int32))] [])
            refine own_st (fun t k => XS.iconst X139.here hx rfl (hb hby at_148) k) ?_
            show own_Go _ _ _ _ T139 (mkF m 149 #[.val (.int p0), .val (.int p1), .val (.int p2), .val (.int p3), .val (.int (1 : Int32)), .val (.int (1 : Int32)), .val (.int (1 : Int32)), .val (.int (p1 &&& (2147483647 : Int32))), .val (.int (p2 &&& (2147483647 : Int32))), .val (.int (p3 &&& (2147483647 : Int32))), .val (.ref b121), .val (.int (0 : Int32))] [(.int (1 : Int32))])
            refine own_st (fun t k => XS.goto X139.here hx rfl (pc0 := 149) (pc' := 153) rfl (hb hby at_149) (by decide) (by decide) k) ?_
            show own_Go _ _ _ _ T139 (mkF m 153 #[.val (.int p0), .val (.int p1), .val (.int p2), .val (.int p3), .val (.int (1 : Int32)), .val (.int (1 : Int32)), .val (.int (1 : Int32)), .val (.int (p1 &&& (2147483647 : Int32))), .val (.int (p2 &&& (2147483647 : Int32))), .val (.int (p3 &&& (2147483647 : Int32))), .val (.ref b121), .val (.int (0 : Int32))] [(.int (1 : Int32))])
            exact own_retNW X139 hS135 (by rw [e139]; exact (Nat.le_refl T135.heap.size)) hx hlk (t := .boolean) hrt (by simp) (hb hby at_153) ⟨rfl, N139⟩ (by decide) (by decide)
          ·
            refine own_st (fun t k => XS.ifNo X135.here hx rfl (hb hby at_132) rfl ((if0 _ _).trans (feq c132_138).1) k) ?_
            show own_Go _ _ _ _ T135 (mkF m 135 #[.val (.int p0), .val (.int p1), .val (.int p2), .val (.int p3), .val (.int (1 : Int32)), .val (.int (1 : Int32)), .val (.int (1 : Int32)), .val (.int (p1 &&& (2147483647 : Int32))), .val (.int (p2 &&& (2147483647 : Int32))), .val (.int (p3 &&& (2147483647 : Int32))), .val (.ref b121), .val (.int (0 : Int32))] [])
            refine own_st (fun t k => XS.iconst X135.here hx rfl (hb hby at_135) k) ?_
            show own_Go _ _ _ _ T135 (mkF m 136 #[.val (.int p0), .val (.int p1), .val (.int p2), .val (.int p3), .val (.int (1 : Int32)), .val (.int (1 : Int32)), .val (.int (1 : Int32)), .val (.int (p1 &&& (2147483647 : Int32))), .val (.int (p2 &&& (2147483647 : Int32))), .val (.int (p3 &&& (2147483647 : Int32))), .val (.ref b121), .val (.int (0 : Int32))] [(.int (1 : Int32))])
            refine own_st (fun t k => XS.istore X135.here hx rfl (hb hby at_136) rfl (l' := #[.val (.int p0), .val (.int p1), .val (.int p2), .val (.int p3), .val (.int (1 : Int32)), .val (.int (1 : Int32)), .val (.int (1 : Int32)), .val (.int (p1 &&& (2147483647 : Int32))), .val (.int (p2 &&& (2147483647 : Int32))), .val (.int (p3 &&& (2147483647 : Int32))), .val (.ref b121), .val (.int (1 : Int32))]) rfl k) ?_
            show own_Go _ _ _ _ T135 (mkF m 138 #[.val (.int p0), .val (.int p1), .val (.int p2), .val (.int p3), .val (.int (1 : Int32)), .val (.int (1 : Int32)), .val (.int (1 : Int32)), .val (.int (p1 &&& (2147483647 : Int32))), .val (.int (p2 &&& (2147483647 : Int32))), .val (.int (p3 &&& (2147483647 : Int32))), .val (.ref b121), .val (.int (1 : Int32))] [])
            refine own_st (fun t k => XS.aload X135.here hx rfl (hb hby at_138) rfl rfl k) ?_
            show own_Go _ _ _ _ T135 (mkF m 140 #[.val (.int p0), .val (.int p1), .val (.int p2), .val (.int p3), .val (.int (1 : Int32)), .val (.int (1 : Int32)), .val (.int (1 : Int32)), .val (.int (p1 &&& (2147483647 : Int32))), .val (.int (p2 &&& (2147483647 : Int32))), .val (.int (p3 &&& (2147483647 : Int32))), .val (.ref b121), .val (.int (1 : Int32))] [(.ref b121)])
            have K0_143 := (K0_136.trans K135 (allS ((Or.inr sz_b121)) all0))
            have A121_144 := (A121_134.keep K135)
            obtain ⟨cq142, kq142, q142a, q142b, q142c⟩ := isOf hZ135 rfl A121_144
            obtain ⟨_, _, ⟨T142, L142, k142, n142⟩, -, X142, ⟨Lc142, hQ142, l142, y142, z142⟩, st142⟩ := X135.virtualBack hx (y := (⟨"com/example/hot_pool/hotpool/config/PoolSettings", "isReclaiming", "()Z"⟩ : MethodName)) (z := (⟨"com/example/hot_pool/hotpool/config/PoolSettings", "isReclaiming", "()Z"⟩ : MethodName)) hown135 (mvT hZ135 (hw _ (List.mem_of_getElem? (i := 26) rfl))) (mvT hZ135 (hw _ (List.mem_of_getElem? (i := 27) rfl))) (notFace_of_selects (args := #[]) (mvT hZ135 (hw _ (List.mem_of_getElem? (i := 29) rfl)))) (mvT hZ135 (hw _ (List.mem_of_getElem? (i := 29) rfl))) (mvT hZ135 (hw _ (List.mem_of_getElem? (i := 28) rfl))) (by decide) (backOf (W := 0) (rm3 l Z a0 hw [] b121 (p1 &&& (2147483647 : Int32)) (p2 &&& (2147483647 : Int32))  T135.heap n0 (Nat.le_trans Z0 K0_143.1) G135_2 G135_3) hZ135 (hw _ (List.mem_of_getElem? (i := 30) rfl)) (hw _ (List.mem_of_getElem? (i := 3) rfl)) (by decide) (by decide)) q142a q142c (g := (mkF m 140 #[.val (.int p0), .val (.int p1), .val (.int p2), .val (.int p3), .val (.int (1 : Int32)), .val (.int (1 : Int32)), .val (.int (1 : Int32)), .val (.int (p1 &&& (2147483647 : Int32))), .val (.int (p2 &&& (2147483647 : Int32))), .val (.int (p3 &&& (2147483647 : Int32))), .val (.ref b121), .val (.int (1 : Int32))] [(.ref b121)])) rfl (by rw [hml]; rfl) (Steps.refl _) (argsL := []) (rest := []) (lenOf pd__28_29Z rfl) rfl (by show 2 * 0 + _ ≤ _; exact Nat.le_of_eq rfl) (hb hby at_140) (fun _ _ => ⟨rfl, rfl, (by decide : 9 + 0 ≤ _), (by decide : 315 + 0 ≤ _)⟩)
            dsimp only [Pt.U, Pt.locs, Pt.cells, Pt.slots] at X142 l142 y142 z142 st142 hQ142
            subst l142 y142 z142
            obtain ⟨rfl, N142q, e142⟩ := hQ142
            obtain ⟨_, X142, N142⟩ := own_hide X142 (Fr.app N135 N142q)
            refine own_tr st142 ?_
            show own_Go _ _ _ _ T142 (mkF m 143 #[.val (.int p0), .val (.int p1), .val (.int p2), .val (.int p3), .val (.int (1 : Int32)), .val (.int (1 : Int32)), .val (.int (1 : Int32)), .val (.int (p1 &&& (2147483647 : Int32))), .val (.int (p2 &&& (2147483647 : Int32))), .val (.int (p3 &&& (2147483647 : Int32))), .val (.ref b121), .val (.int (1 : Int32))] [(.int (own_r (p1 &&& (2147483647 : Int32)) (p2 &&& (2147483647 : Int32))))])
            refine own_st (fun t k => XS.iload X142.here hx rfl (hb hby at_143) rfl k) ?_
            show own_Go _ _ _ _ T142 (mkF m 145 #[.val (.int p0), .val (.int p1), .val (.int p2), .val (.int p3), .val (.int (1 : Int32)), .val (.int (1 : Int32)), .val (.int (1 : Int32)), .val (.int (p1 &&& (2147483647 : Int32))), .val (.int (p2 &&& (2147483647 : Int32))), .val (.int (p3 &&& (2147483647 : Int32))), .val (.ref b121), .val (.int (1 : Int32))] [(.int (1 : Int32)), (.int (own_r (p1 &&& (2147483647 : Int32)) (p2 &&& (2147483647 : Int32))))])
            refine own_st (fun t k => XS.icmpNo X142.here hx rfl (hb hby at_145) rfl (teq (own_r_b (own_mz c119_137) (own_mp c132_138) : (own_r (p1 &&& (2147483647 : Int32)) (p2 &&& (2147483647 : Int32))) = (1 : Int32))).2 k) ?_
            show own_Go _ _ _ _ T142 (mkF m 148 #[.val (.int p0), .val (.int p1), .val (.int p2), .val (.int p3), .val (.int (1 : Int32)), .val (.int (1 : Int32)), .val (.int (1 : Int32)), .val (.int (p1 &&& (2147483647 : Int32))), .val (.int (p2 &&& (2147483647 : Int32))), .val (.int (p3 &&& (2147483647 : Int32))), .val (.ref b121), .val (.int (1 : Int32))] [])
            refine own_st (fun t k => XS.iconst X142.here hx rfl (hb hby at_148) k) ?_
            show own_Go _ _ _ _ T142 (mkF m 149 #[.val (.int p0), .val (.int p1), .val (.int p2), .val (.int p3), .val (.int (1 : Int32)), .val (.int (1 : Int32)), .val (.int (1 : Int32)), .val (.int (p1 &&& (2147483647 : Int32))), .val (.int (p2 &&& (2147483647 : Int32))), .val (.int (p3 &&& (2147483647 : Int32))), .val (.ref b121), .val (.int (1 : Int32))] [(.int (1 : Int32))])
            refine own_st (fun t k => XS.goto X142.here hx rfl (pc0 := 149) (pc' := 153) rfl (hb hby at_149) (by decide) (by decide) k) ?_
            show own_Go _ _ _ _ T142 (mkF m 153 #[.val (.int p0), .val (.int p1), .val (.int p2), .val (.int p3), .val (.int (1 : Int32)), .val (.int (1 : Int32)), .val (.int (1 : Int32)), .val (.int (p1 &&& (2147483647 : Int32))), .val (.int (p2 &&& (2147483647 : Int32))), .val (.int (p3 &&& (2147483647 : Int32))), .val (.ref b121), .val (.int (1 : Int32))] [(.int (1 : Int32))])
            exact own_retNW X142 hS135 (by rw [e142]; exact (Nat.le_refl T135.heap.size)) hx hlk (t := .boolean) hrt (by simp) (hb hby at_153) ⟨rfl, N142⟩ (by decide) (by decide)
        ·
          refine own_st (fun t k => XS.ifNo X135.here hx rfl (hb hby at_119) rfl ((if0 _ _).trans (feq c119_137).1) k) ?_
          show own_Go _ _ _ _ T135 (mkF m 122 #[.val (.int p0), .val (.int p1), .val (.int p2), .val (.int p3), .val (.int (1 : Int32)), .val (.int (1 : Int32)), .val (.int (1 : Int32)), .val (.int (p1 &&& (2147483647 : Int32))), .val (.int (p2 &&& (2147483647 : Int32))), .val (.int (p3 &&& (2147483647 : Int32))), .val (.ref b121), .val (.int (0 : Int32))] [])
          refine own_st (fun t k => XS.iconst X135.here hx rfl (hb hby at_122) k) ?_
          show own_Go _ _ _ _ T135 (mkF m 123 #[.val (.int p0), .val (.int p1), .val (.int p2), .val (.int p3), .val (.int (1 : Int32)), .val (.int (1 : Int32)), .val (.int (1 : Int32)), .val (.int (p1 &&& (2147483647 : Int32))), .val (.int (p2 &&& (2147483647 : Int32))), .val (.int (p3 &&& (2147483647 : Int32))), .val (.ref b121), .val (.int (0 : Int32))] [(.int (1 : Int32))])
          refine own_st (fun t k => XS.istore X135.here hx rfl (hb hby at_123) rfl (l' := #[.val (.int p0), .val (.int p1), .val (.int p2), .val (.int p3), .val (.int (1 : Int32)), .val (.int (1 : Int32)), .val (.int (1 : Int32)), .val (.int (p1 &&& (2147483647 : Int32))), .val (.int (p2 &&& (2147483647 : Int32))), .val (.int (p3 &&& (2147483647 : Int32))), .val (.ref b121), .val (.int (1 : Int32))]) rfl k) ?_
          show own_Go _ _ _ _ T135 (mkF m 125 #[.val (.int p0), .val (.int p1), .val (.int p2), .val (.int p3), .val (.int (1 : Int32)), .val (.int (1 : Int32)), .val (.int (1 : Int32)), .val (.int (p1 &&& (2147483647 : Int32))), .val (.int (p2 &&& (2147483647 : Int32))), .val (.int (p3 &&& (2147483647 : Int32))), .val (.ref b121), .val (.int (1 : Int32))] [])
          refine own_st (fun t k => XS.iload X135.here hx rfl (hb hby at_125) rfl k) ?_
          show own_Go _ _ _ _ T135 (mkF m 127 #[.val (.int p0), .val (.int p1), .val (.int p2), .val (.int p3), .val (.int (1 : Int32)), .val (.int (1 : Int32)), .val (.int (1 : Int32)), .val (.int (p1 &&& (2147483647 : Int32))), .val (.int (p2 &&& (2147483647 : Int32))), .val (.int (p3 &&& (2147483647 : Int32))), .val (.ref b121), .val (.int (1 : Int32))] [(.int (1 : Int32))])
          refine own_st (fun t k => XS.ifNo X135.here hx rfl (hb hby at_127) rfl ((if0 _ _).trans (feq (by decide : ¬ ((1 : Int32) = (0 : Int32)))).1) k) ?_
          show own_Go _ _ _ _ T135 (mkF m 130 #[.val (.int p0), .val (.int p1), .val (.int p2), .val (.int p3), .val (.int (1 : Int32)), .val (.int (1 : Int32)), .val (.int (1 : Int32)), .val (.int (p1 &&& (2147483647 : Int32))), .val (.int (p2 &&& (2147483647 : Int32))), .val (.int (p3 &&& (2147483647 : Int32))), .val (.ref b121), .val (.int (1 : Int32))] [])
          refine own_st (fun t k => XS.iload X135.here hx rfl (hb hby at_130) rfl k) ?_
          show own_Go _ _ _ _ T135 (mkF m 132 #[.val (.int p0), .val (.int p1), .val (.int p2), .val (.int p3), .val (.int (1 : Int32)), .val (.int (1 : Int32)), .val (.int (1 : Int32)), .val (.int (p1 &&& (2147483647 : Int32))), .val (.int (p2 &&& (2147483647 : Int32))), .val (.int (p3 &&& (2147483647 : Int32))), .val (.ref b121), .val (.int (1 : Int32))] [(.int (p2 &&& (2147483647 : Int32)))])
          by_cases c132_145 : (p2 &&& (2147483647 : Int32)) = (0 : Int32)
          ·
            refine own_st (fun t k => XS.ifYes X135.here hx rfl (pc0 := 132) (pc' := 138) rfl (hb hby at_132) rfl ((if0 _ _).trans (teq c132_145).1) (by decide) (by decide) k) ?_
            show own_Go _ _ _ _ T135 (mkF m 138 #[.val (.int p0), .val (.int p1), .val (.int p2), .val (.int p3), .val (.int (1 : Int32)), .val (.int (1 : Int32)), .val (.int (1 : Int32)), .val (.int (p1 &&& (2147483647 : Int32))), .val (.int (p2 &&& (2147483647 : Int32))), .val (.int (p3 &&& (2147483647 : Int32))), .val (.ref b121), .val (.int (1 : Int32))] [])
            refine own_st (fun t k => XS.aload X135.here hx rfl (hb hby at_138) rfl rfl k) ?_
            show own_Go _ _ _ _ T135 (mkF m 140 #[.val (.int p0), .val (.int p1), .val (.int p2), .val (.int p3), .val (.int (1 : Int32)), .val (.int (1 : Int32)), .val (.int (1 : Int32)), .val (.int (p1 &&& (2147483647 : Int32))), .val (.int (p2 &&& (2147483647 : Int32))), .val (.int (p3 &&& (2147483647 : Int32))), .val (.ref b121), .val (.int (1 : Int32))] [(.ref b121)])
            have K0_147 := (K0_136.trans K135 (allS ((Or.inr sz_b121)) all0))
            have A121_148 := (A121_134.keep K135)
            obtain ⟨cq146, kq146, q146a, q146b, q146c⟩ := isOf hZ135 rfl A121_148
            obtain ⟨_, _, ⟨T146, L146, k146, n146⟩, -, X146, ⟨Lc146, hQ146, l146, y146, z146⟩, st146⟩ := X135.virtualBack hx (y := (⟨"com/example/hot_pool/hotpool/config/PoolSettings", "isReclaiming", "()Z"⟩ : MethodName)) (z := (⟨"com/example/hot_pool/hotpool/config/PoolSettings", "isReclaiming", "()Z"⟩ : MethodName)) hown135 (mvT hZ135 (hw _ (List.mem_of_getElem? (i := 26) rfl))) (mvT hZ135 (hw _ (List.mem_of_getElem? (i := 27) rfl))) (notFace_of_selects (args := #[]) (mvT hZ135 (hw _ (List.mem_of_getElem? (i := 29) rfl)))) (mvT hZ135 (hw _ (List.mem_of_getElem? (i := 29) rfl))) (mvT hZ135 (hw _ (List.mem_of_getElem? (i := 28) rfl))) (by decide) (backOf (W := 0) (rm3 l Z a0 hw [] b121 (p1 &&& (2147483647 : Int32)) (p2 &&& (2147483647 : Int32))  T135.heap n0 (Nat.le_trans Z0 K0_147.1) G135_2 G135_3) hZ135 (hw _ (List.mem_of_getElem? (i := 30) rfl)) (hw _ (List.mem_of_getElem? (i := 3) rfl)) (by decide) (by decide)) q146a q146c (g := (mkF m 140 #[.val (.int p0), .val (.int p1), .val (.int p2), .val (.int p3), .val (.int (1 : Int32)), .val (.int (1 : Int32)), .val (.int (1 : Int32)), .val (.int (p1 &&& (2147483647 : Int32))), .val (.int (p2 &&& (2147483647 : Int32))), .val (.int (p3 &&& (2147483647 : Int32))), .val (.ref b121), .val (.int (1 : Int32))] [(.ref b121)])) rfl (by rw [hml]; rfl) (Steps.refl _) (argsL := []) (rest := []) (lenOf pd__28_29Z rfl) rfl (by show 2 * 0 + _ ≤ _; exact Nat.le_of_eq rfl) (hb hby at_140) (fun _ _ => ⟨rfl, rfl, (by decide : 9 + 0 ≤ _), (by decide : 315 + 0 ≤ _)⟩)
            dsimp only [Pt.U, Pt.locs, Pt.cells, Pt.slots] at X146 l146 y146 z146 st146 hQ146
            subst l146 y146 z146
            obtain ⟨rfl, N146q, e146⟩ := hQ146
            obtain ⟨_, X146, N146⟩ := own_hide X146 (Fr.app N135 N146q)
            refine own_tr st146 ?_
            show own_Go _ _ _ _ T146 (mkF m 143 #[.val (.int p0), .val (.int p1), .val (.int p2), .val (.int p3), .val (.int (1 : Int32)), .val (.int (1 : Int32)), .val (.int (1 : Int32)), .val (.int (p1 &&& (2147483647 : Int32))), .val (.int (p2 &&& (2147483647 : Int32))), .val (.int (p3 &&& (2147483647 : Int32))), .val (.ref b121), .val (.int (1 : Int32))] [(.int (own_r (p1 &&& (2147483647 : Int32)) (p2 &&& (2147483647 : Int32))))])
            refine own_st (fun t k => XS.iload X146.here hx rfl (hb hby at_143) rfl k) ?_
            show own_Go _ _ _ _ T146 (mkF m 145 #[.val (.int p0), .val (.int p1), .val (.int p2), .val (.int p3), .val (.int (1 : Int32)), .val (.int (1 : Int32)), .val (.int (1 : Int32)), .val (.int (p1 &&& (2147483647 : Int32))), .val (.int (p2 &&& (2147483647 : Int32))), .val (.int (p3 &&& (2147483647 : Int32))), .val (.ref b121), .val (.int (1 : Int32))] [(.int (1 : Int32)), (.int (own_r (p1 &&& (2147483647 : Int32)) (p2 &&& (2147483647 : Int32))))])
            refine own_st (fun t k => XS.icmpNo X146.here hx rfl (hb hby at_145) rfl (teq (own_r_a (own_mp c119_137) : (own_r (p1 &&& (2147483647 : Int32)) (p2 &&& (2147483647 : Int32))) = (1 : Int32))).2 k) ?_
            show own_Go _ _ _ _ T146 (mkF m 148 #[.val (.int p0), .val (.int p1), .val (.int p2), .val (.int p3), .val (.int (1 : Int32)), .val (.int (1 : Int32)), .val (.int (1 : Int32)), .val (.int (p1 &&& (2147483647 : Int32))), .val (.int (p2 &&& (2147483647 : Int32))), .val (.int (p3 &&& (2147483647 : Int32))), .val (.ref b121), .val (.int (1 : Int32))] [])
            refine own_st (fun t k => XS.iconst X146.here hx rfl (hb hby at_148) k) ?_
            show own_Go _ _ _ _ T146 (mkF m 149 #[.val (.int p0), .val (.int p1), .val (.int p2), .val (.int p3), .val (.int (1 : Int32)), .val (.int (1 : Int32)), .val (.int (1 : Int32)), .val (.int (p1 &&& (2147483647 : Int32))), .val (.int (p2 &&& (2147483647 : Int32))), .val (.int (p3 &&& (2147483647 : Int32))), .val (.ref b121), .val (.int (1 : Int32))] [(.int (1 : Int32))])
            refine own_st (fun t k => XS.goto X146.here hx rfl (pc0 := 149) (pc' := 153) rfl (hb hby at_149) (by decide) (by decide) k) ?_
            show own_Go _ _ _ _ T146 (mkF m 153 #[.val (.int p0), .val (.int p1), .val (.int p2), .val (.int p3), .val (.int (1 : Int32)), .val (.int (1 : Int32)), .val (.int (1 : Int32)), .val (.int (p1 &&& (2147483647 : Int32))), .val (.int (p2 &&& (2147483647 : Int32))), .val (.int (p3 &&& (2147483647 : Int32))), .val (.ref b121), .val (.int (1 : Int32))] [(.int (1 : Int32))])
            exact own_retNW X146 hS135 (by rw [e146]; exact (Nat.le_refl T135.heap.size)) hx hlk (t := .boolean) hrt (by simp) (hb hby at_153) ⟨rfl, N146⟩ (by decide) (by decide)
          ·
            refine own_st (fun t k => XS.ifNo X135.here hx rfl (hb hby at_132) rfl ((if0 _ _).trans (feq c132_145).1) k) ?_
            show own_Go _ _ _ _ T135 (mkF m 135 #[.val (.int p0), .val (.int p1), .val (.int p2), .val (.int p3), .val (.int (1 : Int32)), .val (.int (1 : Int32)), .val (.int (1 : Int32)), .val (.int (p1 &&& (2147483647 : Int32))), .val (.int (p2 &&& (2147483647 : Int32))), .val (.int (p3 &&& (2147483647 : Int32))), .val (.ref b121), .val (.int (1 : Int32))] [])
            refine own_st (fun t k => XS.iconst X135.here hx rfl (hb hby at_135) k) ?_
            show own_Go _ _ _ _ T135 (mkF m 136 #[.val (.int p0), .val (.int p1), .val (.int p2), .val (.int p3), .val (.int (1 : Int32)), .val (.int (1 : Int32)), .val (.int (1 : Int32)), .val (.int (p1 &&& (2147483647 : Int32))), .val (.int (p2 &&& (2147483647 : Int32))), .val (.int (p3 &&& (2147483647 : Int32))), .val (.ref b121), .val (.int (1 : Int32))] [(.int (1 : Int32))])
            refine own_st (fun t k => XS.istore X135.here hx rfl (hb hby at_136) rfl (l' := #[.val (.int p0), .val (.int p1), .val (.int p2), .val (.int p3), .val (.int (1 : Int32)), .val (.int (1 : Int32)), .val (.int (1 : Int32)), .val (.int (p1 &&& (2147483647 : Int32))), .val (.int (p2 &&& (2147483647 : Int32))), .val (.int (p3 &&& (2147483647 : Int32))), .val (.ref b121), .val (.int (1 : Int32))]) rfl k) ?_
            show own_Go _ _ _ _ T135 (mkF m 138 #[.val (.int p0), .val (.int p1), .val (.int p2), .val (.int p3), .val (.int (1 : Int32)), .val (.int (1 : Int32)), .val (.int (1 : Int32)), .val (.int (p1 &&& (2147483647 : Int32))), .val (.int (p2 &&& (2147483647 : Int32))), .val (.int (p3 &&& (2147483647 : Int32))), .val (.ref b121), .val (.int (1 : Int32))] [])
            refine own_st (fun t k => XS.aload X135.here hx rfl (hb hby at_138) rfl rfl k) ?_
            show own_Go _ _ _ _ T135 (mkF m 140 #[.val (.int p0), .val (.int p1), .val (.int p2), .val (.int p3), .val (.int (1 : Int32)), .val (.int (1 : Int32)), .val (.int (1 : Int32)), .val (.int (p1 &&& (2147483647 : Int32))), .val (.int (p2 &&& (2147483647 : Int32))), .val (.int (p3 &&& (2147483647 : Int32))), .val (.ref b121), .val (.int (1 : Int32))] [(.ref b121)])
            have K0_150 := (K0_136.trans K135 (allS ((Or.inr sz_b121)) all0))
            have A121_151 := (A121_134.keep K135)
            obtain ⟨cq149, kq149, q149a, q149b, q149c⟩ := isOf hZ135 rfl A121_151
            obtain ⟨_, _, ⟨T149, L149, k149, n149⟩, -, X149, ⟨Lc149, hQ149, l149, y149, z149⟩, st149⟩ := X135.virtualBack hx (y := (⟨"com/example/hot_pool/hotpool/config/PoolSettings", "isReclaiming", "()Z"⟩ : MethodName)) (z := (⟨"com/example/hot_pool/hotpool/config/PoolSettings", "isReclaiming", "()Z"⟩ : MethodName)) hown135 (mvT hZ135 (hw _ (List.mem_of_getElem? (i := 26) rfl))) (mvT hZ135 (hw _ (List.mem_of_getElem? (i := 27) rfl))) (notFace_of_selects (args := #[]) (mvT hZ135 (hw _ (List.mem_of_getElem? (i := 29) rfl)))) (mvT hZ135 (hw _ (List.mem_of_getElem? (i := 29) rfl))) (mvT hZ135 (hw _ (List.mem_of_getElem? (i := 28) rfl))) (by decide) (backOf (W := 0) (rm3 l Z a0 hw [] b121 (p1 &&& (2147483647 : Int32)) (p2 &&& (2147483647 : Int32))  T135.heap n0 (Nat.le_trans Z0 K0_150.1) G135_2 G135_3) hZ135 (hw _ (List.mem_of_getElem? (i := 30) rfl)) (hw _ (List.mem_of_getElem? (i := 3) rfl)) (by decide) (by decide)) q149a q149c (g := (mkF m 140 #[.val (.int p0), .val (.int p1), .val (.int p2), .val (.int p3), .val (.int (1 : Int32)), .val (.int (1 : Int32)), .val (.int (1 : Int32)), .val (.int (p1 &&& (2147483647 : Int32))), .val (.int (p2 &&& (2147483647 : Int32))), .val (.int (p3 &&& (2147483647 : Int32))), .val (.ref b121), .val (.int (1 : Int32))] [(.ref b121)])) rfl (by rw [hml]; rfl) (Steps.refl _) (argsL := []) (rest := []) (lenOf pd__28_29Z rfl) rfl (by show 2 * 0 + _ ≤ _; exact Nat.le_of_eq rfl) (hb hby at_140) (fun _ _ => ⟨rfl, rfl, (by decide : 9 + 0 ≤ _), (by decide : 315 + 0 ≤ _)⟩)
            dsimp only [Pt.U, Pt.locs, Pt.cells, Pt.slots] at X149 l149 y149 z149 st149 hQ149
            subst l149 y149 z149
            obtain ⟨rfl, N149q, e149⟩ := hQ149
            obtain ⟨_, X149, N149⟩ := own_hide X149 (Fr.app N135 N149q)
            refine own_tr st149 ?_
            show own_Go _ _ _ _ T149 (mkF m 143 #[.val (.int p0), .val (.int p1), .val (.int p2), .val (.int p3), .val (.int (1 : Int32)), .val (.int (1 : Int32)), .val (.int (1 : Int32)), .val (.int (p1 &&& (2147483647 : Int32))), .val (.int (p2 &&& (2147483647 : Int32))), .val (.int (p3 &&& (2147483647 : Int32))), .val (.ref b121), .val (.int (1 : Int32))] [(.int (own_r (p1 &&& (2147483647 : Int32)) (p2 &&& (2147483647 : Int32))))])
            refine own_st (fun t k => XS.iload X149.here hx rfl (hb hby at_143) rfl k) ?_
            show own_Go _ _ _ _ T149 (mkF m 145 #[.val (.int p0), .val (.int p1), .val (.int p2), .val (.int p3), .val (.int (1 : Int32)), .val (.int (1 : Int32)), .val (.int (1 : Int32)), .val (.int (p1 &&& (2147483647 : Int32))), .val (.int (p2 &&& (2147483647 : Int32))), .val (.int (p3 &&& (2147483647 : Int32))), .val (.ref b121), .val (.int (1 : Int32))] [(.int (1 : Int32)), (.int (own_r (p1 &&& (2147483647 : Int32)) (p2 &&& (2147483647 : Int32))))])
            refine own_st (fun t k => XS.icmpNo X149.here hx rfl (hb hby at_145) rfl (teq (own_r_a (own_mp c119_137) : (own_r (p1 &&& (2147483647 : Int32)) (p2 &&& (2147483647 : Int32))) = (1 : Int32))).2 k) ?_
            show own_Go _ _ _ _ T149 (mkF m 148 #[.val (.int p0), .val (.int p1), .val (.int p2), .val (.int p3), .val (.int (1 : Int32)), .val (.int (1 : Int32)), .val (.int (1 : Int32)), .val (.int (p1 &&& (2147483647 : Int32))), .val (.int (p2 &&& (2147483647 : Int32))), .val (.int (p3 &&& (2147483647 : Int32))), .val (.ref b121), .val (.int (1 : Int32))] [])
            refine own_st (fun t k => XS.iconst X149.here hx rfl (hb hby at_148) k) ?_
            show own_Go _ _ _ _ T149 (mkF m 149 #[.val (.int p0), .val (.int p1), .val (.int p2), .val (.int p3), .val (.int (1 : Int32)), .val (.int (1 : Int32)), .val (.int (1 : Int32)), .val (.int (p1 &&& (2147483647 : Int32))), .val (.int (p2 &&& (2147483647 : Int32))), .val (.int (p3 &&& (2147483647 : Int32))), .val (.ref b121), .val (.int (1 : Int32))] [(.int (1 : Int32))])
            refine own_st (fun t k => XS.goto X149.here hx rfl (pc0 := 149) (pc' := 153) rfl (hb hby at_149) (by decide) (by decide) k) ?_
            show own_Go _ _ _ _ T149 (mkF m 153 #[.val (.int p0), .val (.int p1), .val (.int p2), .val (.int p3), .val (.int (1 : Int32)), .val (.int (1 : Int32)), .val (.int (1 : Int32)), .val (.int (p1 &&& (2147483647 : Int32))), .val (.int (p2 &&& (2147483647 : Int32))), .val (.int (p3 &&& (2147483647 : Int32))), .val (.ref b121), .val (.int (1 : Int32))] [(.int (1 : Int32))])
            exact own_retNW X149 hS135 (by rw [e149]; exact (Nat.le_refl T135.heap.size)) hx hlk (t := .boolean) hrt (by simp) (hb hby at_153) ⟨rfl, N149⟩ (by decide) (by decide)
set_option maxRecDepth 65536 in
set_option maxHeartbeats 40000000 in
theorem comes_1 {Post : Tables → Env → Array Value → State → Outcome → State → Prop} (hpost : ∀ tb e args s v u, (limb_1_1.after args s (.returned v) u = true ∧ limb_1_2.after args s (.returned v) u = true ∧ True) → ReturnedEndW s (.returned v) u (Jvm.fieldLocs frame_1_writes args s ++ Jvm.arrayLocs frame_1_arrays args s ++ Jvm.staticLocs frame_1_statics s) 24 4224 → Post tb e args s (.returned v) u) :
    ArmFor flags0 classFile x code maxLocals ret World_1 tables_1 room_1 Calls_1 rest_1 Pre_1 Post := by
  intro l hfl _ _ p e ha hc hk s m args below hf hA hF happ hP
  obtain ⟨hcalls, hrest, hpre⟩ := hP
  obtain ⟨-, -, -, hnamed, -, -, -, hat⟩ := (Spec.applies_iff hf).mp happ
  obtain ⟨hg, hn⟩ := and_e (Cond.before_iff.mp (show (Jvm.Cond.and given_1 narrow_1).before args s = true from hpre))
  obtain ⟨gc, gr0⟩ := and_e hg
  obtain ⟨ga0, gr1⟩ := and_e gr0
  obtain ⟨ga1, gr2⟩ := and_e gr1
  obtain ⟨ga2, gr3⟩ := and_e gr2
  obtain ⟨w0, w1, w2, w3, rfl⟩ : ∃ w0 w1 w2 w3 : Value, args = #[w0, w1, w2, w3] := by
    have hs : args.size = 4 := by simpa [Cond.value, given_1] using gc
    obtain ⟨L⟩ := args
    match L, hs with
    | [w0, w1, w2, w3], _ => exact ⟨w0, w1, w2, w3, rfl⟩
  have hw := fun d (hd : d ∈ tables_1) => atoms_spec (ws := Jvm.Cond.code x code maxLocals ret :: tables_1) hat d (List.mem_cons_of_mem _ hd)
  have hfit : Fit s := fun {y c} hc i hi => by
    obtain ⟨ha, rfl⟩ := Array.getElem?_eq_some_iff.mp hc
    have q := List.all_eq_true.mp ((Array.all_eq_true_iff_forall_mem.mp hF) _ (Array.getElem_mem ha)) i (List.mem_range.mpr hi)
    simpa [Array.getElem?_eq_getElem hi] using q
  obtain ⟨i0, ei0⟩ := is_v ga0
  obtain rfl : w0 = (.int i0) := Option.some.inj ei0
  obtain ⟨i1, ei1⟩ := is_v ga1
  obtain rfl : w1 = (.int i1) := Option.some.inj ei1
  obtain ⟨i2, ei2⟩ := is_v ga2
  obtain rfl : w2 = (.int i2) := Option.some.inj ei2
  obtain ⟨i3, ei3⟩ := is_v gr3
  obtain rfl : w3 = (.int i3) := Option.some.inj ei3
  obtain ⟨n, o, h1, h2, h3, _, L, rfl, ⟨rfl, N⟩, hq⟩ := rm0 l s _ hw tables_1 i0 i1 i2 i3  s.heap s.heap.size (Nat.le_refl _)  p e ha hc hk s m _ below hf ((Spec.applies_iff_loose hf).mp happ).1 ⟨rfl, State.Warmed39.refl s, rfl⟩ trivial
  refine ⟨n, _, h1, h2, h3, hpost _ _ _ _ _ _ ⟨Cond.after_iff.mpr rfl, Cond.after_iff.mpr (eq_i res_at (Term.int_eval (1)) rfl), trivial⟩ ⟨hq.1, hq.2.1, hq.2.2.1, (hq.2.2.2.sift fun y hy => Or.inr (N y hy)).mono (by decide) (by decide)⟩⟩
theorem main_1_1 : Claimed_1_1 := comes_1 fun _ _ _ _ _ _ h hF => ⟨h.1, hF⟩
theorem main_1_2 : Claimed_1_2 := comes_1 fun _ _ _ _ _ _ h hF => ⟨h.2.1, hF⟩
end Jvm.Pilot.@@N@@
namespace Jvm.Pilot.@@N@@
open Jvm Jvm.ClassFile Sem Op Lib Jvm.Free Jvm.Stand Jvm.Pilot.@@N@@.Jvm.D
/-! MADE BY PROGRAM (witnessworld.py) out of the Statement's table words and the real class files: 15 classes; the members and pool entries that the words name. The judged class is class 1, her method 1. -/
namespace start1
open Jvm.ClassFile
def u (s : String) : CpInfo := .utf8 (stringToUtf16 s)
/-- a pool by its gaps: so many unusable entries, then the entry; so many at the end -/
def gap : Nat → List CpInfo → List CpInfo
  | 0, r => r
  | n + 1, r => .unusable :: gap n r
def poolList (es : List (Nat × CpInfo)) (last : Nat) : List CpInfo := es.foldr (fun e r => gap e.1 (e.2 :: r)) (gap last [])
def pool (es : List (Nat × CpInfo)) (last : Nat) : Array CpInfo := ⟨poolList es last⟩
def fileOf (pool : Array CpInfo) (this : Nat) (attrs : Array Attribute := #[]) (ms : Array MethodInfo := #[]) (fl : Nat := 33) (sup : Nat := 0) (ifs : Array Nat := #[]) (fds : Array FieldInfo := #[]) : ClassFile where
  minorVersion := 0
  majorVersion := 65
  constantPool := pool
  accessFlags := fl
  thisClass := this
  superClass := sup
  interfaces := ifs
  fields := fds
  methods := ms
  attributes := attrs
def plain (name : String) (sup : Option ClassId) : Class where
  name := name
  kind := .ordinary
  loader := none
  accessFlags := 33
  super := sup
  interfaces := #[]
  cf := none
  fields := #[]
  methods := #[]
  instanceTypes := #[]
  staticTypes := #[]
  resolved := #[]
  callSites := []
  init := .initialized
  statics := none
  mirror := none

def pool0 : Array CpInfo := pool [(5, u "<init>"), (0, u "()V"), (1, .class_ 10), (1, u "java/lang/Object")] 113

def k0c0 : Code := { maxStack := 0, maxLocals := 1, code := object_method_1_code, exceptionTable := #[], attributes := #[] }
def k0m0 : Method := { name := "<init>", desc := "()V", sig := { parameters := [], returnType := none }, accessFlags := 1, code := some k0c0 }
/-- java/lang/Object -/
def k0 : Class := { plain "java/lang/Object" none with
  accessFlags := 33
  interfaces := #[]
  cf := some (fileOf pool0 8 #[] #[{ accessFlags := 1, nameIndex := 5, descriptorIndex := 6, attributes := #[] }] 33 0 #[] #[])
  fields := #[]
  methods := #[k0m0]
  instanceTypes := #[]
  staticTypes := #[]
  resolved := Array.replicate 124 none
  statics := none }

def pool1 : Array CpInfo := pool [(2, .class_ 4), (0, .nameAndType 5 6), (0, u "java/lang/Object"), (0, u "<init>"), (0, u "()V"), (0, .integer 2147483647), (0, .class_ 9), (0, u "com/example/hot_pool/hotpool/config/PoolSettings"), (0, .methodref 8 3), (0, .methodref 8 12), (0, .nameAndType 13 14), (0, u "setMaxConnectionAge"), (0, u "(I)V"), (0, .methodref 8 16), (0, .nameAndType 17 14), (0, u "setMaxIdleTime"), (0, .methodref 8 19), (0, .nameAndType 20 14), (0, u "setAbandonedConnectionTimeout"), (0, .methodref 8 22), (0, .nameAndType 23 14), (0, u "setBorrowTimeToLive"), (0, .methodref 8 25), (0, .nameAndType 26 27), (0, u "isReclaiming"), (0, u "()Z"), (0, .class_ 29), (0, u "com/example/hot_pool/hotpool/config/PoolSettingsIsReclaimingPinLaw"), (2, u "law"), (0, u "(IIII)Z")] 3

def k1m0 : Method := { name := "<init>", desc := "()V", sig := { parameters := [], returnType := none }, accessFlags := 2, code := none }
def k1c1 : Code := { maxStack := 2, maxLocals := 12, code := code, exceptionTable := #[], attributes := #[] }
def k1m1 : Method := { name := "law", desc := "(IIII)Z", sig := { parameters := [.int, .int, .int, .int], returnType := some .boolean }, accessFlags := 9, code := some k1c1 }
/-- com/example/hot_pool/hotpool/config/PoolSettingsIsReclaimingPinLaw -/
def k1 : Class := { plain "com/example/hot_pool/hotpool/config/PoolSettingsIsReclaimingPinLaw" (some 0) with
  accessFlags := 49
  interfaces := #[]
  cf := some (fileOf pool1 28 #[] #[{ accessFlags := 2, nameIndex := 5, descriptorIndex := 6, attributes := #[] }, { accessFlags := 9, nameIndex := 32, descriptorIndex := 33, attributes := #[] }] 49 2 #[] #[])
  fields := #[]
  methods := #[k1m0, k1m1]
  instanceTypes := #[]
  staticTypes := #[]
  resolved := Array.replicate 37 none
  statics := none }

def pool2 : Array CpInfo := pool [(1, .methodref 2 3), (0, .class_ 4), (0, .nameAndType 5 6), (0, u "java/lang/Object"), (0, u "<init>"), (0, u "()V"), (0, .fieldref 8 9), (0, .class_ 10), (0, .nameAndType 11 12), (0, u "com/example/hot_pool/hotpool/config/PoolSettings"), (0, u "maxPoolSize"), (0, u "I"), (0, .fieldref 8 14), (0, .nameAndType 15 12), (0, u "connectionWaitTimeout"), (0, .fieldref 8 17), (0, .nameAndType 18 12), (0, u "propertyCycle"), (0, .fieldref 8 20), (0, .nameAndType 21 22), (0, u "validateOnBorrow"), (0, u "Z"), (0, .fieldref 8 24), (0, .nameAndType 25 12), (0, u "validationTimeout"), (0, .fieldref 8 27), (0, .nameAndType 28 12), (0, u "validationTrustTime"), (0, .fieldref 8 30), (0, .nameAndType 31 12), (0, u "flushAfterFailedValidations"), (0, .fieldref 8 33), (0, .nameAndType 34 22), (0, u "autoCommit"), (2, u "initialPoolSize"), (1, .methodref 40 41), (0, .class_ 42), (0, .nameAndType 43 44), (0, u "com/example/hot_pool/hotpool/config/Settings"), (0, u "requireNonNegative"), (0, u "(Ljava/lang/String;I)I"), (2, u "minPoolSize"), (3, .fieldref 8 52), (0, .nameAndType 53 12), (0, u "maxIdleTime"), (0, .string 53), (6, u "validationQuery"), (0, u "Ljava/lang/String;"), (9, u "disableAfterFailedCreations"), (1, .fieldref 8 75), (0, .nameAndType 76 12), (0, u "maxConnectionAge"), (0, .string 76), (2, u "maxConnectionUses"), (1, .fieldref 8 83), (0, .nameAndType 84 12), (0, u "abandonedConnectionTimeout"), (0, .string 84), (0, .fieldref 8 87), (0, .nameAndType 88 12), (0, u "borrowTimeToLive"), (0, .string 88), (2, u "maxStatementsPerConnection"), (3, u "transactionIsolation"), (9, u "readOnly"), (2, u "catalog"), (2, u "schema"), (2, u "connectionInitSql"), (17, u "()Z"), (5, u "(I)V"), (7, u "setMaxIdleTime"), (17, u "setMaxConnectionAge"), (3, u "setAbandonedConnectionTimeout"), (1, u "setBorrowTimeToLive"), (15, u "isReclaiming")] 21

def k2c0 : Code := { maxStack := 2, maxLocals := 1, code := prog_5_method_1_code, exceptionTable := #[], attributes := #[] }
def k2m0 : Method := { name := "<init>", desc := "()V", sig := { parameters := [], returnType := none }, accessFlags := 1, code := some k2c0 }
def k2c1 : Code := { maxStack := 3, maxLocals := 2, code := prog_5_method_11_code, exceptionTable := #[], attributes := #[] }
def k2m1 : Method := { name := "setMaxIdleTime", desc := "(I)V", sig := { parameters := [.int], returnType := none }, accessFlags := 1, code := some k2c1 }
def k2c2 : Code := { maxStack := 3, maxLocals := 2, code := prog_5_method_27_code, exceptionTable := #[], attributes := #[] }
def k2m2 : Method := { name := "setMaxConnectionAge", desc := "(I)V", sig := { parameters := [.int], returnType := none }, accessFlags := 1, code := some k2c2 }
def k2c3 : Code := { maxStack := 3, maxLocals := 2, code := prog_5_method_31_code, exceptionTable := #[], attributes := #[] }
def k2m3 : Method := { name := "setAbandonedConnectionTimeout", desc := "(I)V", sig := { parameters := [.int], returnType := none }, accessFlags := 1, code := some k2c3 }
def k2c4 : Code := { maxStack := 3, maxLocals := 2, code := prog_5_method_33_code, exceptionTable := #[], attributes := #[] }
def k2m4 : Method := { name := "setBorrowTimeToLive", desc := "(I)V", sig := { parameters := [.int], returnType := none }, accessFlags := 1, code := some k2c4 }
def k2c5 : Code := { maxStack := 1, maxLocals := 1, code := prog_5_method_49_code, exceptionTable := #[], attributes := #[] }
def k2m5 : Method := { name := "isReclaiming", desc := "()Z", sig := { parameters := [], returnType := some .boolean }, accessFlags := 1, code := some k2c5 }
/-- com/example/hot_pool/hotpool/config/PoolSettings -/
def k2 : Class := { plain "com/example/hot_pool/hotpool/config/PoolSettings" (some 0) with
  accessFlags := 49
  interfaces := #[]
  cf := some (fileOf pool2 8 #[] #[{ accessFlags := 1, nameIndex := 5, descriptorIndex := 6, attributes := #[] }, { accessFlags := 1, nameIndex := 147, descriptorIndex := 139, attributes := #[] }, { accessFlags := 1, nameIndex := 165, descriptorIndex := 139, attributes := #[] }, { accessFlags := 1, nameIndex := 169, descriptorIndex := 139, attributes := #[] }, { accessFlags := 1, nameIndex := 171, descriptorIndex := 139, attributes := #[] }, { accessFlags := 1, nameIndex := 187, descriptorIndex := 133, attributes := #[] }] 49 2 #[] #[{ accessFlags := 66, nameIndex := 37, descriptorIndex := 12, attributes := #[] }, { accessFlags := 66, nameIndex := 47, descriptorIndex := 12, attributes := #[] }, { accessFlags := 66, nameIndex := 11, descriptorIndex := 12, attributes := #[] }, { accessFlags := 66, nameIndex := 15, descriptorIndex := 12, attributes := #[] }, { accessFlags := 66, nameIndex := 53, descriptorIndex := 12, attributes := #[] }, { accessFlags := 66, nameIndex := 18, descriptorIndex := 12, attributes := #[] }, { accessFlags := 66, nameIndex := 21, descriptorIndex := 22, attributes := #[] }, { accessFlags := 66, nameIndex := 61, descriptorIndex := 62, attributes := #[] }, { accessFlags := 66, nameIndex := 25, descriptorIndex := 12, attributes := #[] }, { accessFlags := 66, nameIndex := 28, descriptorIndex := 12, attributes := #[] }, { accessFlags := 66, nameIndex := 31, descriptorIndex := 12, attributes := #[] }, { accessFlags := 66, nameIndex := 72, descriptorIndex := 12, attributes := #[] }, { accessFlags := 66, nameIndex := 76, descriptorIndex := 12, attributes := #[] }, { accessFlags := 66, nameIndex := 80, descriptorIndex := 12, attributes := #[] }, { accessFlags := 66, nameIndex := 84, descriptorIndex := 12, attributes := #[] }, { accessFlags := 66, nameIndex := 88, descriptorIndex := 12, attributes := #[] }, { accessFlags := 66, nameIndex := 92, descriptorIndex := 12, attributes := #[] }, { accessFlags := 66, nameIndex := 34, descriptorIndex := 22, attributes := #[] }, { accessFlags := 66, nameIndex := 96, descriptorIndex := 62, attributes := #[] }, { accessFlags := 66, nameIndex := 106, descriptorIndex := 22, attributes := #[] }, { accessFlags := 66, nameIndex := 109, descriptorIndex := 62, attributes := #[] }, { accessFlags := 66, nameIndex := 112, descriptorIndex := 62, attributes := #[] }, { accessFlags := 66, nameIndex := 115, descriptorIndex := 62, attributes := #[] }])
  fields := #[{ name := "initialPoolSize", type := .int, accessFlags := 66, slot := 0, constantValue := 0 }, { name := "minPoolSize", type := .int, accessFlags := 66, slot := 1, constantValue := 0 }, { name := "maxPoolSize", type := .int, accessFlags := 66, slot := 2, constantValue := 0 }, { name := "connectionWaitTimeout", type := .int, accessFlags := 66, slot := 3, constantValue := 0 }, { name := "maxIdleTime", type := .int, accessFlags := 66, slot := 4, constantValue := 0 }, { name := "propertyCycle", type := .int, accessFlags := 66, slot := 5, constantValue := 0 }, { name := "validateOnBorrow", type := .boolean, accessFlags := 66, slot := 6, constantValue := 0 }, { name := "validationQuery", type := (.object "java/lang/String"), accessFlags := 66, slot := 7, constantValue := 0 }, { name := "validationTimeout", type := .int, accessFlags := 66, slot := 8, constantValue := 0 }, { name := "validationTrustTime", type := .int, accessFlags := 66, slot := 9, constantValue := 0 }, { name := "flushAfterFailedValidations", type := .int, accessFlags := 66, slot := 10, constantValue := 0 }, { name := "disableAfterFailedCreations", type := .int, accessFlags := 66, slot := 11, constantValue := 0 }, { name := "maxConnectionAge", type := .int, accessFlags := 66, slot := 12, constantValue := 0 }, { name := "maxConnectionUses", type := .int, accessFlags := 66, slot := 13, constantValue := 0 }, { name := "abandonedConnectionTimeout", type := .int, accessFlags := 66, slot := 14, constantValue := 0 }, { name := "borrowTimeToLive", type := .int, accessFlags := 66, slot := 15, constantValue := 0 }, { name := "maxStatementsPerConnection", type := .int, accessFlags := 66, slot := 16, constantValue := 0 }, { name := "autoCommit", type := .boolean, accessFlags := 66, slot := 17, constantValue := 0 }, { name := "transactionIsolation", type := (.object "java/lang/String"), accessFlags := 66, slot := 18, constantValue := 0 }, { name := "readOnly", type := .boolean, accessFlags := 66, slot := 19, constantValue := 0 }, { name := "catalog", type := (.object "java/lang/String"), accessFlags := 66, slot := 20, constantValue := 0 }, { name := "schema", type := (.object "java/lang/String"), accessFlags := 66, slot := 21, constantValue := 0 }, { name := "connectionInitSql", type := (.object "java/lang/String"), accessFlags := 66, slot := 22, constantValue := 0 }]
  methods := #[k2m0, k2m1, k2m2, k2m3, k2m4, k2m5]
  instanceTypes := #[.int, .int, .int, .int, .int, .int, .boolean, (.object "java/lang/String"), .int, .int, .int, .int, .int, .int, .int, .int, .int, .boolean, (.object "java/lang/String"), .boolean, (.object "java/lang/String"), (.object "java/lang/String"), (.object "java/lang/String")]
  staticTypes := #[]
  resolved := Array.replicate 209 none
  statics := none }

def pool3 : Array CpInfo := pool [(1, .class_ 2), (0, u "java/io/Serializable"), (0, .class_ 4), (0, u "java/lang/Object")] 2

/-- java/io/Serializable -/
def k3 : Class := { plain "java/io/Serializable" (some 0) with
  accessFlags := 1537
  interfaces := #[]
  cf := some (fileOf pool3 1 #[] #[] 1537 3 #[] #[])
  fields := #[]
  methods := #[]
  instanceTypes := #[]
  staticTypes := #[]
  resolved := Array.replicate 7 none
  statics := none }

def pool4 : Array CpInfo := pool [(1, .class_ 2), (0, u "java/lang/Comparable"), (0, .class_ 4), (0, u "java/lang/Object")] 7

/-- java/lang/Comparable -/
def k4 : Class := { plain "java/lang/Comparable" (some 0) with
  accessFlags := 1537
  interfaces := #[]
  cf := some (fileOf pool4 1 #[] #[] 1537 3 #[] #[])
  fields := #[]
  methods := #[]
  instanceTypes := #[]
  staticTypes := #[]
  resolved := Array.replicate 12 none
  statics := none }

def pool5 : Array CpInfo := pool [(2, .class_ 4), (1, u "java/lang/CharSequence"), (42, .class_ 48), (0, u "java/lang/CharSequence$1CodePointIterator"), (10, .class_ 60), (0, u "java/lang/CharSequence$1CharIterator"), (5, .class_ 67), (0, u "java/lang/Object")] 63

/-- java/lang/CharSequence -/
def k5 : Class := { plain "java/lang/CharSequence" (some 0) with
  accessFlags := 1537
  interfaces := #[]
  cf := some (fileOf pool5 2 #[.nestMembers #[47, 59]] #[] 1537 66 #[] #[])
  fields := #[]
  methods := #[]
  instanceTypes := #[]
  staticTypes := #[]
  resolved := Array.replicate 131 none
  statics := none }

def pool6 : Array CpInfo := pool [(1, .class_ 2), (0, u "java/lang/constant/Constable"), (0, .class_ 4), (0, u "java/lang/Object")] 6

/-- java/lang/constant/Constable -/
def k6 : Class := { plain "java/lang/constant/Constable" (some 0) with
  accessFlags := 1537
  interfaces := #[]
  cf := some (fileOf pool6 1 #[] #[] 1537 3 #[] #[])
  fields := #[]
  methods := #[]
  instanceTypes := #[]
  staticTypes := #[]
  resolved := Array.replicate 11 none
  statics := none }

def pool7 : Array CpInfo := pool [(1, .class_ 2), (0, u "java/lang/constant/ConstantDesc"), (0, .class_ 4), (0, u "java/lang/Object")] 32

/-- java/lang/constant/ConstantDesc -/
def k7 : Class := { plain "java/lang/constant/ConstantDesc" (some 0) with
  accessFlags := 1537
  interfaces := #[]
  cf := some (fileOf pool7 1 #[] #[] 1537 3 #[] #[])
  fields := #[]
  methods := #[]
  instanceTypes := #[]
  staticTypes := #[]
  resolved := Array.replicate 37 none
  statics := none }

def pool8 : Array CpInfo := pool [(2, .class_ 4), (1, u "java/lang/Object"), (0, u "<init>"), (0, u "()V"), (3, .class_ 12), (1, u "java/lang/String"), (0, u "value"), (0, u "[B"), (2, u "coder"), (0, u "B"), (2, u "hash"), (0, u "I"), (2, u "hashIsZero"), (0, u "Z"), (13, u "COMPACT_STRINGS"), (534, .class_ 576), (0, u "java/lang/CharSequence"), (22, u "CASE_INSENSITIVE_ORDER"), (0, u "Ljava/util/Comparator;"), (500, u "serialPersistentFields"), (0, u "[Ljava/io/ObjectStreamField;"), (0, .class_ 1104), (0, u "java/lang/String$CaseInsensitiveComparator"), (1, .class_ 1107), (0, u "java/io/Serializable"), (0, .class_ 1109), (0, u "java/lang/Comparable"), (0, .class_ 1111), (0, u "java/lang/constant/Constable"), (0, .class_ 1113), (0, u "java/lang/constant/ConstantDesc"), (2, u "serialVersionUID"), (0, u "J"), (3, u "REPL"), (0, u "C"), (2, u "LATIN1"), (1, u "UTF16")] 323

def k8m0 : Method := { name := "<init>", desc := "()V", sig := { parameters := [], returnType := none }, accessFlags := 1, code := none }
/-- java/lang/String -/
def k8 : Class := { plain "java/lang/String" (some 0) with
  accessFlags := 49
  interfaces := #[3, 4, 5, 6, 7]
  cf := some (fileOf pool8 10 #[.nestMembers #[1103]] #[{ accessFlags := 1, nameIndex := 5, descriptorIndex := 6, attributes := #[] }] 49 2 #[1106, 1108, 575, 1110, 1112] #[{ accessFlags := 18, nameIndex := 13, descriptorIndex := 14, attributes := #[] }, { accessFlags := 18, nameIndex := 17, descriptorIndex := 18, attributes := #[] }, { accessFlags := 2, nameIndex := 21, descriptorIndex := 22, attributes := #[] }, { accessFlags := 2, nameIndex := 25, descriptorIndex := 26, attributes := #[] }, { accessFlags := 26, nameIndex := 1116, descriptorIndex := 1117, attributes := #[] }, { accessFlags := 24, nameIndex := 40, descriptorIndex := 26, attributes := #[] }, { accessFlags := 26, nameIndex := 1101, descriptorIndex := 1102, attributes := #[] }, { accessFlags := 26, nameIndex := 1121, descriptorIndex := 1122, attributes := #[] }, { accessFlags := 25, nameIndex := 599, descriptorIndex := 600, attributes := #[] }, { accessFlags := 24, nameIndex := 1125, descriptorIndex := 18, attributes := #[] }, { accessFlags := 24, nameIndex := 1127, descriptorIndex := 18, attributes := #[] }])
  fields := #[{ name := "value", type := (.array .byte), accessFlags := 18, slot := 0, constantValue := 0 }, { name := "coder", type := .byte, accessFlags := 18, slot := 1, constantValue := 0 }, { name := "hash", type := .int, accessFlags := 2, slot := 2, constantValue := 0 }, { name := "hashIsZero", type := .boolean, accessFlags := 2, slot := 3, constantValue := 0 }, { name := "serialVersionUID", type := .long, accessFlags := 26, slot := 0, constantValue := 0 }, { name := "COMPACT_STRINGS", type := .boolean, accessFlags := 24, slot := 1, constantValue := 0 }, { name := "serialPersistentFields", type := (.array (.object "java/io/ObjectStreamField")), accessFlags := 26, slot := 2, constantValue := 0 }, { name := "REPL", type := .char, accessFlags := 26, slot := 3, constantValue := 0 }, { name := "CASE_INSENSITIVE_ORDER", type := (.object "java/util/Comparator"), accessFlags := 25, slot := 4, constantValue := 0 }, { name := "LATIN1", type := .byte, accessFlags := 24, slot := 5, constantValue := 0 }, { name := "UTF16", type := .byte, accessFlags := 24, slot := 6, constantValue := 0 }]
  methods := #[k8m0]
  instanceTypes := #[(.array .byte), .byte, .int, .boolean]
  staticTypes := #[.long, .boolean, (.array (.object "java/io/ObjectStreamField")), .char, (.object "java/util/Comparator"), .byte, .byte]
  resolved := Array.replicate 1451 none
  statics := none }

def pool9 : Array CpInfo := pool [(2, .class_ 4), (1, u "java/lang/Object"), (0, u "<init>"), (0, u "()V"), (35, .class_ 44), (1, u "com/example/hot_pool/hotpool/config/Settings"), (0, u "ISOLATION_LEVELS"), (0, u "Ljava/util/Map;"), (94, u "requireNonNegative"), (0, u "(Ljava/lang/String;I)I")] 52

def k9m0 : Method := { name := "<init>", desc := "()V", sig := { parameters := [], returnType := none }, accessFlags := 2, code := none }
def k9c1 : Code := { maxStack := 4, maxLocals := 2, code := prog_8_method_2_code, exceptionTable := #[], attributes := #[] }
def k9m1 : Method := { name := "requireNonNegative", desc := "(Ljava/lang/String;I)I", sig := { parameters := [(.object "java/lang/String"), .int], returnType := some .int }, accessFlags := 9, code := some k9c1 }
/-- com/example/hot_pool/hotpool/config/Settings -/
def k9 : Class := { plain "com/example/hot_pool/hotpool/config/Settings" (some 0) with
  accessFlags := 49
  interfaces := #[]
  cf := some (fileOf pool9 42 #[] #[{ accessFlags := 2, nameIndex := 5, descriptorIndex := 6, attributes := #[] }, { accessFlags := 9, nameIndex := 141, descriptorIndex := 142, attributes := #[] }] 49 2 #[] #[{ accessFlags := 26, nameIndex := 45, descriptorIndex := 46, attributes := #[] }])
  fields := #[{ name := "ISOLATION_LEVELS", type := (.object "java/util/Map"), accessFlags := 26, slot := 0, constantValue := 0 }]
  methods := #[k9m0, k9m1]
  instanceTypes := #[]
  staticTypes := #[(.object "java/util/Map")]
  resolved := Array.replicate 195 none
  statics := none }

def pool10 : Array CpInfo := pool [(1, u "java/lang/Cloneable"), (0, .class_ 1), (0, u "java/lang/Object"), (0, .class_ 3)] 3

/-- java/lang/Cloneable -/
def k10 : Class := { plain "java/lang/Cloneable" (some 0) with
  accessFlags := 1537
  interfaces := #[]
  cf := some (fileOf pool10 2 #[] #[] 1537 4 #[] #[])
  fields := #[]
  methods := #[]
  instanceTypes := #[]
  staticTypes := #[]
  resolved := Array.replicate 8 none
  statics := none }

/-- the primitive byte -/
def k11 : Class := { plain "byte" none with kind := .primitive 'B', accessFlags := 0x411 }
/-- [B -/
def k12 : Class := { plain "[B" (some 0) with kind := .array 11 .byte, interfaces := #[10, 3], accessFlags := 1041 }

/-- the primitive int -/
def k13 : Class := { plain "int" none with kind := .primitive 'I', accessFlags := 0x411 }
/-- [I -/
def k14 : Class := { plain "[I" (some 0) with kind := .array 13 .int, interfaces := #[10, 3], accessFlags := 1041 }

def heap : Heap := #[]
def classes : Array Class := #[k0, k1, k2, k3, k4, k5, k6, k7, k8, k9, k10, k11, k12, k13, k14]
def interned : List (Array UInt16 × Addr) := []
def slotsUsed : Nat := 0
def theMethod : MethodId := ⟨1, 1⟩
def args0 : Array Value := #[.int 5, .int 1, .int 7, .int 8]
def aboutOver (below : List Frame) : State where
  vm := { classes := classes, interned := interned.toArray }
  heap := heap
  slotsUsed := slotsUsed
  threads := #[{ frames := .invoking theMethod args0 :: below }]
def below0 : List Frame := [.native { method := ⟨0, 0⟩, args := #[] }]
def about1 : State := aboutOver below0
def p0 : Program := .bare "" "" ""
def e0 : Env := launch0.env 0 0 0
theorem w_frames : about1.frames = Frame.invoking theMethod args0 :: below0 := rfl
set_option maxRecDepth 65536 in
theorem w_args : argsFit about1.vm theMethod args0 = true := by decide +kernel
set_option maxRecDepth 65536 in
theorem w_heap : heapFits about1 = true := by decide +kernel
set_option maxRecDepth 65536 in
theorem w_runnable : about1.curStatus? = some .runnable := by decide +kernel
set_option maxRecDepth 65536 in
theorem w_alone : about1.alone = true := by decide +kernel
set_option maxRecDepth 65536 in
theorem w_named : about1.methodNamed? x = some theMethod := by decide +kernel
set_option maxRecDepth 65536 in
theorem w_hears : about1.hears theMethod below0 = true := by decide +kernel
set_option maxRecDepth 65536 in
theorem w_ripe : about1.ripe theMethod args0 below0 = true := by decide +kernel
theorem w_running : about1.status = .running := rfl
set_option maxRecDepth 65536 in
theorem w_room : about1.hasRoom e0.platform room_1 = true :=
  launch0.hasRoom_least _ room_1 (by decide +kernel) (by decide +kernel) (by decide +kernel) (by decide +kernel) (by decide +kernel) (by decide +kernel)
theorem allAtoms_all (ts : List Jvm.Cond) (a : Array Jvm.Value) (st : Jvm.State) : (allAtoms ts).before a st = ts.all (fun c => c.before a st) := by
  induction ts with
  | nil => rfl
  | cons c t ih =>
    show (Jvm.Cond.and c (allAtoms t)).before a st = _
    rw [Jvm.Cond.before_and, ih, List.all_cons]
def words1 : List Jvm.Cond := Jvm.Cond.code x code maxLocals ret :: tables_1
/-- a 'code' word, met by the world's own term for the bytes: nothing is compared byte by byte -/
theorem code_word {y : MethodName} {bytes : ByteArray} {mx : Nat} {rt : Option FieldType} {a : Array Value} {s : State} {m : MethodId} {meth : Method} {c : Code} (h1 : s.methodNamed? y = some m) (h2 : s.vm.method? m = some meth) (h3 : meth.code = some c) (h4 : c.code = bytes)
    (h5 : (c.maxLocals == mx && c.exceptionTable.isEmpty && decide (c.maxStack ≤ mostOperands) && decide (meth.sig.returnType = rt) && !meth.locks && decide (parseMethodDescriptor y.desc = some meth.sig)) = true) : (Jvm.Cond.code y bytes mx rt).before a s = true := by
  simp only [Bool.and_eq_true, beq_iff_eq, Bool.not_eq_true', decide_eq_true_eq] at h5
  obtain ⟨⟨⟨⟨⟨g1, g2⟩, g3⟩, g4⟩, g5⟩, g6⟩ := h5
  simp [Cond.before, Cond.holds, Cond.value, h1, h2, h3, h4, g1, g2, g3, g4, g5, g6]
def isCode : Jvm.Cond → Bool
  | .code _ _ _ _ => true
  | _ => false
theorem all_split {L : List Jvm.Cond} {P : Jvm.Cond → Bool} (h1 : L.all (fun c => isCode c || P c) = true) (h2 : ∀ c ∈ L.filter isCode, P c = true) : L.all P = true := by
  refine List.all_eq_true.mpr fun c hc => ?_
  have h := List.all_eq_true.mp h1 c hc
  rcases Bool.eq_false_or_eq_true (isCode c) with hi | hi
  · exact h2 c (List.mem_filter.mpr ⟨hc, hi⟩)
  · simpa [hi] using h
set_option maxRecDepth 65536 in
theorem w_c0 : (Jvm.Cond.code x code maxLocals ret).before args0 about1 = true := code_word (m := ⟨1, 1⟩) (meth := k1m1) (c := k1c1) (by decide +kernel) rfl rfl rfl (by decide +kernel)
set_option maxRecDepth 65536 in
theorem w_c1 : (Jvm.Cond.code ({ cls := "com/example/hot_pool/hotpool/config/PoolSettings", name := "<init>", desc := "()V" } : Jvm.MethodName) prog_5_method_1_code (1 : Nat) (Option.none : Option Jvm.ClassFile.FieldType)).before args0 about1 = true := code_word (m := ⟨2, 0⟩) (meth := k2m0) (c := k2c0) (by decide +kernel) rfl rfl rfl (by decide +kernel)
set_option maxRecDepth 65536 in
theorem w_c2 : (Jvm.Cond.code ({ cls := "java/lang/Object", name := "<init>", desc := "()V" } : Jvm.MethodName) object_method_1_code (1 : Nat) (Option.none : Option Jvm.ClassFile.FieldType)).before args0 about1 = true := code_word (m := ⟨0, 0⟩) (meth := k0m0) (c := k0c0) (by decide +kernel) rfl rfl rfl (by decide +kernel)
set_option maxRecDepth 65536 in
theorem w_c3 : (Jvm.Cond.code ({ cls := "com/example/hot_pool/hotpool/config/PoolSettings", name := "isReclaiming", desc := "()Z" } : Jvm.MethodName) prog_5_method_49_code (1 : Nat) (Option.some Jvm.ClassFile.FieldType.boolean)).before args0 about1 = true := code_word (m := ⟨2, 5⟩) (meth := k2m5) (c := k2c5) (by decide +kernel) rfl rfl rfl (by decide +kernel)
set_option maxRecDepth 65536 in
theorem w_c4 : (Jvm.Cond.code ({ cls := "com/example/hot_pool/hotpool/config/PoolSettings", name := "setMaxConnectionAge", desc := "(I)V" } : Jvm.MethodName) prog_5_method_27_code (2 : Nat) (Option.none : Option Jvm.ClassFile.FieldType)).before args0 about1 = true := code_word (m := ⟨2, 2⟩) (meth := k2m2) (c := k2c2) (by decide +kernel) rfl rfl rfl (by decide +kernel)
set_option maxRecDepth 65536 in
theorem w_c5 : (Jvm.Cond.code ({ cls := "com/example/hot_pool/hotpool/config/Settings", name := "requireNonNegative", desc := "(Ljava/lang/String;I)I" } : Jvm.MethodName) prog_8_method_2_code (2 : Nat) (Option.some Jvm.ClassFile.FieldType.int)).before args0 about1 = true := code_word (m := ⟨9, 1⟩) (meth := k9m1) (c := k9c1) (by decide +kernel) rfl rfl rfl (by decide +kernel)
set_option maxRecDepth 65536 in
theorem w_c6 : (Jvm.Cond.code ({ cls := "com/example/hot_pool/hotpool/config/PoolSettings", name := "setMaxIdleTime", desc := "(I)V" } : Jvm.MethodName) prog_5_method_11_code (2 : Nat) (Option.none : Option Jvm.ClassFile.FieldType)).before args0 about1 = true := code_word (m := ⟨2, 1⟩) (meth := k2m1) (c := k2c1) (by decide +kernel) rfl rfl rfl (by decide +kernel)
set_option maxRecDepth 65536 in
theorem w_c7 : (Jvm.Cond.code ({ cls := "com/example/hot_pool/hotpool/config/PoolSettings", name := "setAbandonedConnectionTimeout", desc := "(I)V" } : Jvm.MethodName) prog_5_method_31_code (2 : Nat) (Option.none : Option Jvm.ClassFile.FieldType)).before args0 about1 = true := code_word (m := ⟨2, 3⟩) (meth := k2m3) (c := k2c3) (by decide +kernel) rfl rfl rfl (by decide +kernel)
set_option maxRecDepth 65536 in
theorem w_c8 : (Jvm.Cond.code ({ cls := "com/example/hot_pool/hotpool/config/PoolSettings", name := "setBorrowTimeToLive", desc := "(I)V" } : Jvm.MethodName) prog_5_method_33_code (2 : Nat) (Option.none : Option Jvm.ClassFile.FieldType)).before args0 about1 = true := code_word (m := ⟨2, 4⟩) (meth := k2m4) (c := k2c4) (by decide +kernel) rfl rfl rfl (by decide +kernel)
def codes1 : List Jvm.Cond := [Jvm.Cond.code x code maxLocals ret, Jvm.Cond.code ({ cls := "com/example/hot_pool/hotpool/config/PoolSettings", name := "<init>", desc := "()V" } : Jvm.MethodName) prog_5_method_1_code (1 : Nat) (Option.none : Option Jvm.ClassFile.FieldType), Jvm.Cond.code ({ cls := "java/lang/Object", name := "<init>", desc := "()V" } : Jvm.MethodName) object_method_1_code (1 : Nat) (Option.none : Option Jvm.ClassFile.FieldType), Jvm.Cond.code ({ cls := "com/example/hot_pool/hotpool/config/PoolSettings", name := "isReclaiming", desc := "()Z" } : Jvm.MethodName) prog_5_method_49_code (1 : Nat) (Option.some Jvm.ClassFile.FieldType.boolean), Jvm.Cond.code ({ cls := "com/example/hot_pool/hotpool/config/PoolSettings", name := "setMaxConnectionAge", desc := "(I)V" } : Jvm.MethodName) prog_5_method_27_code (2 : Nat) (Option.none : Option Jvm.ClassFile.FieldType), Jvm.Cond.code ({ cls := "com/example/hot_pool/hotpool/config/Settings", name := "requireNonNegative", desc := "(Ljava/lang/String;I)I" } : Jvm.MethodName) prog_8_method_2_code (2 : Nat) (Option.some Jvm.ClassFile.FieldType.int), Jvm.Cond.code ({ cls := "com/example/hot_pool/hotpool/config/PoolSettings", name := "setMaxIdleTime", desc := "(I)V" } : Jvm.MethodName) prog_5_method_11_code (2 : Nat) (Option.none : Option Jvm.ClassFile.FieldType), Jvm.Cond.code ({ cls := "com/example/hot_pool/hotpool/config/PoolSettings", name := "setAbandonedConnectionTimeout", desc := "(I)V" } : Jvm.MethodName) prog_5_method_31_code (2 : Nat) (Option.none : Option Jvm.ClassFile.FieldType), Jvm.Cond.code ({ cls := "com/example/hot_pool/hotpool/config/PoolSettings", name := "setBorrowTimeToLive", desc := "(I)V" } : Jvm.MethodName) prog_5_method_33_code (2 : Nat) (Option.none : Option Jvm.ClassFile.FieldType)]
set_option maxRecDepth 65536 in
theorem codes_eq : words1.filter isCode = codes1 := rfl
theorem w_codes : ∀ c ∈ words1.filter isCode, c.before args0 about1 = true := by
  rw [codes_eq]
  intro c hc
  simp only [codes1, List.mem_cons, List.not_mem_nil, or_false] at hc
  rcases hc with rfl | rfl | rfl | rfl | rfl | rfl | rfl | rfl | rfl
  · exact w_c0
  · exact w_c1
  · exact w_c2
  · exact w_c3
  · exact w_c4
  · exact w_c5
  · exact w_c6
  · exact w_c7
  · exact w_c8
set_option maxRecDepth 65536 in
theorem w_t1 : (words1.take 24).all (fun c => isCode c || c.before args0 about1) = true := by decide +kernel
set_option maxRecDepth 65536 in
theorem w_t2 : ((words1.drop 24).take 24).all (fun c => isCode c || c.before args0 about1) = true := by decide +kernel
set_option maxRecDepth 65536 in
theorem w_t3 : (((words1.drop 24).drop 24).take 24).all (fun c => isCode c || c.before args0 about1) = true := by decide +kernel
set_option maxRecDepth 65536 in
theorem w_t4 : (((words1.drop 24).drop 24).drop 24).all (fun c => isCode c || c.before args0 about1) = true := by decide +kernel
theorem w_tables : (allAtoms (Jvm.Cond.code x code maxLocals ret :: tables_1)).before args0 about1 = true := by
  rw [allAtoms_all]
  show words1.all (fun c => c.before args0 about1) = true
  refine all_split ?_ w_codes
  rw [← List.take_append_drop 24 words1, List.all_append, w_t1, ← List.take_append_drop 24 (words1.drop 24), List.all_append, w_t2, ← List.take_append_drop 24 ((words1.drop 24).drop 24), List.all_append, w_t3, w_t4]
  rfl
set_option maxRecDepth 65536 in
theorem w_case : (Jvm.Cond.and given_1 narrow_1).before args0 about1 = true := by decide +kernel
theorem w_applies : (headSpec (Jvm.Cond.code x code maxLocals ret :: tables_1) room_1).applies x e0.platform about1 = true :=
  (Spec.applies_iff w_frames).mpr ⟨w_running, w_runnable, w_alone, w_named, w_hears, w_ripe, w_room, w_tables⟩
theorem atStart : AtStart classFile x code maxLocals ret World_1 tables_1 room_1 Calls_1 rest_1 Pre_1 launch0 p0 e0 about1 theMethod args0 below0 :=
  ⟨lists_1, trivial, launch0.admits_env _ _ _, launch0.least_env, fairChoices_fair.cas, fairChoices_fair.clock, w_frames, w_args, w_heap, w_applies, trivial, trivial, w_case⟩
end start1
theorem witness_1 : WitnessClaimed_1 := ⟨start1.p0, start1.e0, start1.about1, start1.theMethod, start1.args0, start1.below0, start1.atStart⟩
end Jvm.Pilot.@@N@@
