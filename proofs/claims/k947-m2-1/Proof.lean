import JvmDerived
import JvmDerived.Pilot.@@N@@Statement
import JvmDerived.Pilot.@@N@@Code
set_option linter.unusedVariables false
set_option linter.unusedSimpArgs false
namespace Jvm.RoadKit
open Sem ClassFile Op Lib Jvm.Stand Jvm.Free Jvm.LawKit
section OwnGo
/-- from the state T with the frame g on top the run comes to a state of which K holds -/
def own_Go (tb : Tables) (e : Env) (below : List Frame) (K : State → Prop) (T : State) (g : JFrame) : Prop := ∃ t, Steps tb e below (T.setTop g) t ∧ K t
/-- the invocation has ended by a return, with what Q says of the value, the heap and the written places -/
def own_Fin (below : List Frame) (s : State) (Q : Option Value → Heap → List Loc → Prop) (k n : Nat) (t : State) : Prop := ∃ o, t.status = .running ∧ Ended t below o ∧ ∃ v L, o = .returned v ∧ Q v t.heap L ∧ FrameEnd s o t L k n
variable {p : Program} {l : Launch} {e : Env} {R : Room} {s : State} {m : MethodId} {args : Array Value} {below : List Frame} {meth : Method} {c : Code} {T : State} {locs : List Loc} {cells slots : Nat}
variable {K : State → Prop} {T' : State} {g g' : JFrame} {tb : Tables} {Q : Option Value → Heap → List Loc → Prop} {k n : Nat}
theorem own_st (h : ∀ t, Steps tb e below (T'.setTop g') t → Steps tb e below (T.setTop g) t) (q : own_Go tb e below K T' g') : own_Go tb e below K T g := by
  obtain ⟨t, h1, h2⟩ := q
  exact ⟨t, h _ h1, h2⟩
theorem own_tr (h : Steps tb e below (T.setTop g) (T'.setTop g')) (q : own_Go tb e below K T' g') : own_Go tb e below K T g := by
  obtain ⟨t, h1, h2⟩ := q
  exact ⟨t, h.trans h1, h2⟩
theorem own_in (h : g = g') (q : own_Go tb e below K T g') : own_Go tb e below K T g := h ▸ q
theorem own_out (q : own_Go tb e below (own_Fin below s Q k n) T g) : ∃ s₂ o, Steps tb e below (T.setTop g) s₂ ∧ s₂.status = .running ∧ Ended s₂ below o ∧ ∃ v L, o = .returned v ∧ Q v s₂.heap L ∧ FrameEnd s o s₂ L k n := by
  obtain ⟨t, h1, o, h2, h3, h4⟩ := q
  exact ⟨t, o, h1, h2, h3, h4⟩
theorem own_leave (X : Stand p l e R s m args below meth c T locs cells slots) (hlk : meth.locks = false) {v : Option Value} (hv : meth.sig.returnType = none → v = none) (hq : Q v T.heap locs) (hk : cells ≤ k) (hn : slots ≤ n)
    (st : ∀ fs, (∀ (f : JFrame) (acts : List Action), f.method = m → f.locked = none → f.entered = [] → (doReturn e (T.setTop f) acts v).1 = T.setFrames fs) → Steps p.tables e below (T.setTop g) (T.setFrames fs)) :
    own_Go p.tables e below (own_Fin below s Q k n) T g := by
  obtain ⟨fs, hr, hrun, hended, hW, hsame⟩ := X.leave (v := v) hv hlk
  exact ⟨_, st fs hr, _, hrun, hended, _, _, rfl, hq, ⟨_, rfl⟩, hW, hsame.mono hk hn⟩
variable {pc : Nat} {Ls : Array Slot} {rest : List Value}
theorem own_retV (X : Stand p l e R s m args below meth c T locs cells slots) (hx : p.tables.exec = Jvm.exec) (hlk : meth.locks = false) (hret : meth.sig.returnType = none) (hd : decode c.code pc = .ok (.return_, 1)) (hq : Q none T.heap locs) (hk : cells ≤ k) (hn : slots ≤ n) :
    own_Go p.tables e below (own_Fin below s Q k n) T (mkF m pc Ls []) :=
  own_leave X hlk (fun _ => rfl) hq hk hn fun _ hr => X.returnOut hx hret hd hr
theorem own_retW (X : Stand p l e R s m args below meth c T locs cells slots) (hx : p.tables.exec = Jvm.exec) (hlk : meth.locks = false) {w : Value} {t : FieldType} {i : Instr} (hret : meth.sig.returnType = some t) (hn' : narrow t w = w)
    (hi : (i = .ireturn ∧ (t = .int ∨ t = .boolean ∨ t = .byte ∨ t = .char ∨ t = .short) ∧ ∃ z, w = .int z) ∨ (i = .lreturn ∧ t = .long ∧ ∃ z, w = .long z) ∨ (i = .dreturn ∧ t = .double ∧ ∃ z, w = .double z) ∨ (i = .freturn ∧ t = .float ∧ ∃ z, w = .float z) ∨ (i = .areturn ∧ t.isReference = true ∧ w.isRef = true))
    (hd : decode c.code pc = .ok (i, 1)) (hq : Q (some w) T.heap locs) (hk : cells ≤ k) (hn : slots ≤ n) :
    own_Go p.tables e below (own_Fin below s Q k n) T (mkF m pc Ls (w :: rest)) :=
  own_leave X hlk (fun h => by rw [hret] at h; cases h) hq hk hn fun _ hr => retOut X hx hret hn' hi hd hr
theorem own_retI (X : Stand p l e R s m args below meth c T locs cells slots) (hx : p.tables.exec = Jvm.exec) (hlk : meth.locks = false) {z : Int32} (hret : meth.sig.returnType = some .int) (hd : decode c.code pc = .ok (.ireturn, 1)) (hq : Q (some (.int z)) T.heap locs) (hk : cells ≤ k) (hn : slots ≤ n) :
    own_Go p.tables e below (own_Fin below s Q k n) T (mkF m pc Ls (.int z :: rest)) :=
  own_retW X hx hlk hret rfl (Or.inl ⟨rfl, Or.inl rfl, _, rfl⟩) hd hq hk hn
theorem own_retJ (X : Stand p l e R s m args below meth c T locs cells slots) (hx : p.tables.exec = Jvm.exec) (hlk : meth.locks = false) {z : Int64} (hret : meth.sig.returnType = some .long) (hd : decode c.code pc = .ok (.lreturn, 1)) (hq : Q (some (.long z)) T.heap locs) (hk : cells ≤ k) (hn : slots ≤ n) :
    own_Go p.tables e below (own_Fin below s Q k n) T (mkF m pc Ls (.long z :: rest)) :=
  own_retW X hx hlk hret rfl (Or.inr (Or.inl ⟨rfl, rfl, _, rfl⟩)) hd hq hk hn
theorem own_retR (X : Stand p l e R s m args below meth c T locs cells slots) (hx : p.tables.exec = Jvm.exec) (hlk : meth.locks = false) {w : Value} {t : FieldType} (hret : meth.sig.returnType = some t) (ht : t.isReference = true) (hw : w.isRef = true) (hn' : narrow t w = w) (hd : decode c.code pc = .ok (.areturn, 1)) (hq : Q (some w) T.heap locs) (hk : cells ≤ k) (hn : slots ≤ n) :
    own_Go p.tables e below (own_Fin below s Q k n) T (mkF m pc Ls (w :: rest)) :=
  own_retW X hx hlk hret hn' (Or.inr (Or.inr (Or.inr (Or.inr ⟨rfl, ht, hw⟩)))) hd hq hk hn
theorem own_retN (X : Stand p l e R s m args below meth c T locs cells slots) (hx : p.tables.exec = Jvm.exec) (hlk : meth.locks = false) {z : Int32} {t : FieldType} (hret : meth.sig.returnType = some t) (ht : t = .boolean ∨ t = .byte ∨ t = .char ∨ t = .short) (hd : decode c.code pc = .ok (.ireturn, 1)) (hq : Q (some (.int (nar t z))) T.heap locs) (hk : cells ≤ k) (hn : slots ≤ n) :
    own_Go p.tables e below (own_Fin below s Q k n) T (mkF m pc Ls (.int z :: rest)) :=
  own_leave X hlk (fun h => by rw [hret] at h; cases h) hq hk hn fun _ hr => retN X hx hret ht hd hr
/-- the same, where String constants may have been resolved -/
def own_FinW (below : List Frame) (s : State) (Q : Option Value → Heap → List Loc → Prop) (k n : Nat) (t : State) : Prop := ∃ o, t.status = .running ∧ Ended t below o ∧ ∃ v L, o = .returned v ∧ Q v t.heap L ∧ ReturnedEndW s o t L k n
theorem own_outW (q : own_Go tb e below (own_FinW below s Q k n) T g) : ∃ s₂ o, Steps tb e below (T.setTop g) s₂ ∧ s₂.status = .running ∧ Ended s₂ below o ∧ ∃ v L, o = .returned v ∧ Q v s₂.heap L ∧ ReturnedEndW s o s₂ L k n := by
  obtain ⟨t, h1, o, h2, h3, h4⟩ := q
  exact ⟨t, o, h1, h2, h3, h4⟩
theorem own_leaveW {vm0 : Vm} {k0 : Nat} (X : Stand p l e R (s.setVm vm0) m args below meth c T locs cells slots) (hS : s.Since vm0 k0) (hk0 : k0 ≤ T.heap.size) (hlk : meth.locks = false) {v : Option Value} (hv : meth.sig.returnType = none → v = none) (hq : Q v T.heap locs) (hk : cells ≤ k) (hn : slots ≤ n)
    (st : ∀ fs, (∀ (f : JFrame) (acts : List Action), f.method = m → f.locked = none → f.entered = [] → (doReturn e (T.setTop f) acts v).1 = T.setFrames fs) → Steps p.tables e below (T.setTop g) (T.setFrames fs)) :
    own_Go p.tables e below (own_FinW below s Q k n) T g := by
  obtain ⟨fs, hr, hrun, hended, h1, h2, h3, h4⟩ := X.leaveW hS hk0 (v := v) hv hlk
  exact ⟨_, st fs hr, _, hrun, hended, _, _, rfl, hq, h1, h2, h3, h4.mono hk hn⟩
theorem own_retVW {vm0 : Vm} {k0 : Nat} (X : Stand p l e R (s.setVm vm0) m args below meth c T locs cells slots) (hS : s.Since vm0 k0) (hk0 : k0 ≤ T.heap.size) (hx : p.tables.exec = Jvm.exec) (hlk : meth.locks = false) (hret : meth.sig.returnType = none) (hd : decode c.code pc = .ok (.return_, 1)) (hq : Q none T.heap locs) (hk : cells ≤ k) (hn : slots ≤ n) :
    own_Go p.tables e below (own_FinW below s Q k n) T (mkF m pc Ls []) :=
  own_leaveW X hS hk0 hlk (fun _ => rfl) hq hk hn fun _ hr => X.returnOut hx hret hd hr
theorem own_retWW {vm0 : Vm} {k0 : Nat} (X : Stand p l e R (s.setVm vm0) m args below meth c T locs cells slots) (hS : s.Since vm0 k0) (hk0 : k0 ≤ T.heap.size) (hx : p.tables.exec = Jvm.exec) (hlk : meth.locks = false) {w : Value} {t : FieldType} {i : Instr} (hret : meth.sig.returnType = some t) (hn' : narrow t w = w)
    (hi : (i = .ireturn ∧ (t = .int ∨ t = .boolean ∨ t = .byte ∨ t = .char ∨ t = .short) ∧ ∃ z, w = .int z) ∨ (i = .lreturn ∧ t = .long ∧ ∃ z, w = .long z) ∨ (i = .dreturn ∧ t = .double ∧ ∃ z, w = .double z) ∨ (i = .freturn ∧ t = .float ∧ ∃ z, w = .float z) ∨ (i = .areturn ∧ t.isReference = true ∧ w.isRef = true))
    (hd : decode c.code pc = .ok (i, 1)) (hq : Q (some w) T.heap locs) (hk : cells ≤ k) (hn : slots ≤ n) :
    own_Go p.tables e below (own_FinW below s Q k n) T (mkF m pc Ls (w :: rest)) :=
  own_leaveW X hS hk0 hlk (fun h => by rw [hret] at h; cases h) hq hk hn fun _ hr => retOut X hx hret hn' hi hd hr
theorem own_retNW {vm0 : Vm} {k0 : Nat} (X : Stand p l e R (s.setVm vm0) m args below meth c T locs cells slots) (hS : s.Since vm0 k0) (hk0 : k0 ≤ T.heap.size) (hx : p.tables.exec = Jvm.exec) (hlk : meth.locks = false) {z : Int32} {t : FieldType} (hret : meth.sig.returnType = some t) (ht : t = .boolean ∨ t = .byte ∨ t = .char ∨ t = .short) (hd : decode c.code pc = .ok (.ireturn, 1)) (hq : Q (some (.int (nar t z))) T.heap locs) (hk : cells ≤ k) (hn : slots ≤ n) :
    own_Go p.tables e below (own_FinW below s Q k n) T (mkF m pc Ls (.int z :: rest)) :=
  own_leaveW X hS hk0 hlk (fun h => by rw [hret] at h; cases h) hq hk hn fun _ hr => retN X hx hret ht hd hr
theorem own_wz {Z : State} {vm0 vm1 : Vm} {k1 : Nat} (hZ : Z.Warmed39 vm0) (hs : (s.setVm vm0).Since vm1 k1) : Z.Warmed39 (s.setVm vm1).vm := State.Warmed39.trans (t := s.setVm vm0) hZ hs.1
theorem own_wo {vm0 vm1 : Vm} {k1 : Nat} {own : String} {q : ClassId} (h : (s.setVm vm0).vm.findClass own = some q) (hs : (s.setVm vm0).Since vm1 k1) : (s.setVm vm1).vm.findClass own = some q := by
  rw [show (s.setVm vm1).vm = vm1 from rfl, hs.1.alike.findClass]; exact h
theorem own_sta_keep {Z : State} {h h' : Heap} {C f d : String} {v : Value} {ws : List Addr} (F : Sta Z h C f d v) (K : Keep h h' ws) (hs : ∀ x ∈ ws, ∀ cl : Cell, h[x]? = some cl → cl.vm.isStatics = false) : Sta Z h' C f d v := by
  obtain ⟨cf, i, k, f', st, cell, h1, h2, h3, h4, h5, h6, h7⟩ := F
  refine ⟨cf, i, k, f', st, cell, h1, h2, h3, h4, K.2.1 _ _ h5 fun q => ?_, h6, h7⟩
  rw [hs st q cell h5] at h6
  cases h6
theorem own_fold {vm0 vm1 : Vm} (X : Stand p l e R ((s.setVm vm0).setVm vm1) m args below meth c T locs cells slots) : Stand p l e R (s.setVm vm1) m args below meth c T locs cells slots := X
theorem own_hide {k0 : Nat} (X : Stand p l e R s m args below meth c T locs cells slots) (N : Fr k0 locs) : ∃ L : List Loc, Stand p l e R s m args below meth c T L cells slots ∧ Fr k0 L := ⟨_, X, N⟩
theorem own_getD_int (es : List Int32) (i : Nat) : (es.map Value.int).getD i (.int 0) = .int (es.getD i 0) := by
  induction es generalizing i with
  | nil => rfl
  | cons a t ih => cases i with
    | zero => rfl
    | succ j => simpa using ih j
theorem own_getD_long (es : List Int64) (i : Nat) : (es.map Value.long).getD i (.long 0) = .long (es.getD i 0) := by
  induction es generalizing i with
  | nil => rfl
  | cons a t ih => cases i with
    | zero => rfl
    | succ j => simpa using ih j
theorem own_eq_int {args : Array Value} {s : State} {t : Term} {k : Int32} (h : (Cond.eq t (.int k)).value args s none s [] = some true) : t.eval args s none [] s = some (.int k) := by
  obtain ⟨x, y, e1, e2, hk, hk'⟩ := cmp_v (Or.inl h)
  have e3 : y = .int k := by simpa [Term.eval] using e2.symm
  subst e3
  cases x with
  | int z => simp [Cond.value, e1, e2] at h; rw [e1, h]
  | _ => simp [Kin] at hk'
end OwnGo
end Jvm.RoadKit
namespace Jvm.Pilot.@@N@@
open Jvm Jvm.ClassFile Sem Op Lib Jvm.Free Jvm.Stand Jvm.LawKit Jvm.RoadKit Bundle Jvm.Pilot.@@N@@.Jvm.D
theorem own_cutZ {Z : State} {h : Heap} {a : Addr} {k : ClassId} {ty : FieldType} {z : Int32} {vs vs' : List Value} {d : Value} (F : Arv Z h a k ty z vs d) (q : ∀ i, i < z.toNatClampNeg → vs'.getD i d = vs.getD i d) : Arv Z h a k ty z vs' d := by
  obtain ⟨c, A, r1, r2, r3, H, G⟩ := F
  exact ⟨c, A, r1, r2, r3, fun i hi => by rw [q i (r2 ▸ hi)]; exact H i hi, fun i hi => by rw [q i (r2 ▸ hi)]; exact G i hi⟩
theorem own_cut0 {Z : State} {h : Heap} {a : Addr} {k : ClassId} {ty : FieldType} {z : Int32} {vs vs' : List Value} {d : Value} (F : Arv Z h a k ty (0 : Int32) vs d) (e : z = (0 : Int32)) : Arv Z h a k ty z vs' d := by
  subst e
  exact own_cutZ F fun i hi => absurd hi (Nat.not_lt_zero i)
theorem own_cut1 {Z : State} {h : Heap} {a : Addr} {k : ClassId} {ty : FieldType} {z : Int32} {u w w' : Value} {d : Value} (F : Arv Z h a k ty z [u, w] d) (e : z = (1 : Int32)) : Arv Z h a k ty z [u, w'] d := by
  subst e
  exact own_cutZ F fun i hi => by
    have : i = 0 := Nat.lt_one_iff.mp hi
    subst this; rfl
theorem own_cut1' {Z : State} {h : Heap} {a : Addr} {k : ClassId} {ty : FieldType} {z : Int32} {u w' : Value} {d : Value} (F : Arv Z h a k ty (1 : Int32) [u] d) (e : z = (1 : Int32)) : Arv Z h a k ty z [u, w'] d := by
  subst e
  exact own_cutZ F fun i hi => by
    have : i = 0 := Nat.lt_one_iff.mp hi
    subst this; rfl
def own_012 (z : Int32) : Prop := z = (0 : Int32) ∨ z = (1 : Int32) ∨ z = (2 : Int32)
theorem own_012_nn {z : Int32} (h : own_012 z) : ¬ z < (0 : Int32) := by rcases h with rfl | rfl | rfl <;> decide
theorem own_012_n2 {z : Int32} (h : own_012 z) : ¬ (2 : Int32) < z := by rcases h with rfl | rfl | rfl <;> decide
theorem own_012_p {z : Int32} (h : own_012 z) (q : ¬ z = (0 : Int32)) : (0 : Int32) < z := by rcases h with rfl | rfl | rfl <;> first | exact absurd rfl q | decide
theorem own_012_1 {z : Int32} (h : own_012 z) (q : (0 : Int32) < z) (r : ¬ (1 : Int32) < z) : z = (1 : Int32) := by rcases h with rfl | rfl | rfl <;> first | rfl | exact absurd q (by decide) | exact absurd (by decide) r
theorem own_012_2 {z : Int32} (h : own_012 z) (q : ¬ z = (0 : Int32)) (r : ¬ z = (1 : Int32)) : z = (2 : Int32) := by rcases h with rfl | rfl | rfl <;> first | rfl | exact absurd rfl q | exact absurd rfl r
theorem own_012_cap {z : Int32} (h : own_012 z) : z.toNatClampNeg ≤ 2 := by rcases h with rfl | rfl | rfl <;> decide

/-! body 1: RelationEqualsPinLaw.mk -/
theorem d1_0 : decode method_3_code 0 = .ok (.iload_n 0, 1) := by decide +kernel
theorem d1_1 : decode method_3_code 1 = .ok (.ifCond .ne 7, 3) := by decide +kernel
theorem d1_4 : decode method_3_code 4 = .ok (.iconst 0, 1) := by decide +kernel
theorem d1_5 : decode method_3_code 5 = .ok (.newarray .char, 2) := by decide +kernel
theorem d1_7 : decode method_3_code 7 = .ok (.areturn, 1) := by decide +kernel
theorem d1_8 : decode method_3_code 8 = .ok (.iload_n 0, 1) := by decide +kernel
theorem d1_9 : decode method_3_code 9 = .ok (.iconst 1, 1) := by decide +kernel
theorem d1_10 : decode method_3_code 10 = .ok (.if_icmp .ne 11, 3) := by decide +kernel
theorem d1_13 : decode method_3_code 13 = .ok (.iconst 1, 1) := by decide +kernel
theorem d1_14 : decode method_3_code 14 = .ok (.newarray .char, 2) := by decide +kernel
theorem d1_16 : decode method_3_code 16 = .ok (.dup, 1) := by decide +kernel
theorem d1_17 : decode method_3_code 17 = .ok (.iconst 0, 1) := by decide +kernel
theorem d1_18 : decode method_3_code 18 = .ok (.iload_n 1, 1) := by decide +kernel
theorem d1_19 : decode method_3_code 19 = .ok (.castore, 1) := by decide +kernel
theorem d1_20 : decode method_3_code 20 = .ok (.areturn, 1) := by decide +kernel
theorem d1_21 : decode method_3_code 21 = .ok (.iconst 2, 1) := by decide +kernel
theorem d1_22 : decode method_3_code 22 = .ok (.newarray .char, 2) := by decide +kernel
theorem d1_24 : decode method_3_code 24 = .ok (.dup, 1) := by decide +kernel
theorem d1_25 : decode method_3_code 25 = .ok (.iconst 0, 1) := by decide +kernel
theorem d1_26 : decode method_3_code 26 = .ok (.iload_n 1, 1) := by decide +kernel
theorem d1_27 : decode method_3_code 27 = .ok (.castore, 1) := by decide +kernel
theorem d1_28 : decode method_3_code 28 = .ok (.dup, 1) := by decide +kernel
theorem d1_29 : decode method_3_code 29 = .ok (.iconst 1, 1) := by decide +kernel
theorem d1_30 : decode method_3_code 30 = .ok (.iload_n 2, 1) := by decide +kernel
theorem d1_31 : decode method_3_code 31 = .ok (.castore, 1) := by decide +kernel
theorem d1_32 : decode method_3_code 32 = .ok (.areturn, 1) := by decide +kernel
theorem pn_com_example_libhorn_libhorn_data_RelationEqualsPinLaw : plainName "com/example/libhorn/libhorn/data/RelationEqualsPinLaw" = true := by first | (simp [plainName, overriddenIn]; done) | decide +kernel
theorem ef_1 (m : MethodId) (x0 : Int32) (x1 : Int32) (x2 : Int32) : entryFrame m #[(.int x0), (.int x1), (.int x2)] 3 = mkF m 0 #[.val (.int x0), .val (.int x1), .val (.int x2)] [] := by first | (simp [entryFrame, mkF, argsToLocals, Value.category]; done) | rfl
def Q1 (Z : State) (ln : Int32) (ca : Int32) (cb : Int32) (h0 : Heap) (n0 : Nat) (v : Option Value) (h : Heap) (L : List Loc) : Prop := ∃ (b : Addr) (k : ClassId), v = some (.ref b) ∧ Fr n0 L ∧ Keep h0 h [] ∧ h0.size ≤ b ∧ Arv Z h b k .char ln [(.int (nar .char ca)), (.int (nar .char cb))] (.int (0 : Int32))
set_option maxRecDepth 65536 in
set_option maxHeartbeats 40000000 in
theorem rm1 (l : Launch) (Z : State) (a0 : Array Value) (hw : ∀ d ∈ tables_1, d.before a0 Z = true) (ws : List Jvm.Cond) (ln : Int32) (ca : Int32) (cb : Int32) (h0 : Heap) (n0 : Nat) (Z0 : n0 ≤ h0.size) (hln : own_012 ln) :
    MetFree l (⟨"com/example/libhorn/libhorn/data/RelationEqualsPinLaw", "mk", "(ICC)[C"⟩ : MethodName) (head1 (Jvm.Cond.code (⟨"com/example/libhorn/libhorn/data/RelationEqualsPinLaw", "mk", "(ICC)[C"⟩ : MethodName) method_3_code 3 (some (.array .char)) :: ws) ({ frames := 0, cells := 1, slots := 2, locals := 0 } : Room)) (fun a U => a = #[(.int ln), (.int ca), (.int cb)] ∧ Z.Warmed39 U.vm ∧ U.heap = h0) (fun _ _ _ _ _ => True) (fun _ U o U' => ∃ v L, o = .returned v ∧ Q1 Z ln ca cb h0 n0 v U'.heap L ∧ FrameEnd U o U' L ({ frames := 0, cells := 1, slots := 2, locals := 0 } : Room).cells ({ frames := 0, cells := 1, slots := 2, locals := 0 } : Room).slots) := by
  refine MetFree.of_bodySF (plainFor_of_name pn_com_example_libhorn_libhorn_data_RelationEqualsPinLaw) hisR ?_
  intro p e s m args below meth c s₁ Bd hml0 hP hK
  obtain ⟨rfl, hZ, hh⟩ := hP
  have hx := Bd.exec
  have hby := Bd.bytes
  have hlk := Bd.notSynchronized
  have hrt := Bd.returns
  have hml : c.maxLocals = 3 := hml0
  have hown : s.vm.findClass "com/example/libhorn/libhorn/data/RelationEqualsPinLaw" = some m.cls := findClass_of_methodNamed Bd.named
  have hnm := (name_of_methodNamed Bd.named Bd.method).1
  have X0 : Stand p l e ({ frames := 0, cells := 1, slots := 2, locals := 0 } : Room) s m #[(.int ln), (.int ca), (.int cb)] below meth c s₁ [] 0 0 := Stand.of_body Bd
  have e0 : s₁.heap = h0 := by rw [← hh, Bd.state]; rfl
  have N0 := Fr.nil n0
  have K0 := Keep.refl h0 []
  refine own_out (Q := Q1 Z ln ca cb h0 n0) ?_
  refine own_in (ef_1 m ln ca cb) ?_
  show own_Go _ _ _ _ s₁ (mkF m 0 #[.val (.int ln), .val (.int ca), .val (.int cb)] [])
  refine own_st (fun t k => XS.iloadN X0.here hx rfl (hb hby d1_0) rfl k) ?_
  show own_Go _ _ _ _ s₁ (mkF m 1 #[.val (.int ln), .val (.int ca), .val (.int cb)] [(.int ln)])
  by_cases c1_1 : ln = (0 : Int32)
  ·
    refine own_st (fun t k => XS.ifNo X0.here hx rfl (hb hby d1_1) rfl ((if0 _ _).trans (teq c1_1).2) k) ?_
    show own_Go _ _ _ _ s₁ (mkF m 4 #[.val (.int ln), .val (.int ca), .val (.int cb)] [])
    refine own_st (fun t k => XS.iconst X0.here hx rfl (hb hby d1_4) k) ?_
    show own_Go _ _ _ _ s₁ (mkF m 5 #[.val (.int ln), .val (.int ca), .val (.int cb)] [(.int (0 : Int32))])
    obtain ⟨T2, h2, k2, X2, e2, E2, A2, st2⟩ := newP X0 hx hZ (hw _ (List.mem_of_getElem? (i := 7) rfl)) e0 (g := (mkF m 5 #[.val (.int ln), .val (.int ca), .val (.int cb)] [(.int (0 : Int32))])) rfl (hb hby d1_5) rfl (by decide) (cap := 0) (by decide) (by decide) (by decide) (by decide)
    obtain ⟨b2, g2⟩ : ∃ z, z = h0.size := ⟨_, rfl⟩
    rw [← g2] at A2 st2
    have sz_b2 : h0.size ≤ b2 := Nat.le_trans K0.1 (Nat.le_of_eq g2.symm)
    have g_b2 : n0 ≤ b2 := Nat.le_trans Z0 sz_b2
    have V2 : Arv Z h2 b2 k2 .char (0 : Int32) [] (.int (0 : Int32)) := (Arv.new A2 (by decide)).pad (pad_rep [] (.int (0 : Int32)) 0)
    refine own_st st2 ?_
    show own_Go _ _ _ _ T2 (mkF m 7 #[.val (.int ln), .val (.int ca), .val (.int cb)] [(.ref b2)])
    have K0_3 := (K0.ext E2)
    exact own_retR X2 hx hlk hrt rfl rfl rfl (hb hby d1_7) (by rw [e2]; exact ⟨b2, k2, rfl, N0, K0_3, sz_b2, (own_cut0 V2 c1_1)⟩) (by decide) (by decide)
  ·
    refine own_st (fun t k => XS.ifYes X0.here hx rfl (pc0 := 1) (pc' := 8) rfl (hb hby d1_1) rfl ((if0 _ _).trans (feq c1_1).2) (by decide) (by decide) k) ?_
    show own_Go _ _ _ _ s₁ (mkF m 8 #[.val (.int ln), .val (.int ca), .val (.int cb)] [])
    refine own_st (fun t k => XS.iloadN X0.here hx rfl (hb hby d1_8) rfl k) ?_
    show own_Go _ _ _ _ s₁ (mkF m 9 #[.val (.int ln), .val (.int ca), .val (.int cb)] [(.int ln)])
    refine own_st (fun t k => XS.iconst X0.here hx rfl (hb hby d1_9) k) ?_
    show own_Go _ _ _ _ s₁ (mkF m 10 #[.val (.int ln), .val (.int ca), .val (.int cb)] [(.int (1 : Int32)), (.int ln)])
    by_cases c10_4 : ln = (1 : Int32)
    ·
      refine own_st (fun t k => XS.icmpNo X0.here hx rfl (hb hby d1_10) rfl (teq c10_4).2 k) ?_
      show own_Go _ _ _ _ s₁ (mkF m 13 #[.val (.int ln), .val (.int ca), .val (.int cb)] [])
      refine own_st (fun t k => XS.iconst X0.here hx rfl (hb hby d1_13) k) ?_
      show own_Go _ _ _ _ s₁ (mkF m 14 #[.val (.int ln), .val (.int ca), .val (.int cb)] [(.int (1 : Int32))])
      obtain ⟨T5, h5, k5, X5, e5, E5, A5, st5⟩ := newP X0 hx hZ (hw _ (List.mem_of_getElem? (i := 7) rfl)) e0 (g := (mkF m 14 #[.val (.int ln), .val (.int ca), .val (.int cb)] [(.int (1 : Int32))])) rfl (hb hby d1_14) rfl (by decide) (cap := 1) (by decide) (by decide) (by decide) (by decide)
      obtain ⟨b5, g5⟩ : ∃ z, z = h0.size := ⟨_, rfl⟩
      rw [← g5] at A5 st5
      have sz_b5 : h0.size ≤ b5 := Nat.le_trans K0.1 (Nat.le_of_eq g5.symm)
      have g_b5 : n0 ≤ b5 := Nat.le_trans Z0 sz_b5
      have V5 : Arv Z h5 b5 k5 .char (1 : Int32) [(.int (0 : Int32))] (.int (0 : Int32)) := (Arv.new A5 (by decide)).pad (pad_rep [] (.int (0 : Int32)) 1)
      refine own_st st5 ?_
      show own_Go _ _ _ _ T5 (mkF m 16 #[.val (.int ln), .val (.int ca), .val (.int cb)] [(.ref b5)])
      refine own_st (fun t k => XS.dup X5.here hx rfl (hb hby d1_16) rfl rfl k) ?_
      show own_Go _ _ _ _ T5 (mkF m 17 #[.val (.int ln), .val (.int ca), .val (.int cb)] [(.ref b5), (.ref b5)])
      refine own_st (fun t k => XS.iconst X5.here hx rfl (hb hby d1_17) k) ?_
      show own_Go _ _ _ _ T5 (mkF m 18 #[.val (.int ln), .val (.int ca), .val (.int cb)] [(.int (0 : Int32)), (.ref b5), (.ref b5)])
      refine own_st (fun t k => XS.iloadN X5.here hx rfl (hb hby d1_18) rfl k) ?_
      show own_Go _ _ _ _ T5 (mkF m 19 #[.val (.int ln), .val (.int ca), .val (.int cb)] [(.int ca), (.int (0 : Int32)), (.ref b5), (.ref b5)])
      have K0_6 := (K0.ext E5)
      obtain ⟨cl7, Ar7, qk7, Sz7, Nn7, Hs7, Gf7⟩ := id V5
      have hin7 : ¬ ((0 : Int32) < 0 ∨ cl7.slots.size ≤ ((0 : Int32)).toNatClampNeg) := inb_of Sz7 ⟨by decide, by decide⟩
      obtain ⟨T8, h8, X8, e8, W8, st8⟩ := stC X5 hx hZ e5 Ar7 (j := (0 : Int32)) hin7 (g := (mkF m 19 #[.val (.int ln), .val (.int ca), .val (.int cb)] [(.int ca), (.int (0 : Int32)), (.ref b5), (.ref b5)])) rfl rfl (hb hby d1_19)
      have V8 : Arv Z h8 b5 k5 .char (1 : Int32) [(.int (nar .char ca))] (.int (0 : Int32)) := Arv.set Ar7 qk7 Sz7 Nn7 Hs7 Gf7 (fits_nar_char _) W8 0 rfl (Nat.le_of_ble_eq_true rfl)
      obtain ⟨_, X8, N8⟩ := own_hide X8 (Fr.snoc X8 N0 g_b5)
      refine own_st st8 ?_
      show own_Go _ _ _ _ T8 (mkF m 20 #[.val (.int ln), .val (.int ca), .val (.int cb)] [(.ref b5)])
      have K0_9 := (K0_6.wr W8 (Or.inr sz_b5))
      exact own_retR X8 hx hlk hrt rfl rfl rfl (hb hby d1_20) (by rw [e8]; exact ⟨b5, k5, rfl, N8, K0_9, sz_b5, (own_cut1' V8 c10_4)⟩) (by decide) (by decide)
    ·
      refine own_st (fun t k => XS.icmpYes X0.here hx rfl (pc0 := 10) (pc' := 21) rfl (hb hby d1_10) rfl (feq c10_4).2 (by decide) (by decide) k) ?_
      show own_Go _ _ _ _ s₁ (mkF m 21 #[.val (.int ln), .val (.int ca), .val (.int cb)] [])
      refine own_st (fun t k => XS.iconst X0.here hx rfl (hb hby d1_21) k) ?_
      show own_Go _ _ _ _ s₁ (mkF m 22 #[.val (.int ln), .val (.int ca), .val (.int cb)] [(.int (2 : Int32))])
      obtain ⟨T10, h10, k10, X10, e10, E10, A10, st10⟩ := newP X0 hx hZ (hw _ (List.mem_of_getElem? (i := 7) rfl)) e0 (g := (mkF m 22 #[.val (.int ln), .val (.int ca), .val (.int cb)] [(.int (2 : Int32))])) rfl (hb hby d1_22) rfl (by decide) (cap := 2) (by decide) (by decide) (by decide) (by decide)
      obtain ⟨b10, g10⟩ : ∃ z, z = h0.size := ⟨_, rfl⟩
      rw [← g10] at A10 st10
      have sz_b10 : h0.size ≤ b10 := Nat.le_trans K0.1 (Nat.le_of_eq g10.symm)
      have g_b10 : n0 ≤ b10 := Nat.le_trans Z0 sz_b10
      have V10 : Arv Z h10 b10 k10 .char (2 : Int32) [(.int (0 : Int32)), (.int (0 : Int32))] (.int (0 : Int32)) := (Arv.new A10 (by decide)).pad (pad_rep [] (.int (0 : Int32)) 2)
      refine own_st st10 ?_
      show own_Go _ _ _ _ T10 (mkF m 24 #[.val (.int ln), .val (.int ca), .val (.int cb)] [(.ref b10)])
      refine own_st (fun t k => XS.dup X10.here hx rfl (hb hby d1_24) rfl rfl k) ?_
      show own_Go _ _ _ _ T10 (mkF m 25 #[.val (.int ln), .val (.int ca), .val (.int cb)] [(.ref b10), (.ref b10)])
      refine own_st (fun t k => XS.iconst X10.here hx rfl (hb hby d1_25) k) ?_
      show own_Go _ _ _ _ T10 (mkF m 26 #[.val (.int ln), .val (.int ca), .val (.int cb)] [(.int (0 : Int32)), (.ref b10), (.ref b10)])
      refine own_st (fun t k => XS.iloadN X10.here hx rfl (hb hby d1_26) rfl k) ?_
      show own_Go _ _ _ _ T10 (mkF m 27 #[.val (.int ln), .val (.int ca), .val (.int cb)] [(.int ca), (.int (0 : Int32)), (.ref b10), (.ref b10)])
      have K0_11 := (K0.ext E10)
      obtain ⟨cl12, Ar12, qk12, Sz12, Nn12, Hs12, Gf12⟩ := id V10
      have hin12 : ¬ ((0 : Int32) < 0 ∨ cl12.slots.size ≤ ((0 : Int32)).toNatClampNeg) := inb_of Sz12 ⟨by decide, by decide⟩
      obtain ⟨T13, h13, X13, e13, W13, st13⟩ := stC X10 hx hZ e10 Ar12 (j := (0 : Int32)) hin12 (g := (mkF m 27 #[.val (.int ln), .val (.int ca), .val (.int cb)] [(.int ca), (.int (0 : Int32)), (.ref b10), (.ref b10)])) rfl rfl (hb hby d1_27)
      have V13 : Arv Z h13 b10 k10 .char (2 : Int32) [(.int (nar .char ca)), (.int (0 : Int32))] (.int (0 : Int32)) := Arv.set Ar12 qk12 Sz12 Nn12 Hs12 Gf12 (fits_nar_char _) W13 0 rfl (Nat.le_of_ble_eq_true rfl)
      obtain ⟨_, X13, N13⟩ := own_hide X13 (Fr.snoc X13 N0 g_b10)
      refine own_st st13 ?_
      show own_Go _ _ _ _ T13 (mkF m 28 #[.val (.int ln), .val (.int ca), .val (.int cb)] [(.ref b10)])
      refine own_st (fun t k => XS.dup X13.here hx rfl (hb hby d1_28) rfl rfl k) ?_
      show own_Go _ _ _ _ T13 (mkF m 29 #[.val (.int ln), .val (.int ca), .val (.int cb)] [(.ref b10), (.ref b10)])
      refine own_st (fun t k => XS.iconst X13.here hx rfl (hb hby d1_29) k) ?_
      show own_Go _ _ _ _ T13 (mkF m 30 #[.val (.int ln), .val (.int ca), .val (.int cb)] [(.int (1 : Int32)), (.ref b10), (.ref b10)])
      refine own_st (fun t k => XS.iloadN X13.here hx rfl (hb hby d1_30) rfl k) ?_
      show own_Go _ _ _ _ T13 (mkF m 31 #[.val (.int ln), .val (.int ca), .val (.int cb)] [(.int cb), (.int (1 : Int32)), (.ref b10), (.ref b10)])
      have K0_14 := (K0_11.wr W13 (Or.inr sz_b10))
      obtain ⟨cl15, Ar15, qk15, Sz15, Nn15, Hs15, Gf15⟩ := id V13
      have hin15 : ¬ ((1 : Int32) < 0 ∨ cl15.slots.size ≤ ((1 : Int32)).toNatClampNeg) := inb_of Sz15 ⟨by decide, by decide⟩
      obtain ⟨T16, h16, X16, e16, W16, st16⟩ := stC X13 hx hZ e13 Ar15 (j := (1 : Int32)) hin15 (g := (mkF m 31 #[.val (.int ln), .val (.int ca), .val (.int cb)] [(.int cb), (.int (1 : Int32)), (.ref b10), (.ref b10)])) rfl rfl (hb hby d1_31)
      have V16 : Arv Z h16 b10 k10 .char (2 : Int32) [(.int (nar .char ca)), (.int (nar .char cb))] (.int (0 : Int32)) := Arv.set Ar15 qk15 Sz15 Nn15 Hs15 Gf15 (fits_nar_char _) W16 1 rfl (Nat.le_of_ble_eq_true rfl)
      obtain ⟨_, X16, N16⟩ := own_hide X16 (Fr.snoc X16 N13 g_b10)
      refine own_st st16 ?_
      show own_Go _ _ _ _ T16 (mkF m 32 #[.val (.int ln), .val (.int ca), .val (.int cb)] [(.ref b10)])
      have K0_17 := (K0_14.wr W16 (Or.inr sz_b10))
      exact own_retR X16 hx hlk hrt rfl rfl rfl (hb hby d1_32) (by rw [e16]; exact ⟨b10, k10, rfl, N16, K0_17, sz_b10, (own_012_2 hln c1_1 c10_4 ▸ V16)⟩) (by decide) (by decide)
/-! body 18: StringUTF16.compress -/
theorem d18_0 : decode jdk_52_method_21_code 0 = .ok (.iconst 0, 1) := by decide +kernel
theorem d18_1 : decode jdk_52_method_21_code 1 = .ok (.istore 5, 2) := by decide +kernel
theorem d18_3 : decode jdk_52_method_21_code 3 = .ok (.iload 5, 2) := by decide +kernel
theorem d18_5 : decode jdk_52_method_21_code 5 = .ok (.iload 4, 2) := by decide +kernel
theorem d18_7 : decode jdk_52_method_21_code 7 = .ok (.if_icmp .ge 37, 3) := by decide +kernel
theorem d18_10 : decode jdk_52_method_21_code 10 = .ok (.aload_n 0, 1) := by decide +kernel
theorem d18_11 : decode jdk_52_method_21_code 11 = .ok (.iload_n 1, 1) := by decide +kernel
theorem d18_12 : decode jdk_52_method_21_code 12 = .ok (.caload, 1) := by decide +kernel
theorem d18_13 : decode jdk_52_method_21_code 13 = .ok (.istore 6, 2) := by decide +kernel
theorem d18_15 : decode jdk_52_method_21_code 15 = .ok (.iload 6, 2) := by decide +kernel
theorem d18_17 : decode jdk_52_method_21_code 17 = .ok (.sipush 255, 3) := by decide +kernel
theorem d18_20 : decode jdk_52_method_21_code 20 = .ok (.if_icmp .le 6, 3) := by decide +kernel
theorem d18_26 : decode jdk_52_method_21_code 26 = .ok (.aload_n 2, 1) := by decide +kernel
theorem d18_27 : decode jdk_52_method_21_code 27 = .ok (.iload_n 3, 1) := by decide +kernel
theorem d18_28 : decode jdk_52_method_21_code 28 = .ok (.iload 6, 2) := by decide +kernel
theorem d18_30 : decode jdk_52_method_21_code 30 = .ok (.i2b, 1) := by decide +kernel
theorem d18_31 : decode jdk_52_method_21_code 31 = .ok (.bastore, 1) := by decide +kernel
theorem d18_32 : decode jdk_52_method_21_code 32 = .ok (.iinc 1 1, 3) := by decide +kernel
theorem d18_35 : decode jdk_52_method_21_code 35 = .ok (.iinc 3 1, 3) := by decide +kernel
theorem d18_38 : decode jdk_52_method_21_code 38 = .ok (.iinc 5 1, 3) := by decide +kernel
theorem d18_41 : decode jdk_52_method_21_code 41 = .ok (.goto (-38), 3) := by decide +kernel
theorem d18_44 : decode jdk_52_method_21_code 44 = .ok (.iload 4, 2) := by decide +kernel
theorem d18_46 : decode jdk_52_method_21_code 46 = .ok (.ireturn, 1) := by decide +kernel
theorem pn_java_lang_StringUTF16 : plainName "java/lang/StringUTF16" = true := by first | (simp [plainName, overriddenIn]; done) | decide +kernel
theorem ef_18 (m : MethodId) (x0 : Addr) (x1 : Int32) (x2 : Addr) (x3 : Int32) (x4 : Int32) : entryFrame m #[(.ref x0), (.int x3), (.ref x2), (.int x3), (.int x4)] 7 = mkF m 0 #[.val (.ref x0), .val (.int x3), .val (.ref x2), .val (.int x3), .val (.int x4), .unset, .unset] [] := by first | (simp [entryFrame, mkF, argsToLocals, Value.category]; done) | rfl
def Q18 (Z : State) (r0 : Addr) (r2 : Addr) (nn : Int32) (kr : ClassId) (kb : ClassId) (c0 : Int32) (c1 : Int32) (h0 : Heap) (n0 : Nat) (v : Option Value) (h : Heap) (L : List Loc) : Prop := v = some (.int nn) ∧ Fr n0 L ∧ Keep h0 h [r2] ∧ Arv Z h r2 kb .byte nn [(.int (nar .byte (c0.toInt8.toInt32))), (.int (nar .byte (c1.toInt8.toInt32)))] (.int (0 : Int32))
set_option maxRecDepth 65536 in
set_option maxHeartbeats 40000000 in
theorem rm18 (l : Launch) (Z : State) (a0 : Array Value) (hw : ∀ d ∈ tables_1, d.before a0 Z = true) (ws : List Jvm.Cond) (r0 : Addr) (r2 : Addr) (nn : Int32) (kr : ClassId) (kb : ClassId) (c0 : Int32) (c1 : Int32) (h0 : Heap) (n0 : Nat) (Z0 : n0 ≤ h0.size) (E_r2 : Exa Z h0 r2 "[B") (g_r2 : n0 ≤ r2) (Vr : Arv Z h0 r0 kr .char nn [(.int c0), (.int c1)] (.int (0 : Int32))) (Vb : Arv Z h0 r2 kb .byte nn [(.int (0 : Int32)), (.int (0 : Int32))] (.int (0 : Int32))) (ne02 : r0 ≠ r2) (hn : own_012 nn) (hp : (0 : Int32) < nn) (hc0 : ¬ (255 : Int32) < c0) (hc1 : ¬ (255 : Int32) < c1) :
    MetFree l (⟨"java/lang/StringUTF16", "compress", "([CI[BII)I"⟩ : MethodName) (head1 (Jvm.Cond.code (⟨"java/lang/StringUTF16", "compress", "([CI[BII)I"⟩ : MethodName) jdk_52_method_21_code 7 (some .int) :: ws) ({ frames := 0, cells := 0, slots := 0, locals := 0 } : Room)) (fun a U => a = #[(.ref r0), (.int (0 : Int32)), (.ref r2), (.int (0 : Int32)), (.int nn)] ∧ Z.Warmed39 U.vm ∧ U.heap = h0) (fun _ _ _ _ _ => True) (fun _ U o U' => ∃ v L, o = .returned v ∧ Q18 Z r0 r2 nn kr kb c0 c1 h0 n0 v U'.heap L ∧ FrameEnd U o U' L ({ frames := 0, cells := 0, slots := 0, locals := 0 } : Room).cells ({ frames := 0, cells := 0, slots := 0, locals := 0 } : Room).slots) := by
  refine MetFree.of_bodySF (plainFor_of_name pn_java_lang_StringUTF16) hisR ?_
  intro p e s m args below meth c s₁ Bd hml0 hP hK
  obtain ⟨rfl, hZ, hh⟩ := hP
  have hx := Bd.exec
  have hby := Bd.bytes
  have hlk := Bd.notSynchronized
  have hrt := Bd.returns
  have hml : c.maxLocals = 7 := hml0
  have hown : s.vm.findClass "java/lang/StringUTF16" = some m.cls := findClass_of_methodNamed Bd.named
  have hnm := (name_of_methodNamed Bd.named Bd.method).1
  have X0 : Stand p l e ({ frames := 0, cells := 0, slots := 0, locals := 0 } : Room) s m #[(.ref r0), (.int (0 : Int32)), (.ref r2), (.int (0 : Int32)), (.int nn)] below meth c s₁ [] 0 0 := Stand.of_body Bd
  have e0 : s₁.heap = h0 := by rw [← hh, Bd.state]; rfl
  have N0 := Fr.nil n0
  have K0 := Keep.refl h0 [r2]
  refine own_out (Q := Q18 Z r0 r2 nn kr kb c0 c1 h0 n0) ?_
  refine own_in (ef_18 m r0 (0 : Int32) r2 (0 : Int32) nn) ?_
  show own_Go _ _ _ _ s₁ (mkF m 0 #[.val (.ref r0), .val (.int (0 : Int32)), .val (.ref r2), .val (.int (0 : Int32)), .val (.int nn), .unset, .unset] [])
  refine own_st (fun t k => XS.iconst X0.here hx rfl (hb hby d18_0) k) ?_
  show own_Go _ _ _ _ s₁ (mkF m 1 #[.val (.ref r0), .val (.int (0 : Int32)), .val (.ref r2), .val (.int (0 : Int32)), .val (.int nn), .unset, .unset] [(.int (0 : Int32))])
  refine own_st (fun t k => XS.istore X0.here hx rfl (hb hby d18_1) rfl (l' := #[.val (.ref r0), .val (.int (0 : Int32)), .val (.ref r2), .val (.int (0 : Int32)), .val (.int nn), .val (.int (0 : Int32)), .unset]) rfl k) ?_
  show own_Go _ _ _ _ s₁ (mkF m 3 #[.val (.ref r0), .val (.int (0 : Int32)), .val (.ref r2), .val (.int (0 : Int32)), .val (.int nn), .val (.int (0 : Int32)), .unset] [])
  refine own_st (fun t k => XS.iload X0.here hx rfl (hb hby d18_3) rfl k) ?_
  show own_Go _ _ _ _ s₁ (mkF m 5 #[.val (.ref r0), .val (.int (0 : Int32)), .val (.ref r2), .val (.int (0 : Int32)), .val (.int nn), .val (.int (0 : Int32)), .unset] [(.int (0 : Int32))])
  refine own_st (fun t k => XS.iload X0.here hx rfl (hb hby d18_5) rfl k) ?_
  show own_Go _ _ _ _ s₁ (mkF m 7 #[.val (.ref r0), .val (.int (0 : Int32)), .val (.ref r2), .val (.int (0 : Int32)), .val (.int nn), .val (.int (0 : Int32)), .unset] [(.int nn), (.int (0 : Int32))])
  refine own_st (fun t k => XS.icmpNo X0.here hx rfl (hb hby d18_7) rfl (tlt hp).2.1 k) ?_
  show own_Go _ _ _ _ s₁ (mkF m 10 #[.val (.ref r0), .val (.int (0 : Int32)), .val (.ref r2), .val (.int (0 : Int32)), .val (.int nn), .val (.int (0 : Int32)), .unset] [])
  refine own_st (fun t k => XS.aloadN X0.here hx rfl (hb hby d18_10) rfl rfl k) ?_
  show own_Go _ _ _ _ s₁ (mkF m 11 #[.val (.ref r0), .val (.int (0 : Int32)), .val (.ref r2), .val (.int (0 : Int32)), .val (.int nn), .val (.int (0 : Int32)), .unset] [(.ref r0)])
  refine own_st (fun t k => XS.iloadN X0.here hx rfl (hb hby d18_11) rfl k) ?_
  show own_Go _ _ _ _ s₁ (mkF m 12 #[.val (.ref r0), .val (.int (0 : Int32)), .val (.ref r2), .val (.int (0 : Int32)), .val (.int nn), .val (.int (0 : Int32)), .unset] [(.int (0 : Int32)), (.ref r0)])
  obtain ⟨cl1, Ar1, qk1, Sz1, Nn1, Hs1, Gf1⟩ := id Vr
  have hin1 : ¬ ((0 : Int32) < 0 ∨ cl1.slots.size ≤ ((0 : Int32)).toNatClampNeg) := inb_of Sz1 ⟨by decide, hp⟩
  have hat1 : cl1.slots[((0 : Int32)).toNatClampNeg]? = some (.int c0) := Has.at Hs1 hin1 rfl
  refine own_st (X0.caload hx (j := (0 : Int32)) (v := (.int c0)) (by rw [e0]; exact Ar1.1) (State.isArrayOf_alike hZ.alike Ar1.2.1) Ar1.2.2 hin1 hat1 (g := (mkF m 12 #[.val (.ref r0), .val (.int (0 : Int32)), .val (.ref r2), .val (.int (0 : Int32)), .val (.int nn), .val (.int (0 : Int32)), .unset] [(.int (0 : Int32)), (.ref r0)])) rfl rfl (hb hby d18_12)) ?_
  show own_Go _ _ _ _ s₁ (mkF m 13 #[.val (.ref r0), .val (.int (0 : Int32)), .val (.ref r2), .val (.int (0 : Int32)), .val (.int nn), .val (.int (0 : Int32)), .unset] [(.int c0)])
  refine own_st (fun t k => XS.istore X0.here hx rfl (hb hby d18_13) rfl (l' := #[.val (.ref r0), .val (.int (0 : Int32)), .val (.ref r2), .val (.int (0 : Int32)), .val (.int nn), .val (.int (0 : Int32)), .val (.int c0)]) rfl k) ?_
  show own_Go _ _ _ _ s₁ (mkF m 15 #[.val (.ref r0), .val (.int (0 : Int32)), .val (.ref r2), .val (.int (0 : Int32)), .val (.int nn), .val (.int (0 : Int32)), .val (.int c0)] [])
  refine own_st (fun t k => XS.iload X0.here hx rfl (hb hby d18_15) rfl k) ?_
  show own_Go _ _ _ _ s₁ (mkF m 17 #[.val (.ref r0), .val (.int (0 : Int32)), .val (.ref r2), .val (.int (0 : Int32)), .val (.int nn), .val (.int (0 : Int32)), .val (.int c0)] [(.int c0)])
  refine own_st (fun t k => XS.sipush X0.here hx rfl (hb hby d18_17) k) ?_
  show own_Go _ _ _ _ s₁ (mkF m 20 #[.val (.ref r0), .val (.int (0 : Int32)), .val (.ref r2), .val (.int (0 : Int32)), .val (.int nn), .val (.int (0 : Int32)), .val (.int c0)] [(.int (255 : Int32)), (.int c0)])
  refine own_st (fun t k => XS.icmpYes X0.here hx rfl (pc0 := 20) (pc' := 26) rfl (hb hby d18_20) rfl (flt hc0).2.2.2 (by decide) (by decide) k) ?_
  show own_Go _ _ _ _ s₁ (mkF m 26 #[.val (.ref r0), .val (.int (0 : Int32)), .val (.ref r2), .val (.int (0 : Int32)), .val (.int nn), .val (.int (0 : Int32)), .val (.int c0)] [])
  refine own_st (fun t k => XS.aloadN X0.here hx rfl (hb hby d18_26) rfl rfl k) ?_
  show own_Go _ _ _ _ s₁ (mkF m 27 #[.val (.ref r0), .val (.int (0 : Int32)), .val (.ref r2), .val (.int (0 : Int32)), .val (.int nn), .val (.int (0 : Int32)), .val (.int c0)] [(.ref r2)])
  refine own_st (fun t k => XS.iloadN X0.here hx rfl (hb hby d18_27) rfl k) ?_
  show own_Go _ _ _ _ s₁ (mkF m 28 #[.val (.ref r0), .val (.int (0 : Int32)), .val (.ref r2), .val (.int (0 : Int32)), .val (.int nn), .val (.int (0 : Int32)), .val (.int c0)] [(.int (0 : Int32)), (.ref r2)])
  refine own_st (fun t k => XS.iload X0.here hx rfl (hb hby d18_28) rfl k) ?_
  show own_Go _ _ _ _ s₁ (mkF m 30 #[.val (.ref r0), .val (.int (0 : Int32)), .val (.ref r2), .val (.int (0 : Int32)), .val (.int nn), .val (.int (0 : Int32)), .val (.int c0)] [(.int c0), (.int (0 : Int32)), (.ref r2)])
  refine own_st (fun t k => XS.i2b X0.here hx rfl (hb hby d18_30) rfl k) ?_
  show own_Go _ _ _ _ s₁ (mkF m 31 #[.val (.ref r0), .val (.int (0 : Int32)), .val (.ref r2), .val (.int (0 : Int32)), .val (.int nn), .val (.int (0 : Int32)), .val (.int c0)] [(.int (c0.toInt8.toInt32)), (.int (0 : Int32)), (.ref r2)])
  obtain ⟨cl2, Ar2, qk2, Sz2, Nn2, Hs2, Gf2⟩ := id Vb
  have hin2 : ¬ ((0 : Int32) < 0 ∨ cl2.slots.size ≤ ((0 : Int32)).toNatClampNeg) := inb_of Sz2 ⟨by decide, hp⟩
  obtain ⟨T3, h3, X3, e3, W3, st3⟩ := stB X0 hx hZ e0 Ar2 (j := (0 : Int32)) hin2 (g := (mkF m 31 #[.val (.ref r0), .val (.int (0 : Int32)), .val (.ref r2), .val (.int (0 : Int32)), .val (.int nn), .val (.int (0 : Int32)), .val (.int c0)] [(.int (c0.toInt8.toInt32)), (.int (0 : Int32)), (.ref r2)])) rfl rfl (hb hby d18_31)
  have V3 : Arv Z h3 r2 kb .byte nn [(.int (nar .byte (c0.toInt8.toInt32))), (.int (0 : Int32))] (.int (0 : Int32)) := Arv.set Ar2 qk2 Sz2 Nn2 Hs2 Gf2 (fits_nar_byte _) W3 0 rfl (Nat.le_of_ble_eq_true rfl)
  obtain ⟨_, X3, N3⟩ := own_hide X3 (Fr.snoc X3 N0 g_r2)
  refine own_st st3 ?_
  show own_Go _ _ _ _ T3 (mkF m 32 #[.val (.ref r0), .val (.int (0 : Int32)), .val (.ref r2), .val (.int (0 : Int32)), .val (.int nn), .val (.int (0 : Int32)), .val (.int c0)] [])
  refine own_st (fun t k => XS.iinc X3.here hx rfl (hb hby d18_32) rfl (l' := #[.val (.ref r0), .val (.int (1 : Int32)), .val (.ref r2), .val (.int (0 : Int32)), .val (.int nn), .val (.int (0 : Int32)), .val (.int c0)]) rfl k) ?_
  show own_Go _ _ _ _ T3 (mkF m 35 #[.val (.ref r0), .val (.int (1 : Int32)), .val (.ref r2), .val (.int (0 : Int32)), .val (.int nn), .val (.int (0 : Int32)), .val (.int c0)] [])
  refine own_st (fun t k => XS.iinc X3.here hx rfl (hb hby d18_35) rfl (l' := #[.val (.ref r0), .val (.int (1 : Int32)), .val (.ref r2), .val (.int (1 : Int32)), .val (.int nn), .val (.int (0 : Int32)), .val (.int c0)]) rfl k) ?_
  show own_Go _ _ _ _ T3 (mkF m 38 #[.val (.ref r0), .val (.int (1 : Int32)), .val (.ref r2), .val (.int (1 : Int32)), .val (.int nn), .val (.int (0 : Int32)), .val (.int c0)] [])
  refine own_st (fun t k => XS.iinc X3.here hx rfl (hb hby d18_38) rfl (l' := #[.val (.ref r0), .val (.int (1 : Int32)), .val (.ref r2), .val (.int (1 : Int32)), .val (.int nn), .val (.int (1 : Int32)), .val (.int c0)]) rfl k) ?_
  show own_Go _ _ _ _ T3 (mkF m 41 #[.val (.ref r0), .val (.int (1 : Int32)), .val (.ref r2), .val (.int (1 : Int32)), .val (.int nn), .val (.int (1 : Int32)), .val (.int c0)] [])
  refine own_st (fun t k => XS.goto X3.here hx rfl (pc0 := 41) (pc' := 3) rfl (hb hby d18_41) (by decide) (by decide) k) ?_
  show own_Go _ _ _ _ T3 (mkF m 3 #[.val (.ref r0), .val (.int (1 : Int32)), .val (.ref r2), .val (.int (1 : Int32)), .val (.int nn), .val (.int (1 : Int32)), .val (.int c0)] [])
  refine own_st (fun t k => XS.iload X3.here hx rfl (hb hby d18_3) rfl k) ?_
  show own_Go _ _ _ _ T3 (mkF m 5 #[.val (.ref r0), .val (.int (1 : Int32)), .val (.ref r2), .val (.int (1 : Int32)), .val (.int nn), .val (.int (1 : Int32)), .val (.int c0)] [(.int (1 : Int32))])
  refine own_st (fun t k => XS.iload X3.here hx rfl (hb hby d18_5) rfl k) ?_
  show own_Go _ _ _ _ T3 (mkF m 7 #[.val (.ref r0), .val (.int (1 : Int32)), .val (.ref r2), .val (.int (1 : Int32)), .val (.int nn), .val (.int (1 : Int32)), .val (.int c0)] [(.int nn), (.int (1 : Int32))])
  by_cases c7_4 : (1 : Int32) < nn
  ·
    refine own_st (fun t k => XS.icmpNo X3.here hx rfl (hb hby d18_7) rfl (tlt c7_4).2.1 k) ?_
    show own_Go _ _ _ _ T3 (mkF m 10 #[.val (.ref r0), .val (.int (1 : Int32)), .val (.ref r2), .val (.int (1 : Int32)), .val (.int nn), .val (.int (1 : Int32)), .val (.int c0)] [])
    refine own_st (fun t k => XS.aloadN X3.here hx rfl (hb hby d18_10) rfl rfl k) ?_
    show own_Go _ _ _ _ T3 (mkF m 11 #[.val (.ref r0), .val (.int (1 : Int32)), .val (.ref r2), .val (.int (1 : Int32)), .val (.int nn), .val (.int (1 : Int32)), .val (.int c0)] [(.ref r0)])
    refine own_st (fun t k => XS.iloadN X3.here hx rfl (hb hby d18_11) rfl k) ?_
    show own_Go _ _ _ _ T3 (mkF m 12 #[.val (.ref r0), .val (.int (1 : Int32)), .val (.ref r2), .val (.int (1 : Int32)), .val (.int nn), .val (.int (1 : Int32)), .val (.int c0)] [(.int (1 : Int32)), (.ref r0)])
    have Vr_6 := (Vr.other W3 ne02)
    obtain ⟨cl5, Ar5, qk5, Sz5, Nn5, Hs5, Gf5⟩ := id Vr_6
    have hin5 : ¬ ((1 : Int32) < 0 ∨ cl5.slots.size ≤ ((1 : Int32)).toNatClampNeg) := inb_of Sz5 ⟨by decide, c7_4⟩
    have hat5 : cl5.slots[((1 : Int32)).toNatClampNeg]? = some (.int c1) := Has.at Hs5 hin5 rfl
    refine own_st (X3.caload hx (j := (1 : Int32)) (v := (.int c1)) (by rw [e3]; exact Ar5.1) (State.isArrayOf_alike hZ.alike Ar5.2.1) Ar5.2.2 hin5 hat5 (g := (mkF m 12 #[.val (.ref r0), .val (.int (1 : Int32)), .val (.ref r2), .val (.int (1 : Int32)), .val (.int nn), .val (.int (1 : Int32)), .val (.int c0)] [(.int (1 : Int32)), (.ref r0)])) rfl rfl (hb hby d18_12)) ?_
    show own_Go _ _ _ _ T3 (mkF m 13 #[.val (.ref r0), .val (.int (1 : Int32)), .val (.ref r2), .val (.int (1 : Int32)), .val (.int nn), .val (.int (1 : Int32)), .val (.int c0)] [(.int c1)])
    refine own_st (fun t k => XS.istore X3.here hx rfl (hb hby d18_13) rfl (l' := #[.val (.ref r0), .val (.int (1 : Int32)), .val (.ref r2), .val (.int (1 : Int32)), .val (.int nn), .val (.int (1 : Int32)), .val (.int c1)]) rfl k) ?_
    show own_Go _ _ _ _ T3 (mkF m 15 #[.val (.ref r0), .val (.int (1 : Int32)), .val (.ref r2), .val (.int (1 : Int32)), .val (.int nn), .val (.int (1 : Int32)), .val (.int c1)] [])
    refine own_st (fun t k => XS.iload X3.here hx rfl (hb hby d18_15) rfl k) ?_
    show own_Go _ _ _ _ T3 (mkF m 17 #[.val (.ref r0), .val (.int (1 : Int32)), .val (.ref r2), .val (.int (1 : Int32)), .val (.int nn), .val (.int (1 : Int32)), .val (.int c1)] [(.int c1)])
    refine own_st (fun t k => XS.sipush X3.here hx rfl (hb hby d18_17) k) ?_
    show own_Go _ _ _ _ T3 (mkF m 20 #[.val (.ref r0), .val (.int (1 : Int32)), .val (.ref r2), .val (.int (1 : Int32)), .val (.int nn), .val (.int (1 : Int32)), .val (.int c1)] [(.int (255 : Int32)), (.int c1)])
    refine own_st (fun t k => XS.icmpYes X3.here hx rfl (pc0 := 20) (pc' := 26) rfl (hb hby d18_20) rfl (flt hc1).2.2.2 (by decide) (by decide) k) ?_
    show own_Go _ _ _ _ T3 (mkF m 26 #[.val (.ref r0), .val (.int (1 : Int32)), .val (.ref r2), .val (.int (1 : Int32)), .val (.int nn), .val (.int (1 : Int32)), .val (.int c1)] [])
    refine own_st (fun t k => XS.aloadN X3.here hx rfl (hb hby d18_26) rfl rfl k) ?_
    show own_Go _ _ _ _ T3 (mkF m 27 #[.val (.ref r0), .val (.int (1 : Int32)), .val (.ref r2), .val (.int (1 : Int32)), .val (.int nn), .val (.int (1 : Int32)), .val (.int c1)] [(.ref r2)])
    refine own_st (fun t k => XS.iloadN X3.here hx rfl (hb hby d18_27) rfl k) ?_
    show own_Go _ _ _ _ T3 (mkF m 28 #[.val (.ref r0), .val (.int (1 : Int32)), .val (.ref r2), .val (.int (1 : Int32)), .val (.int nn), .val (.int (1 : Int32)), .val (.int c1)] [(.int (1 : Int32)), (.ref r2)])
    refine own_st (fun t k => XS.iload X3.here hx rfl (hb hby d18_28) rfl k) ?_
    show own_Go _ _ _ _ T3 (mkF m 30 #[.val (.ref r0), .val (.int (1 : Int32)), .val (.ref r2), .val (.int (1 : Int32)), .val (.int nn), .val (.int (1 : Int32)), .val (.int c1)] [(.int c1), (.int (1 : Int32)), (.ref r2)])
    refine own_st (fun t k => XS.i2b X3.here hx rfl (hb hby d18_30) rfl k) ?_
    show own_Go _ _ _ _ T3 (mkF m 31 #[.val (.ref r0), .val (.int (1 : Int32)), .val (.ref r2), .val (.int (1 : Int32)), .val (.int nn), .val (.int (1 : Int32)), .val (.int c1)] [(.int (c1.toInt8.toInt32)), (.int (1 : Int32)), (.ref r2)])
    have K0_7 := (K0.wr W3 (Or.inl (List.mem_of_getElem? (i := 0) rfl)))
    obtain ⟨cl8, Ar8, qk8, Sz8, Nn8, Hs8, Gf8⟩ := id V3
    have hin8 : ¬ ((1 : Int32) < 0 ∨ cl8.slots.size ≤ ((1 : Int32)).toNatClampNeg) := inb_of Sz8 ⟨by decide, c7_4⟩
    obtain ⟨T9, h9, X9, e9, W9, st9⟩ := stB X3 hx hZ e3 Ar8 (j := (1 : Int32)) hin8 (g := (mkF m 31 #[.val (.ref r0), .val (.int (1 : Int32)), .val (.ref r2), .val (.int (1 : Int32)), .val (.int nn), .val (.int (1 : Int32)), .val (.int c1)] [(.int (c1.toInt8.toInt32)), (.int (1 : Int32)), (.ref r2)])) rfl rfl (hb hby d18_31)
    have V9 : Arv Z h9 r2 kb .byte nn [(.int (nar .byte (c0.toInt8.toInt32))), (.int (nar .byte (c1.toInt8.toInt32)))] (.int (0 : Int32)) := Arv.set Ar8 qk8 Sz8 Nn8 Hs8 Gf8 (fits_nar_byte _) W9 1 rfl (Nat.le_of_ble_eq_true rfl)
    obtain ⟨_, X9, N9⟩ := own_hide X9 (Fr.snoc X9 N3 g_r2)
    refine own_st st9 ?_
    show own_Go _ _ _ _ T9 (mkF m 32 #[.val (.ref r0), .val (.int (1 : Int32)), .val (.ref r2), .val (.int (1 : Int32)), .val (.int nn), .val (.int (1 : Int32)), .val (.int c1)] [])
    refine own_st (fun t k => XS.iinc X9.here hx rfl (hb hby d18_32) rfl (l' := #[.val (.ref r0), .val (.int (2 : Int32)), .val (.ref r2), .val (.int (1 : Int32)), .val (.int nn), .val (.int (1 : Int32)), .val (.int c1)]) rfl k) ?_
    show own_Go _ _ _ _ T9 (mkF m 35 #[.val (.ref r0), .val (.int (2 : Int32)), .val (.ref r2), .val (.int (1 : Int32)), .val (.int nn), .val (.int (1 : Int32)), .val (.int c1)] [])
    refine own_st (fun t k => XS.iinc X9.here hx rfl (hb hby d18_35) rfl (l' := #[.val (.ref r0), .val (.int (2 : Int32)), .val (.ref r2), .val (.int (2 : Int32)), .val (.int nn), .val (.int (1 : Int32)), .val (.int c1)]) rfl k) ?_
    show own_Go _ _ _ _ T9 (mkF m 38 #[.val (.ref r0), .val (.int (2 : Int32)), .val (.ref r2), .val (.int (2 : Int32)), .val (.int nn), .val (.int (1 : Int32)), .val (.int c1)] [])
    refine own_st (fun t k => XS.iinc X9.here hx rfl (hb hby d18_38) rfl (l' := #[.val (.ref r0), .val (.int (2 : Int32)), .val (.ref r2), .val (.int (2 : Int32)), .val (.int nn), .val (.int (2 : Int32)), .val (.int c1)]) rfl k) ?_
    show own_Go _ _ _ _ T9 (mkF m 41 #[.val (.ref r0), .val (.int (2 : Int32)), .val (.ref r2), .val (.int (2 : Int32)), .val (.int nn), .val (.int (2 : Int32)), .val (.int c1)] [])
    refine own_st (fun t k => XS.goto X9.here hx rfl (pc0 := 41) (pc' := 3) rfl (hb hby d18_41) (by decide) (by decide) k) ?_
    show own_Go _ _ _ _ T9 (mkF m 3 #[.val (.ref r0), .val (.int (2 : Int32)), .val (.ref r2), .val (.int (2 : Int32)), .val (.int nn), .val (.int (2 : Int32)), .val (.int c1)] [])
    refine own_st (fun t k => XS.iload X9.here hx rfl (hb hby d18_3) rfl k) ?_
    show own_Go _ _ _ _ T9 (mkF m 5 #[.val (.ref r0), .val (.int (2 : Int32)), .val (.ref r2), .val (.int (2 : Int32)), .val (.int nn), .val (.int (2 : Int32)), .val (.int c1)] [(.int (2 : Int32))])
    refine own_st (fun t k => XS.iload X9.here hx rfl (hb hby d18_5) rfl k) ?_
    show own_Go _ _ _ _ T9 (mkF m 7 #[.val (.ref r0), .val (.int (2 : Int32)), .val (.ref r2), .val (.int (2 : Int32)), .val (.int nn), .val (.int (2 : Int32)), .val (.int c1)] [(.int nn), (.int (2 : Int32))])
    refine own_st (fun t k => XS.icmpYes X9.here hx rfl (pc0 := 7) (pc' := 44) rfl (hb hby d18_7) rfl (flt ((own_012_n2 hn) : ¬ ((2 : Int32) < nn))).2.1 (by decide) (by decide) k) ?_
    show own_Go _ _ _ _ T9 (mkF m 44 #[.val (.ref r0), .val (.int (2 : Int32)), .val (.ref r2), .val (.int (2 : Int32)), .val (.int nn), .val (.int (2 : Int32)), .val (.int c1)] [])
    refine own_st (fun t k => XS.iload X9.here hx rfl (hb hby d18_44) rfl k) ?_
    show own_Go _ _ _ _ T9 (mkF m 46 #[.val (.ref r0), .val (.int (2 : Int32)), .val (.ref r2), .val (.int (2 : Int32)), .val (.int nn), .val (.int (2 : Int32)), .val (.int c1)] [(.int nn)])
    have K0_10 := (K0_7.wr W9 (Or.inl (List.mem_of_getElem? (i := 0) rfl)))
    exact own_retI X9 hx hlk hrt (hb hby d18_46) (by rw [e9]; exact ⟨rfl, N9, K0_10, V9⟩) (by decide) (by decide)
  ·
    refine own_st (fun t k => XS.icmpYes X3.here hx rfl (pc0 := 7) (pc' := 44) rfl (hb hby d18_7) rfl (flt c7_4).2.1 (by decide) (by decide) k) ?_
    show own_Go _ _ _ _ T3 (mkF m 44 #[.val (.ref r0), .val (.int (1 : Int32)), .val (.ref r2), .val (.int (1 : Int32)), .val (.int nn), .val (.int (1 : Int32)), .val (.int c0)] [])
    refine own_st (fun t k => XS.iload X3.here hx rfl (hb hby d18_44) rfl k) ?_
    show own_Go _ _ _ _ T3 (mkF m 46 #[.val (.ref r0), .val (.int (1 : Int32)), .val (.ref r2), .val (.int (1 : Int32)), .val (.int nn), .val (.int (1 : Int32)), .val (.int c0)] [(.int nn)])
    have K0_11 := (K0.wr W3 (Or.inl (List.mem_of_getElem? (i := 0) rfl)))
    exact own_retI X3 hx hlk hrt (hb hby d18_46) (by rw [e3]; exact ⟨rfl, N3, K0_11, (own_cut1 V3 (own_012_1 hn hp c7_4))⟩) (by decide) (by decide)
theorem pd__28_5bCI_5bBII_29I : parseMethodDescriptor "([CI[BII)I" = some ⟨[(.array .char), .int, (.array .byte), .int, .int], some .int⟩ := by decide +kernel
/-! body 17: StringUTF16.compress -/
theorem d17_0 : decode jdk_52_method_16_code 0 = .ok (.iload_n 2, 1) := by decide +kernel
theorem d17_1 : decode jdk_52_method_16_code 1 = .ok (.newarray .byte, 2) := by decide +kernel
theorem d17_3 : decode jdk_52_method_16_code 3 = .ok (.astore_n 3, 1) := by decide +kernel
theorem d17_4 : decode jdk_52_method_16_code 4 = .ok (.aload_n 0, 1) := by decide +kernel
theorem d17_5 : decode jdk_52_method_16_code 5 = .ok (.iload_n 1, 1) := by decide +kernel
theorem d17_6 : decode jdk_52_method_16_code 6 = .ok (.aload_n 3, 1) := by decide +kernel
theorem d17_7 : decode jdk_52_method_16_code 7 = .ok (.iconst 0, 1) := by decide +kernel
theorem d17_8 : decode jdk_52_method_16_code 8 = .ok (.iload_n 2, 1) := by decide +kernel
theorem d17_9 : decode jdk_52_method_16_code 9 = .ok (.invokestatic 115, 3) := by decide +kernel
theorem d17_12 : decode jdk_52_method_16_code 12 = .ok (.istore 4, 2) := by decide +kernel
theorem d17_14 : decode jdk_52_method_16_code 14 = .ok (.iload 4, 2) := by decide +kernel
theorem d17_16 : decode jdk_52_method_16_code 16 = .ok (.iload_n 2, 1) := by decide +kernel
theorem d17_17 : decode jdk_52_method_16_code 17 = .ok (.if_icmp .eq 40, 3) := by decide +kernel
theorem d17_57 : decode jdk_52_method_16_code 57 = .ok (.aload_n 3, 1) := by decide +kernel
theorem d17_58 : decode jdk_52_method_16_code 58 = .ok (.areturn, 1) := by decide +kernel
theorem ef_17 (m : MethodId) (x0 : Addr) (x1 : Int32) (x2 : Int32) : entryFrame m #[(.ref x0), (.int x1), (.int x2)] 6 = mkF m 0 #[.val (.ref x0), .val (.int x1), .val (.int x2), .unset, .unset, .unset] [] := by first | (simp [entryFrame, mkF, argsToLocals, Value.category]; done) | rfl
def Q17 (Z : State) (r0 : Addr) (nn : Int32) (kr : ClassId) (c0 : Int32) (c1 : Int32) (h0 : Heap) (n0 : Nat) (v : Option Value) (h : Heap) (L : List Loc) : Prop := ∃ (b : Addr) (k : ClassId), v = some (.ref b) ∧ Fr n0 L ∧ Keep h0 h [] ∧ h0.size ≤ b ∧ Exa Z h b "[B" ∧ Arv Z h b k .byte nn [(.int (nar .byte (c0.toInt8.toInt32))), (.int (nar .byte (c1.toInt8.toInt32)))] (.int (0 : Int32))
set_option maxRecDepth 65536 in
set_option maxHeartbeats 40000000 in
theorem rm17 (l : Launch) (Z : State) (a0 : Array Value) (hw : ∀ d ∈ tables_1, d.before a0 Z = true) (ws : List Jvm.Cond) (r0 : Addr) (nn : Int32) (kr : ClassId) (c0 : Int32) (c1 : Int32) (h0 : Heap) (n0 : Nat) (Z0 : n0 ≤ h0.size) (Vr : Arv Z h0 r0 kr .char nn [(.int c0), (.int c1)] (.int (0 : Int32))) (hn : own_012 nn) (hp : (0 : Int32) < nn) (hc0 : ¬ (255 : Int32) < c0) (hc1 : ¬ (255 : Int32) < c1) :
    MetFree l (⟨"java/lang/StringUTF16", "compress", "([CII)[B"⟩ : MethodName) (head1 (Jvm.Cond.code (⟨"java/lang/StringUTF16", "compress", "([CII)[B"⟩ : MethodName) jdk_52_method_16_code 6 (some (.array .byte)) :: ws) ({ frames := 1, cells := 1, slots := 2, locals := 18 } : Room)) (fun a U => a = #[(.ref r0), (.int (0 : Int32)), (.int nn)] ∧ Z.Warmed39 U.vm ∧ U.heap = h0) (fun _ _ _ _ _ => True) (fun _ U o U' => ∃ v L, o = .returned v ∧ Q17 Z r0 nn kr c0 c1 h0 n0 v U'.heap L ∧ FrameEnd U o U' L ({ frames := 1, cells := 1, slots := 2, locals := 18 } : Room).cells ({ frames := 1, cells := 1, slots := 2, locals := 18 } : Room).slots) := by
  refine MetFree.of_bodySF (plainFor_of_name pn_java_lang_StringUTF16) hisR ?_
  intro p e s m args below meth c s₁ Bd hml0 hP hK
  obtain ⟨rfl, hZ, hh⟩ := hP
  have hx := Bd.exec
  have hby := Bd.bytes
  have hlk := Bd.notSynchronized
  have hrt := Bd.returns
  have hml : c.maxLocals = 6 := hml0
  have hown : s.vm.findClass "java/lang/StringUTF16" = some m.cls := findClass_of_methodNamed Bd.named
  have hnm := (name_of_methodNamed Bd.named Bd.method).1
  have X0 : Stand p l e ({ frames := 1, cells := 1, slots := 2, locals := 18 } : Room) s m #[(.ref r0), (.int (0 : Int32)), (.int nn)] below meth c s₁ [] 0 0 := Stand.of_body Bd
  have e0 : s₁.heap = h0 := by rw [← hh, Bd.state]; rfl
  have N0 := Fr.nil n0
  have K0 := Keep.refl h0 []
  refine own_out (Q := Q17 Z r0 nn kr c0 c1 h0 n0) ?_
  refine own_in (ef_17 m r0 (0 : Int32) nn) ?_
  show own_Go _ _ _ _ s₁ (mkF m 0 #[.val (.ref r0), .val (.int (0 : Int32)), .val (.int nn), .unset, .unset, .unset] [])
  refine own_st (fun t k => XS.iloadN X0.here hx rfl (hb hby d17_0) rfl k) ?_
  show own_Go _ _ _ _ s₁ (mkF m 1 #[.val (.ref r0), .val (.int (0 : Int32)), .val (.int nn), .unset, .unset, .unset] [(.int nn)])
  obtain ⟨T1, h1, k1, X1, e1, E1, A1, Ex1, st1⟩ := newPE X0 hx hZ (hw _ (List.mem_of_getElem? (i := 19) rfl)) e0 (g := (mkF m 1 #[.val (.ref r0), .val (.int (0 : Int32)), .val (.int nn), .unset, .unset, .unset] [(.int nn)])) rfl (hb hby d17_1) rfl (own_012_nn hn) (cap := 2) (own_012_cap hn) (by decide) (by decide) (by decide) (ad := "[B") (by decide)
  obtain ⟨b1, g1⟩ : ∃ z, z = h0.size := ⟨_, rfl⟩
  rw [← g1] at A1 Ex1 st1
  have sz_b1 : h0.size ≤ b1 := Nat.le_trans K0.1 (Nat.le_of_eq g1.symm)
  have g_b1 : n0 ≤ b1 := Nat.le_trans Z0 sz_b1
  have ne_r0_b1 : r0 ≠ b1 := Nat.ne_of_lt (Nat.lt_of_lt_of_le Vr.lt (Nat.le_of_eq g1.symm))
  have V1 : Arv Z h1 b1 k1 .byte nn [(.int (0 : Int32)), (.int (0 : Int32))] (.int (0 : Int32)) := (Arv.new A1 (own_012_nn hn)).pad (pad_rep [] (.int (0 : Int32)) 2)
  refine own_st st1 ?_
  show own_Go _ _ _ _ T1 (mkF m 3 #[.val (.ref r0), .val (.int (0 : Int32)), .val (.int nn), .unset, .unset, .unset] [(.ref b1)])
  refine own_st (fun t k => XS.astoreN X1.here hx rfl (hb hby d17_3) rfl rfl (l' := #[.val (.ref r0), .val (.int (0 : Int32)), .val (.int nn), .val (.ref b1), .unset, .unset]) rfl k) ?_
  show own_Go _ _ _ _ T1 (mkF m 4 #[.val (.ref r0), .val (.int (0 : Int32)), .val (.int nn), .val (.ref b1), .unset, .unset] [])
  refine own_st (fun t k => XS.aloadN X1.here hx rfl (hb hby d17_4) rfl rfl k) ?_
  show own_Go _ _ _ _ T1 (mkF m 5 #[.val (.ref r0), .val (.int (0 : Int32)), .val (.int nn), .val (.ref b1), .unset, .unset] [(.ref r0)])
  refine own_st (fun t k => XS.iloadN X1.here hx rfl (hb hby d17_5) rfl k) ?_
  show own_Go _ _ _ _ T1 (mkF m 6 #[.val (.ref r0), .val (.int (0 : Int32)), .val (.int nn), .val (.ref b1), .unset, .unset] [(.int (0 : Int32)), (.ref r0)])
  refine own_st (fun t k => XS.aloadN X1.here hx rfl (hb hby d17_6) rfl rfl k) ?_
  show own_Go _ _ _ _ T1 (mkF m 7 #[.val (.ref r0), .val (.int (0 : Int32)), .val (.int nn), .val (.ref b1), .unset, .unset] [(.ref b1), (.int (0 : Int32)), (.ref r0)])
  refine own_st (fun t k => XS.iconst X1.here hx rfl (hb hby d17_7) k) ?_
  show own_Go _ _ _ _ T1 (mkF m 8 #[.val (.ref r0), .val (.int (0 : Int32)), .val (.int nn), .val (.ref b1), .unset, .unset] [(.int (0 : Int32)), (.ref b1), (.int (0 : Int32)), (.ref r0)])
  refine own_st (fun t k => XS.iloadN X1.here hx rfl (hb hby d17_8) rfl k) ?_
  show own_Go _ _ _ _ T1 (mkF m 9 #[.val (.ref r0), .val (.int (0 : Int32)), .val (.int nn), .val (.ref b1), .unset, .unset] [(.int nn), (.int (0 : Int32)), (.ref b1), (.int (0 : Int32)), (.ref r0)])
  have Vr_2 := (Vr.ext E1)
  have K0_4 := (K0.ext E1)
  obtain ⟨_, _, ⟨T3, L3, k3, n3⟩, -, X3, ⟨Lc3, hQ3, l3, y3, z3⟩, st3⟩ := Jvm.LawKit.callS X1 hx (y := (⟨"java/lang/StringUTF16", "compress", "([CI[BII)I"⟩ : MethodName)) hown (mvT hZ (hw _ (List.mem_of_getElem? (i := 108) rfl))) (mvT hZ (hw _ (List.mem_of_getElem? (i := 109) rfl))) (mvT hZ (hw _ (List.mem_of_getElem? (i := 106) rfl))) (mvT hZ (hw _ (List.mem_of_getElem? (i := 110) rfl))) (by decide) (backOf (W := 0) (rm18 l Z a0 hw [] r0 b1 nn kr k1 c0 c1  h1 n0 (Nat.le_trans Z0 K0_4.1) Ex1 g_b1 Vr_2 V1 ne_r0_b1 hn hp hc0 hc1) hZ (hw _ (List.mem_of_getElem? (i := 110) rfl)) (hw _ (List.mem_of_getElem? (i := 106) rfl)) (by decide) (by decide)) (g := (mkF m 9 #[.val (.ref r0), .val (.int (0 : Int32)), .val (.int nn), .val (.ref b1), .unset, .unset] [(.int nn), (.int (0 : Int32)), (.ref b1), (.int (0 : Int32)), (.ref r0)])) rfl (by rw [hml]; rfl) (argsL := [(.ref r0), (.int (0 : Int32)), (.ref b1), (.int (0 : Int32)), (.int nn)]) (rest := []) (lenOf pd__28_5bCI_5bBII_29I rfl) rfl (by show 2 * 0 + _ ≤ _; exact Nat.le_of_eq rfl) (hb hby d17_9) (fun _ _ => ⟨rfl, e1, (by decide : 1 + 0 ≤ _), (by decide : 2 + 0 ≤ _)⟩)
  dsimp only [Pt.U, Pt.locs, Pt.cells, Pt.slots] at X3 l3 y3 z3 st3 hQ3
  subst l3 y3 z3
  obtain ⟨rfl, N3q, K3, V3⟩ := hQ3
  obtain ⟨_, X3, N3⟩ := own_hide X3 (Fr.app N0 N3q)
  refine own_st st3 ?_
  show own_Go _ _ _ _ T3 (mkF m 12 #[.val (.ref r0), .val (.int (0 : Int32)), .val (.int nn), .val (.ref b1), .unset, .unset] [(.int nn)])
  refine own_st (fun t k => XS.istore X3.here hx rfl (hb hby d17_12) rfl (l' := #[.val (.ref r0), .val (.int (0 : Int32)), .val (.int nn), .val (.ref b1), .val (.int nn), .unset]) rfl k) ?_
  show own_Go _ _ _ _ T3 (mkF m 14 #[.val (.ref r0), .val (.int (0 : Int32)), .val (.int nn), .val (.ref b1), .val (.int nn), .unset] [])
  refine own_st (fun t k => XS.iload X3.here hx rfl (hb hby d17_14) rfl k) ?_
  show own_Go _ _ _ _ T3 (mkF m 16 #[.val (.ref r0), .val (.int (0 : Int32)), .val (.int nn), .val (.ref b1), .val (.int nn), .unset] [(.int nn)])
  refine own_st (fun t k => XS.iloadN X3.here hx rfl (hb hby d17_16) rfl k) ?_
  show own_Go _ _ _ _ T3 (mkF m 17 #[.val (.ref r0), .val (.int (0 : Int32)), .val (.int nn), .val (.ref b1), .val (.int nn), .unset] [(.int nn), (.int nn)])
  refine own_st (fun t k => XS.icmpYes X3.here hx rfl (pc0 := 17) (pc' := 57) rfl (hb hby d17_17) rfl (teq rfl).1 (by decide) (by decide) k) ?_
  show own_Go _ _ _ _ T3 (mkF m 57 #[.val (.ref r0), .val (.int (0 : Int32)), .val (.int nn), .val (.ref b1), .val (.int nn), .unset] [])
  refine own_st (fun t k => XS.aloadN X3.here hx rfl (hb hby d17_57) rfl rfl k) ?_
  show own_Go _ _ _ _ T3 (mkF m 58 #[.val (.ref r0), .val (.int (0 : Int32)), .val (.int nn), .val (.ref b1), .val (.int nn), .unset] [(.ref b1)])
  have K0_5 := (K0_4.trans K3 (allS ((Or.inr sz_b1)) all0))
  have Ex1_6 := (Ex1.keep K3)
  exact own_retR X3 hx hlk hrt rfl rfl rfl (hb hby d17_58) ⟨b1, k1, rfl, N3, K0_5, sz_b1, Ex1_6, V3⟩ (by decide) (by decide)
/-! body 19: StringUTF16.coderFromArrayLen -/
theorem d19_0 : decode jdk_52_method_15_code 0 = .ok (.iload_n 1, 1) := by decide +kernel
theorem d19_1 : decode jdk_52_method_15_code 1 = .ok (.aload_n 0, 1) := by decide +kernel
theorem d19_2 : decode jdk_52_method_15_code 2 = .ok (.arraylength, 1) := by decide +kernel
theorem d19_3 : decode jdk_52_method_15_code 3 = .ok (.isub, 1) := by decide +kernel
theorem d19_4 : decode jdk_52_method_15_code 4 = .ok (.bipush 31, 2) := by decide +kernel
theorem d19_6 : decode jdk_52_method_15_code 6 = .ok (.iushr, 1) := by decide +kernel
theorem d19_7 : decode jdk_52_method_15_code 7 = .ok (.i2b, 1) := by decide +kernel
theorem d19_8 : decode jdk_52_method_15_code 8 = .ok (.ireturn, 1) := by decide +kernel
theorem ef_19 (m : MethodId) (x0 : Addr) (x1 : Int32) : entryFrame m #[(.ref x0), (.int x1)] 2 = mkF m 0 #[.val (.ref x0), .val (.int x1)] [] := by first | (simp [entryFrame, mkF, argsToLocals, Value.category]; done) | rfl
def Q19 (Z : State) (r0 : Addr) (nn : Int32) (kr : ClassId) (u0 : Int32) (u1 : Int32) (h0 : Heap) (n0 : Nat) (v : Option Value) (h : Heap) (L : List Loc) : Prop := v = some (.int (0 : Int32)) ∧ Fr n0 L ∧ h = h0
set_option maxRecDepth 65536 in
set_option maxHeartbeats 40000000 in
theorem rm19 (l : Launch) (Z : State) (a0 : Array Value) (hw : ∀ d ∈ tables_1, d.before a0 Z = true) (ws : List Jvm.Cond) (r0 : Addr) (nn : Int32) (kr : ClassId) (u0 : Int32) (u1 : Int32) (h0 : Heap) (n0 : Nat) (Z0 : n0 ≤ h0.size) (Vr : Arv Z h0 r0 kr .byte nn [(.int u0), (.int u1)] (.int (0 : Int32))) :
    MetFree l (⟨"java/lang/StringUTF16", "coderFromArrayLen", "([BI)B"⟩ : MethodName) (head1 (Jvm.Cond.code (⟨"java/lang/StringUTF16", "coderFromArrayLen", "([BI)B"⟩ : MethodName) jdk_52_method_15_code 2 (some .byte) :: ws) ({ frames := 0, cells := 0, slots := 0, locals := 0 } : Room)) (fun a U => a = #[(.ref r0), (.int nn)] ∧ Z.Warmed39 U.vm ∧ U.heap = h0) (fun _ _ _ _ _ => True) (fun _ U o U' => ∃ v L, o = .returned v ∧ Q19 Z r0 nn kr u0 u1 h0 n0 v U'.heap L ∧ FrameEnd U o U' L ({ frames := 0, cells := 0, slots := 0, locals := 0 } : Room).cells ({ frames := 0, cells := 0, slots := 0, locals := 0 } : Room).slots) := by
  refine MetFree.of_bodySF (plainFor_of_name pn_java_lang_StringUTF16) hisR ?_
  intro p e s m args below meth c s₁ Bd hml0 hP hK
  obtain ⟨rfl, hZ, hh⟩ := hP
  have hx := Bd.exec
  have hby := Bd.bytes
  have hlk := Bd.notSynchronized
  have hrt := Bd.returns
  have hml : c.maxLocals = 2 := hml0
  have hown : s.vm.findClass "java/lang/StringUTF16" = some m.cls := findClass_of_methodNamed Bd.named
  have hnm := (name_of_methodNamed Bd.named Bd.method).1
  have X0 : Stand p l e ({ frames := 0, cells := 0, slots := 0, locals := 0 } : Room) s m #[(.ref r0), (.int nn)] below meth c s₁ [] 0 0 := Stand.of_body Bd
  have e0 : s₁.heap = h0 := by rw [← hh, Bd.state]; rfl
  have N0 := Fr.nil n0
  have K0 := Keep.refl h0 []
  refine own_out (Q := Q19 Z r0 nn kr u0 u1 h0 n0) ?_
  refine own_in (ef_19 m r0 nn) ?_
  show own_Go _ _ _ _ s₁ (mkF m 0 #[.val (.ref r0), .val (.int nn)] [])
  refine own_st (fun t k => XS.iloadN X0.here hx rfl (hb hby d19_0) rfl k) ?_
  show own_Go _ _ _ _ s₁ (mkF m 1 #[.val (.ref r0), .val (.int nn)] [(.int nn)])
  refine own_st (fun t k => XS.aloadN X0.here hx rfl (hb hby d19_1) rfl rfl k) ?_
  show own_Go _ _ _ _ s₁ (mkF m 2 #[.val (.ref r0), .val (.int nn)] [(.ref r0), (.int nn)])
  obtain ⟨cl1, Ar1, qk1, Sz1, Nn1, Hs1, Gf1⟩ := id Vr
  refine own_st (X0.arraylength hx (by rw [e0]; exact Ar1.1) (State.isArrayOf_alike hZ.alike Ar1.2.1) (g := (mkF m 2 #[.val (.ref r0), .val (.int nn)] [(.ref r0), (.int nn)])) rfl rfl (hb hby d19_2)) ?_
  rw [len_of Sz1 Nn1]
  show own_Go _ _ _ _ s₁ (mkF m 3 #[.val (.ref r0), .val (.int nn)] [(.int nn), (.int nn)])
  refine own_st (fun t k => XS.isub X0.here hx rfl (hb hby d19_3) rfl k) ?_
  show own_Go _ _ _ _ s₁ (mkF m 4 #[.val (.ref r0), .val (.int nn)] [(.int (nn - nn))])
  refine own_st (fun t k => XS.bipush X0.here hx rfl (hb hby d19_4) k) ?_
  show own_Go _ _ _ _ s₁ (mkF m 6 #[.val (.ref r0), .val (.int nn)] [(.int (31 : Int32)), (.int (nn - nn))])
  refine own_st (fun t k => XS.iushr X0.here hx rfl (hb hby d19_6) rfl k) ?_
  show own_Go _ _ _ _ s₁ (mkF m 7 #[.val (.ref r0), .val (.int nn)] [(.int (((nn - nn).toUInt32 >>> ((31 : Int32) &&& 31).toUInt32).toInt32))])
  refine own_st (fun t k => XS.i2b X0.here hx rfl (hb hby d19_7) rfl k) ?_
  show own_Go _ _ _ _ s₁ (mkF m 8 #[.val (.ref r0), .val (.int nn)] [(.int ((((nn - nn).toUInt32 >>> ((31 : Int32) &&& 31).toUInt32).toInt32).toInt8.toInt32))])
  exact own_retN X0 hx hlk (t := .byte) hrt (by simp) (hb hby d19_8) ⟨by rw [Int32.sub_self]; rfl, N0, e0⟩ (by decide) (by decide)
def own_G (Z : State) (cs : Int32) (ca : Addr) (cc : Cell) : Prop := Sta Z Z.heap "java/lang/String" "COMPACT_STRINGS" "Z" (.int cs) ∧ ¬ cs = (0 : Int32) ∧ Sta Z Z.heap "java/lang/Integer$IntegerCache" "high" "I" (.int (127 : Int32)) ∧ Sta Z Z.heap "java/lang/Integer$IntegerCache" "cache" "[Ljava/lang/Integer;" (.ref ca) ∧ Bxs Z ca cc "java/lang/Integer" "I" (256 : Int32) (fun j => .int (j - 128))
theorem own_idx {z : Int32} (h1 : ¬ z < (0 : Int32)) (h2 : ¬ (127 : Int32) < z) : ¬ (z + (128 : Int32)) < 0 ∧ z + (128 : Int32) < (256 : Int32) := by
  have h := c_iadd z (128 : Int32)
  have r := rng32 (z + (128 : Int32))
  rw [Int32.lt_iff_toInt_lt] at *
  simp only [Int32.reduceToInt] at *
  rw [Int32.lt_iff_toInt_lt]
  simp only [Int32.reduceToInt] at *
  omega
theorem own_n128 {z : Int32} (h1 : ¬ z < (0 : Int32)) : ¬ z < (-128 : Int32) := by
  rw [Int32.lt_iff_toInt_lt] at *
  simp only [Int32.reduceToInt] at *
  omega
theorem own_exa_ne {Z : State} {h : Heap} {x y : Addr} {C D : String} (E : Exa Z h x C) (F : Exa Z h y D) (q : C ≠ D) : x ≠ y := fun e => by
  subst e
  obtain ⟨c1, k1, e1, e2, e3, -⟩ := E
  obtain ⟨c2, k2, f1, f2, f3, -⟩ := F
  cases e1.symm.trans f1
  obtain ⟨k3, q1, q2⟩ := Vm.findClass_spec e2
  obtain ⟨k4, q3, q4⟩ := Vm.findClass_spec f2
  cases q1.symm.trans q3
  exact q (q2.symm.trans q4)

/-! body 11: String.isLatin1 -/
theorem d11_0 : decode jdk_42_method_154_code 0 = .ok (.getstatic 38, 3) := by decide +kernel
theorem d11_3 : decode jdk_42_method_154_code 3 = .ok (.ifCond .eq 14, 3) := by decide +kernel
theorem d11_6 : decode jdk_42_method_154_code 6 = .ok (.aload_n 0, 1) := by decide +kernel
theorem d11_7 : decode jdk_42_method_154_code 7 = .ok (.getfield 15, 3) := by decide +kernel
theorem d11_10 : decode jdk_42_method_154_code 10 = .ok (.ifCond .ne 7, 3) := by decide +kernel
theorem d11_13 : decode jdk_42_method_154_code 13 = .ok (.iconst 1, 1) := by decide +kernel
theorem d11_14 : decode jdk_42_method_154_code 14 = .ok (.goto 4, 3) := by decide +kernel
theorem d11_18 : decode jdk_42_method_154_code 18 = .ok (.ireturn, 1) := by decide +kernel
theorem pn_java_lang_String : plainName "java/lang/String" = true := by first | (simp [plainName, overriddenIn]; done) | decide +kernel
theorem ef_11 (m : MethodId) (x0 : Addr) : entryFrame m #[(.ref x0)] 1 = mkF m 0 #[.val (.ref x0)] [] := by first | (simp [entryFrame, mkF, argsToLocals, Value.category]; done) | rfl
def Q11 (Z : State) (r0 : Addr) (cs : Int32) (ca : Addr) (cc : Cell) (h0 : Heap) (n0 : Nat) (v : Option Value) (h : Heap) (L : List Loc) : Prop := v = some (.int (1 : Int32)) ∧ Fr n0 L ∧ h = h0
set_option maxRecDepth 65536 in
set_option maxHeartbeats 40000000 in
theorem rm11 (l : Launch) (Z : State) (a0 : Array Value) (hw : ∀ d ∈ tables_1, d.before a0 Z = true) (ws : List Jvm.Cond) (r0 : Addr) (cs : Int32) (ca : Addr) (cc : Cell) (h0 : Heap) (n0 : Nat) (Z0 : n0 ≤ h0.size) (F_coder_r0 : Fld Z h0 r0 "java/lang/String" "coder" "B" (.int (0 : Int32))) (G : own_G Z cs ca cc) (O0 : Old Z n0 h0) :
    MetFree l (⟨"java/lang/String", "isLatin1", "()Z"⟩ : MethodName) (head1 (Jvm.Cond.code (⟨"java/lang/String", "isLatin1", "()Z"⟩ : MethodName) jdk_42_method_154_code 1 (some .boolean) :: ws) ({ frames := 0, cells := 0, slots := 0, locals := 0 } : Room)) (fun a U => a = #[(.ref r0)] ∧ Z.Warmed39 U.vm ∧ U.heap = h0) (fun _ _ _ _ _ => True) (fun _ U o U' => ∃ v L, o = .returned v ∧ Q11 Z r0 cs ca cc h0 n0 v U'.heap L ∧ FrameEnd U o U' L ({ frames := 0, cells := 0, slots := 0, locals := 0 } : Room).cells ({ frames := 0, cells := 0, slots := 0, locals := 0 } : Room).slots) := by
  refine MetFree.of_bodySF (plainFor_of_name pn_java_lang_String) hisR ?_
  intro p e s m args below meth c s₁ Bd hml0 hP hK
  obtain ⟨rfl, hZ, hh⟩ := hP
  have hx := Bd.exec
  have hby := Bd.bytes
  have hlk := Bd.notSynchronized
  have hrt := Bd.returns
  have hml : c.maxLocals = 1 := hml0
  have hown : s.vm.findClass "java/lang/String" = some m.cls := findClass_of_methodNamed Bd.named
  have hnm := (name_of_methodNamed Bd.named Bd.method).1
  have X0 : Stand p l e ({ frames := 0, cells := 0, slots := 0, locals := 0 } : Room) s m #[(.ref r0)] below meth c s₁ [] 0 0 := Stand.of_body Bd
  have e0 : s₁.heap = h0 := by rw [← hh, Bd.state]; rfl
  have N0 := Fr.nil n0
  have K0 := Keep.refl h0 []
  refine own_out (Q := Q11 Z r0 cs ca cc h0 n0) ?_
  refine own_in (ef_11 m r0) ?_
  show own_Go _ _ _ _ s₁ (mkF m 0 #[.val (.ref r0)] [])
  obtain ⟨T1, X1, e1, st1⟩ := getS2 X0 hx hZ hown (host := "") (Or.inl (hw _ (List.mem_of_getElem? (i := 77) rfl))) Via.refl e0 (G.1.ext O0.2) (g := (mkF m 0 #[.val (.ref r0)] [])) rfl (hb hby d11_0)
  refine own_st st1 ?_
  show own_Go _ _ _ _ T1 (mkF m 3 #[.val (.ref r0)] [(.int cs)])
  refine own_st (fun t k => XS.ifNo X1.here hx rfl (hb hby d11_3) rfl ((if0 _ _).trans (feq G.2.1).1) k) ?_
  show own_Go _ _ _ _ T1 (mkF m 6 #[.val (.ref r0)] [])
  refine own_st (fun t k => XS.aloadN X1.here hx rfl (hb hby d11_6) rfl rfl k) ?_
  show own_Go _ _ _ _ T1 (mkF m 7 #[.val (.ref r0)] [(.ref r0)])
  obtain ⟨T2, X2, e2, st2⟩ := getF X1 hx hZ hown (host := "") (Or.inl (hw _ (List.mem_of_getElem? (i := 25) rfl))) Via.refl e1 F_coder_r0 (g := (mkF m 7 #[.val (.ref r0)] [(.ref r0)])) rfl rfl (hb hby d11_7)
  refine own_st st2 ?_
  show own_Go _ _ _ _ T2 (mkF m 10 #[.val (.ref r0)] [(.int (0 : Int32))])
  refine own_st (fun t k => XS.ifNo X2.here hx rfl (hb hby d11_10) rfl ((if0 _ _).trans (teq (by decide : (0 : Int32) = (0 : Int32))).2) k) ?_
  show own_Go _ _ _ _ T2 (mkF m 13 #[.val (.ref r0)] [])
  refine own_st (fun t k => XS.iconst X2.here hx rfl (hb hby d11_13) k) ?_
  show own_Go _ _ _ _ T2 (mkF m 14 #[.val (.ref r0)] [(.int (1 : Int32))])
  refine own_st (fun t k => XS.goto X2.here hx rfl (pc0 := 14) (pc' := 18) rfl (hb hby d11_14) (by decide) (by decide) k) ?_
  show own_Go _ _ _ _ T2 (mkF m 18 #[.val (.ref r0)] [(.int (1 : Int32))])
  exact own_retN X2 hx hlk (t := .boolean) hrt (by simp) (hb hby d11_18) ⟨rfl, N0, e2⟩ (by decide) (by decide)
/-! body 14: Integer.hashCode -/
theorem d14_0 : decode jdk_33_method_33_code 0 = .ok (.iload_n 0, 1) := by decide +kernel
theorem d14_1 : decode jdk_33_method_33_code 1 = .ok (.ireturn, 1) := by decide +kernel
theorem pn_java_lang_Integer : plainName "java/lang/Integer" = true := by first | (simp [plainName, overriddenIn]; done) | decide +kernel
theorem ef_14 (m : MethodId) (x0 : Int32) : entryFrame m #[(.int x0)] 1 = mkF m 0 #[.val (.int x0)] [] := by first | (simp [entryFrame, mkF, argsToLocals, Value.category]; done) | rfl
def Q14 (Z : State) (iv : Int32) (h0 : Heap) (n0 : Nat) (v : Option Value) (h : Heap) (L : List Loc) : Prop := v = some (.int iv) ∧ Fr n0 L ∧ h = h0
set_option maxRecDepth 65536 in
set_option maxHeartbeats 40000000 in
theorem rm14 (l : Launch) (Z : State) (a0 : Array Value) (hw : ∀ d ∈ tables_1, d.before a0 Z = true) (ws : List Jvm.Cond) (iv : Int32) (h0 : Heap) (n0 : Nat) (Z0 : n0 ≤ h0.size) :
    MetFree l (⟨"java/lang/Integer", "hashCode", "(I)I"⟩ : MethodName) (head1 (Jvm.Cond.code (⟨"java/lang/Integer", "hashCode", "(I)I"⟩ : MethodName) jdk_33_method_33_code 1 (some .int) :: ws) ({ frames := 0, cells := 0, slots := 0, locals := 0 } : Room)) (fun a U => a = #[(.int iv)] ∧ Z.Warmed39 U.vm ∧ U.heap = h0) (fun _ _ _ _ _ => True) (fun _ U o U' => ∃ v L, o = .returned v ∧ Q14 Z iv h0 n0 v U'.heap L ∧ FrameEnd U o U' L ({ frames := 0, cells := 0, slots := 0, locals := 0 } : Room).cells ({ frames := 0, cells := 0, slots := 0, locals := 0 } : Room).slots) := by
  refine MetFree.of_bodySF (plainFor_of_name pn_java_lang_Integer) hisR ?_
  intro p e s m args below meth c s₁ Bd hml0 hP hK
  obtain ⟨rfl, hZ, hh⟩ := hP
  have hx := Bd.exec
  have hby := Bd.bytes
  have hlk := Bd.notSynchronized
  have hrt := Bd.returns
  have hml : c.maxLocals = 1 := hml0
  have hown : s.vm.findClass "java/lang/Integer" = some m.cls := findClass_of_methodNamed Bd.named
  have hnm := (name_of_methodNamed Bd.named Bd.method).1
  have X0 : Stand p l e ({ frames := 0, cells := 0, slots := 0, locals := 0 } : Room) s m #[(.int iv)] below meth c s₁ [] 0 0 := Stand.of_body Bd
  have e0 : s₁.heap = h0 := by rw [← hh, Bd.state]; rfl
  have N0 := Fr.nil n0
  have K0 := Keep.refl h0 []
  refine own_out (Q := Q14 Z iv h0 n0) ?_
  refine own_in (ef_14 m iv) ?_
  show own_Go _ _ _ _ s₁ (mkF m 0 #[.val (.int iv)] [])
  refine own_st (fun t k => XS.iloadN X0.here hx rfl (hb hby d14_0) rfl k) ?_
  show own_Go _ _ _ _ s₁ (mkF m 1 #[.val (.int iv)] [(.int iv)])
  exact own_retI X0 hx hlk hrt (hb hby d14_1) ⟨rfl, N0, e0⟩ (by decide) (by decide)
theorem pd__28I_29I : parseMethodDescriptor "(I)I" = some ⟨[.int], some .int⟩ := by decide +kernel
/-! body 13: Integer.hashCode -/
theorem d13_0 : decode jdk_33_method_32_code 0 = .ok (.aload_n 0, 1) := by decide +kernel
theorem d13_1 : decode jdk_33_method_32_code 1 = .ok (.getfield 205, 3) := by decide +kernel
theorem d13_4 : decode jdk_33_method_32_code 4 = .ok (.invokestatic 208, 3) := by decide +kernel
theorem d13_7 : decode jdk_33_method_32_code 7 = .ok (.ireturn, 1) := by decide +kernel
theorem ef_13 (m : MethodId) (x0 : Addr) : entryFrame m #[(.ref x0)] 1 = mkF m 0 #[.val (.ref x0)] [] := by first | (simp [entryFrame, mkF, argsToLocals, Value.category]; done) | rfl
def Q13 (Z : State) (r0 : Addr) (iv : Int32) (h0 : Heap) (n0 : Nat) (v : Option Value) (h : Heap) (L : List Loc) : Prop := v = some (.int iv) ∧ Fr n0 L ∧ h = h0
set_option maxRecDepth 65536 in
set_option maxHeartbeats 40000000 in
theorem rm13 (l : Launch) (Z : State) (a0 : Array Value) (hw : ∀ d ∈ tables_1, d.before a0 Z = true) (ws : List Jvm.Cond) (r0 : Addr) (iv : Int32) (h0 : Heap) (n0 : Nat) (Z0 : n0 ≤ h0.size) (F_value_r0 : Fld Z h0 r0 "java/lang/Integer" "value" "I" (.int iv)) :
    MetFree l (⟨"java/lang/Integer", "hashCode", "()I"⟩ : MethodName) (head1 (Jvm.Cond.code (⟨"java/lang/Integer", "hashCode", "()I"⟩ : MethodName) jdk_33_method_32_code 1 (some .int) :: ws) ({ frames := 1, cells := 0, slots := 0, locals := 12 } : Room)) (fun a U => a = #[(.ref r0)] ∧ Z.Warmed39 U.vm ∧ U.heap = h0) (fun _ _ _ _ _ => True) (fun _ U o U' => ∃ v L, o = .returned v ∧ Q13 Z r0 iv h0 n0 v U'.heap L ∧ FrameEnd U o U' L ({ frames := 1, cells := 0, slots := 0, locals := 12 } : Room).cells ({ frames := 1, cells := 0, slots := 0, locals := 12 } : Room).slots) := by
  refine MetFree.of_bodySF (plainFor_of_name pn_java_lang_Integer) hisR ?_
  intro p e s m args below meth c s₁ Bd hml0 hP hK
  obtain ⟨rfl, hZ, hh⟩ := hP
  have hx := Bd.exec
  have hby := Bd.bytes
  have hlk := Bd.notSynchronized
  have hrt := Bd.returns
  have hml : c.maxLocals = 1 := hml0
  have hown : s.vm.findClass "java/lang/Integer" = some m.cls := findClass_of_methodNamed Bd.named
  have hnm := (name_of_methodNamed Bd.named Bd.method).1
  have X0 : Stand p l e ({ frames := 1, cells := 0, slots := 0, locals := 12 } : Room) s m #[(.ref r0)] below meth c s₁ [] 0 0 := Stand.of_body Bd
  have e0 : s₁.heap = h0 := by rw [← hh, Bd.state]; rfl
  have N0 := Fr.nil n0
  have K0 := Keep.refl h0 []
  refine own_out (Q := Q13 Z r0 iv h0 n0) ?_
  refine own_in (ef_13 m r0) ?_
  show own_Go _ _ _ _ s₁ (mkF m 0 #[.val (.ref r0)] [])
  refine own_st (fun t k => XS.aloadN X0.here hx rfl (hb hby d13_0) rfl rfl k) ?_
  show own_Go _ _ _ _ s₁ (mkF m 1 #[.val (.ref r0)] [(.ref r0)])
  obtain ⟨T1, X1, e1, st1⟩ := getF X0 hx hZ hown (host := "") (Or.inl (hw _ (List.mem_of_getElem? (i := 85) rfl))) Via.refl e0 F_value_r0 (g := (mkF m 1 #[.val (.ref r0)] [(.ref r0)])) rfl rfl (hb hby d13_1)
  refine own_st st1 ?_
  show own_Go _ _ _ _ T1 (mkF m 4 #[.val (.ref r0)] [(.int iv)])
  obtain ⟨_, _, ⟨T2, L2, k2, n2⟩, -, X2, ⟨Lc2, hQ2, l2, y2, z2⟩, st2⟩ := Jvm.LawKit.callS X1 hx (y := (⟨"java/lang/Integer", "hashCode", "(I)I"⟩ : MethodName)) hown (mvT hZ (hw _ (List.mem_of_getElem? (i := 87) rfl))) (mvT hZ (hw _ (List.mem_of_getElem? (i := 88) rfl))) (mvT hZ (hw _ (List.mem_of_getElem? (i := 49) rfl))) (mvT hZ (hw _ (List.mem_of_getElem? (i := 89) rfl))) (by decide) (backOf (W := 0) (rm14 l Z a0 hw [] iv  h0 n0 Z0 ) hZ (hw _ (List.mem_of_getElem? (i := 89) rfl)) (hw _ (List.mem_of_getElem? (i := 49) rfl)) (by decide) (by decide)) (g := (mkF m 4 #[.val (.ref r0)] [(.int iv)])) rfl (by rw [hml]; rfl) (argsL := [(.int iv)]) (rest := []) (lenOf pd__28I_29I rfl) rfl (by show 2 * 0 + _ ≤ _; exact Nat.le_of_eq rfl) (hb hby d13_4) (fun _ _ => ⟨rfl, e1, (by decide : 0 + 0 ≤ _), (by decide : 0 + 0 ≤ _)⟩)
  dsimp only [Pt.U, Pt.locs, Pt.cells, Pt.slots] at X2 l2 y2 z2 st2 hQ2
  subst l2 y2 z2
  obtain ⟨rfl, N2q, e2⟩ := hQ2
  obtain ⟨_, X2, N2⟩ := own_hide X2 (Fr.app N0 N2q)
  refine own_st st2 ?_
  show own_Go _ _ _ _ T2 (mkF m 7 #[.val (.ref r0)] [(.int iv)])
  exact own_retI X2 hx hlk hrt (hb hby d13_7) ⟨rfl, N2, e2⟩ (by decide) (by decide)
/-! body 24: ArraysSupport.signedHashCode -/
theorem d24_0 : decode jdk_48_method_5_code 0 = .ok (.iload_n 2, 1) := by decide +kernel
theorem d24_1 : decode jdk_48_method_5_code 1 = .ok (.iload_n 3, 1) := by decide +kernel
theorem d24_2 : decode jdk_48_method_5_code 2 = .ok (.iadd, 1) := by decide +kernel
theorem d24_3 : decode jdk_48_method_5_code 3 = .ok (.istore 4, 2) := by decide +kernel
theorem d24_5 : decode jdk_48_method_5_code 5 = .ok (.iload_n 2, 1) := by decide +kernel
theorem d24_6 : decode jdk_48_method_5_code 6 = .ok (.istore 5, 2) := by decide +kernel
theorem d24_8 : decode jdk_48_method_5_code 8 = .ok (.iload 5, 2) := by decide +kernel
theorem d24_10 : decode jdk_48_method_5_code 10 = .ok (.iload 4, 2) := by decide +kernel
theorem d24_12 : decode jdk_48_method_5_code 12 = .ok (.if_icmp .ge 23, 3) := by decide +kernel
theorem d24_15 : decode jdk_48_method_5_code 15 = .ok (.bipush 31, 2) := by decide +kernel
theorem d24_17 : decode jdk_48_method_5_code 17 = .ok (.iload_n 0, 1) := by decide +kernel
theorem d24_18 : decode jdk_48_method_5_code 18 = .ok (.imul, 1) := by decide +kernel
theorem d24_19 : decode jdk_48_method_5_code 19 = .ok (.aload_n 1, 1) := by decide +kernel
theorem d24_20 : decode jdk_48_method_5_code 20 = .ok (.iload 5, 2) := by decide +kernel
theorem d24_22 : decode jdk_48_method_5_code 22 = .ok (.baload, 1) := by decide +kernel
theorem d24_23 : decode jdk_48_method_5_code 23 = .ok (.sipush 255, 3) := by decide +kernel
theorem d24_26 : decode jdk_48_method_5_code 26 = .ok (.iand, 1) := by decide +kernel
theorem d24_27 : decode jdk_48_method_5_code 27 = .ok (.iadd, 1) := by decide +kernel
theorem d24_28 : decode jdk_48_method_5_code 28 = .ok (.istore_n 0, 1) := by decide +kernel
theorem d24_29 : decode jdk_48_method_5_code 29 = .ok (.iinc 5 1, 3) := by decide +kernel
theorem d24_32 : decode jdk_48_method_5_code 32 = .ok (.goto (-24), 3) := by decide +kernel
theorem d24_35 : decode jdk_48_method_5_code 35 = .ok (.iload_n 0, 1) := by decide +kernel
theorem d24_36 : decode jdk_48_method_5_code 36 = .ok (.ireturn, 1) := by decide +kernel
theorem pn_jdk_internal_util_ArraysSupport : plainName "jdk/internal/util/ArraysSupport" = true := by first | (simp [plainName, overriddenIn]; done) | decide +kernel
theorem ef_24 (m : MethodId) (x0 : Int32) (x1 : Addr) (x2 : Int32) (x3 : Int32) : entryFrame m #[(.int x2), (.ref x1), (.int x2), (.int x3)] 6 = mkF m 0 #[.val (.int x2), .val (.ref x1), .val (.int x2), .val (.int x3), .unset, .unset] [] := by first | (simp [entryFrame, mkF, argsToLocals, Value.category]; done) | rfl
def Q24 (Z : State) (r1 : Addr) (nn : Int32) (kr : ClassId) (u0 : Int32) (u1 : Int32) (h0 : Heap) (n0 : Nat) (v : Option Value) (h : Heap) (L : List Loc) : Prop := ∃ z : Int32, v = some (.int z) ∧ Fr n0 L ∧ h = h0
set_option maxRecDepth 65536 in
set_option maxHeartbeats 40000000 in
theorem rm24 (l : Launch) (Z : State) (a0 : Array Value) (hw : ∀ d ∈ tables_1, d.before a0 Z = true) (ws : List Jvm.Cond) (r1 : Addr) (nn : Int32) (kr : ClassId) (u0 : Int32) (u1 : Int32) (h0 : Heap) (n0 : Nat) (Z0 : n0 ≤ h0.size) (Vr : Arv Z h0 r1 kr .byte nn [(.int u0), (.int u1)] (.int (0 : Int32))) (h2 : nn = (2 : Int32)) :
    MetFree l (⟨"jdk/internal/util/ArraysSupport", "signedHashCode", "(I[BII)I"⟩ : MethodName) (head1 (Jvm.Cond.code (⟨"jdk/internal/util/ArraysSupport", "signedHashCode", "(I[BII)I"⟩ : MethodName) jdk_48_method_5_code 6 (some .int) :: ws) ({ frames := 0, cells := 0, slots := 0, locals := 0 } : Room)) (fun a U => a = #[(.int (0 : Int32)), (.ref r1), (.int (0 : Int32)), (.int nn)] ∧ Z.Warmed39 U.vm ∧ U.heap = h0) (fun _ _ _ _ _ => True) (fun _ U o U' => ∃ v L, o = .returned v ∧ Q24 Z r1 nn kr u0 u1 h0 n0 v U'.heap L ∧ FrameEnd U o U' L ({ frames := 0, cells := 0, slots := 0, locals := 0 } : Room).cells ({ frames := 0, cells := 0, slots := 0, locals := 0 } : Room).slots) := by
  refine MetFree.of_bodySF (plainFor_of_name pn_jdk_internal_util_ArraysSupport) hisR ?_
  intro p e s m args below meth c s₁ Bd hml0 hP hK
  obtain ⟨rfl, hZ, hh⟩ := hP
  have hx := Bd.exec
  have hby := Bd.bytes
  have hlk := Bd.notSynchronized
  have hrt := Bd.returns
  have hml : c.maxLocals = 6 := hml0
  have hown : s.vm.findClass "jdk/internal/util/ArraysSupport" = some m.cls := findClass_of_methodNamed Bd.named
  have hnm := (name_of_methodNamed Bd.named Bd.method).1
  have X0 : Stand p l e ({ frames := 0, cells := 0, slots := 0, locals := 0 } : Room) s m #[(.int (0 : Int32)), (.ref r1), (.int (0 : Int32)), (.int nn)] below meth c s₁ [] 0 0 := Stand.of_body Bd
  have e0 : s₁.heap = h0 := by rw [← hh, Bd.state]; rfl
  have N0 := Fr.nil n0
  have K0 := Keep.refl h0 []
  refine own_out (Q := Q24 Z r1 nn kr u0 u1 h0 n0) ?_
  refine own_in (ef_24 m (0 : Int32) r1 (0 : Int32) nn) ?_
  show own_Go _ _ _ _ s₁ (mkF m 0 #[.val (.int (0 : Int32)), .val (.ref r1), .val (.int (0 : Int32)), .val (.int nn), .unset, .unset] [])
  refine own_st (fun t k => XS.iloadN X0.here hx rfl (hb hby d24_0) rfl k) ?_
  show own_Go _ _ _ _ s₁ (mkF m 1 #[.val (.int (0 : Int32)), .val (.ref r1), .val (.int (0 : Int32)), .val (.int nn), .unset, .unset] [(.int (0 : Int32))])
  refine own_st (fun t k => XS.iloadN X0.here hx rfl (hb hby d24_1) rfl k) ?_
  show own_Go _ _ _ _ s₁ (mkF m 2 #[.val (.int (0 : Int32)), .val (.ref r1), .val (.int (0 : Int32)), .val (.int nn), .unset, .unset] [(.int nn), (.int (0 : Int32))])
  refine own_st (fun t k => XS.iadd X0.here hx rfl (hb hby d24_2) rfl k) ?_
  show own_Go _ _ _ _ s₁ (mkF m 3 #[.val (.int (0 : Int32)), .val (.ref r1), .val (.int (0 : Int32)), .val (.int nn), .unset, .unset] [(.int ((0 : Int32) + nn))])
  refine own_st (fun t k => XS.istore X0.here hx rfl (hb hby d24_3) rfl (l' := #[.val (.int (0 : Int32)), .val (.ref r1), .val (.int (0 : Int32)), .val (.int nn), .val (.int ((0 : Int32) + nn)), .unset]) rfl k) ?_
  show own_Go _ _ _ _ s₁ (mkF m 5 #[.val (.int (0 : Int32)), .val (.ref r1), .val (.int (0 : Int32)), .val (.int nn), .val (.int ((0 : Int32) + nn)), .unset] [])
  refine own_st (fun t k => XS.iloadN X0.here hx rfl (hb hby d24_5) rfl k) ?_
  show own_Go _ _ _ _ s₁ (mkF m 6 #[.val (.int (0 : Int32)), .val (.ref r1), .val (.int (0 : Int32)), .val (.int nn), .val (.int ((0 : Int32) + nn)), .unset] [(.int (0 : Int32))])
  refine own_st (fun t k => XS.istore X0.here hx rfl (hb hby d24_6) rfl (l' := #[.val (.int (0 : Int32)), .val (.ref r1), .val (.int (0 : Int32)), .val (.int nn), .val (.int ((0 : Int32) + nn)), .val (.int (0 : Int32))]) rfl k) ?_
  show own_Go _ _ _ _ s₁ (mkF m 8 #[.val (.int (0 : Int32)), .val (.ref r1), .val (.int (0 : Int32)), .val (.int nn), .val (.int ((0 : Int32) + nn)), .val (.int (0 : Int32))] [])
  refine own_st (fun t k => XS.iload X0.here hx rfl (hb hby d24_8) rfl k) ?_
  show own_Go _ _ _ _ s₁ (mkF m 10 #[.val (.int (0 : Int32)), .val (.ref r1), .val (.int (0 : Int32)), .val (.int nn), .val (.int ((0 : Int32) + nn)), .val (.int (0 : Int32))] [(.int (0 : Int32))])
  refine own_st (fun t k => XS.iload X0.here hx rfl (hb hby d24_10) rfl k) ?_
  show own_Go _ _ _ _ s₁ (mkF m 12 #[.val (.int (0 : Int32)), .val (.ref r1), .val (.int (0 : Int32)), .val (.int nn), .val (.int ((0 : Int32) + nn)), .val (.int (0 : Int32))] [(.int ((0 : Int32) + nn)), (.int (0 : Int32))])
  refine own_st (fun t k => XS.icmpNo X0.here hx rfl (hb hby d24_12) rfl (tlt (by rw [h2]; decide : (0 : Int32) < ((0 : Int32) + nn))).2.1 k) ?_
  show own_Go _ _ _ _ s₁ (mkF m 15 #[.val (.int (0 : Int32)), .val (.ref r1), .val (.int (0 : Int32)), .val (.int nn), .val (.int ((0 : Int32) + nn)), .val (.int (0 : Int32))] [])
  refine own_st (fun t k => XS.bipush X0.here hx rfl (hb hby d24_15) k) ?_
  show own_Go _ _ _ _ s₁ (mkF m 17 #[.val (.int (0 : Int32)), .val (.ref r1), .val (.int (0 : Int32)), .val (.int nn), .val (.int ((0 : Int32) + nn)), .val (.int (0 : Int32))] [(.int (31 : Int32))])
  refine own_st (fun t k => XS.iloadN X0.here hx rfl (hb hby d24_17) rfl k) ?_
  show own_Go _ _ _ _ s₁ (mkF m 18 #[.val (.int (0 : Int32)), .val (.ref r1), .val (.int (0 : Int32)), .val (.int nn), .val (.int ((0 : Int32) + nn)), .val (.int (0 : Int32))] [(.int (0 : Int32)), (.int (31 : Int32))])
  refine own_st (fun t k => XS.imul X0.here hx rfl (hb hby d24_18) rfl k) ?_
  show own_Go _ _ _ _ s₁ (mkF m 19 #[.val (.int (0 : Int32)), .val (.ref r1), .val (.int (0 : Int32)), .val (.int nn), .val (.int ((0 : Int32) + nn)), .val (.int (0 : Int32))] [(.int ((31 : Int32) * (0 : Int32)))])
  refine own_st (fun t k => XS.aloadN X0.here hx rfl (hb hby d24_19) rfl rfl k) ?_
  show own_Go _ _ _ _ s₁ (mkF m 20 #[.val (.int (0 : Int32)), .val (.ref r1), .val (.int (0 : Int32)), .val (.int nn), .val (.int ((0 : Int32) + nn)), .val (.int (0 : Int32))] [(.ref r1), (.int ((31 : Int32) * (0 : Int32)))])
  refine own_st (fun t k => XS.iload X0.here hx rfl (hb hby d24_20) rfl k) ?_
  show own_Go _ _ _ _ s₁ (mkF m 22 #[.val (.int (0 : Int32)), .val (.ref r1), .val (.int (0 : Int32)), .val (.int nn), .val (.int ((0 : Int32) + nn)), .val (.int (0 : Int32))] [(.int (0 : Int32)), (.ref r1), (.int ((31 : Int32) * (0 : Int32)))])
  obtain ⟨cl1, Ar1, qk1, Sz1, Nn1, Hs1, Gf1⟩ := id Vr
  have hin1 : ¬ ((0 : Int32) < 0 ∨ cl1.slots.size ≤ ((0 : Int32)).toNatClampNeg) := inb_of Sz1 ⟨by decide, by rw [h2]; decide⟩
  have hat1 : cl1.slots[((0 : Int32)).toNatClampNeg]? = some (.int u0) := Has.at Hs1 hin1 rfl
  refine own_st (X0.baloadBytes hx (j := (0 : Int32)) (v := (.int u0)) (by rw [e0]; exact Ar1.1) (State.isArrayOf_alike hZ.alike Ar1.2.1) Ar1.2.2 hin1 hat1 (g := (mkF m 22 #[.val (.int (0 : Int32)), .val (.ref r1), .val (.int (0 : Int32)), .val (.int nn), .val (.int ((0 : Int32) + nn)), .val (.int (0 : Int32))] [(.int (0 : Int32)), (.ref r1), (.int ((31 : Int32) * (0 : Int32)))])) rfl rfl (hb hby d24_22)) ?_
  show own_Go _ _ _ _ s₁ (mkF m 23 #[.val (.int (0 : Int32)), .val (.ref r1), .val (.int (0 : Int32)), .val (.int nn), .val (.int ((0 : Int32) + nn)), .val (.int (0 : Int32))] [(.int u0), (.int ((31 : Int32) * (0 : Int32)))])
  refine own_st (fun t k => XS.sipush X0.here hx rfl (hb hby d24_23) k) ?_
  show own_Go _ _ _ _ s₁ (mkF m 26 #[.val (.int (0 : Int32)), .val (.ref r1), .val (.int (0 : Int32)), .val (.int nn), .val (.int ((0 : Int32) + nn)), .val (.int (0 : Int32))] [(.int (255 : Int32)), (.int u0), (.int ((31 : Int32) * (0 : Int32)))])
  refine own_st (fun t k => XS.iand X0.here hx rfl (hb hby d24_26) rfl k) ?_
  show own_Go _ _ _ _ s₁ (mkF m 27 #[.val (.int (0 : Int32)), .val (.ref r1), .val (.int (0 : Int32)), .val (.int nn), .val (.int ((0 : Int32) + nn)), .val (.int (0 : Int32))] [(.int (u0 &&& (255 : Int32))), (.int ((31 : Int32) * (0 : Int32)))])
  refine own_st (fun t k => XS.iadd X0.here hx rfl (hb hby d24_27) rfl k) ?_
  show own_Go _ _ _ _ s₁ (mkF m 28 #[.val (.int (0 : Int32)), .val (.ref r1), .val (.int (0 : Int32)), .val (.int nn), .val (.int ((0 : Int32) + nn)), .val (.int (0 : Int32))] [(.int (((31 : Int32) * (0 : Int32)) + (u0 &&& (255 : Int32))))])
  refine own_st (fun t k => XS.istoreN X0.here hx rfl (hb hby d24_28) rfl (l' := #[.val (.int (((31 : Int32) * (0 : Int32)) + (u0 &&& (255 : Int32)))), .val (.ref r1), .val (.int (0 : Int32)), .val (.int nn), .val (.int ((0 : Int32) + nn)), .val (.int (0 : Int32))]) rfl k) ?_
  show own_Go _ _ _ _ s₁ (mkF m 29 #[.val (.int (((31 : Int32) * (0 : Int32)) + (u0 &&& (255 : Int32)))), .val (.ref r1), .val (.int (0 : Int32)), .val (.int nn), .val (.int ((0 : Int32) + nn)), .val (.int (0 : Int32))] [])
  refine own_st (fun t k => XS.iinc X0.here hx rfl (hb hby d24_29) rfl (l' := #[.val (.int (((31 : Int32) * (0 : Int32)) + (u0 &&& (255 : Int32)))), .val (.ref r1), .val (.int (0 : Int32)), .val (.int nn), .val (.int ((0 : Int32) + nn)), .val (.int (1 : Int32))]) rfl k) ?_
  show own_Go _ _ _ _ s₁ (mkF m 32 #[.val (.int (((31 : Int32) * (0 : Int32)) + (u0 &&& (255 : Int32)))), .val (.ref r1), .val (.int (0 : Int32)), .val (.int nn), .val (.int ((0 : Int32) + nn)), .val (.int (1 : Int32))] [])
  refine own_st (fun t k => XS.goto X0.here hx rfl (pc0 := 32) (pc' := 8) rfl (hb hby d24_32) (by decide) (by decide) k) ?_
  show own_Go _ _ _ _ s₁ (mkF m 8 #[.val (.int (((31 : Int32) * (0 : Int32)) + (u0 &&& (255 : Int32)))), .val (.ref r1), .val (.int (0 : Int32)), .val (.int nn), .val (.int ((0 : Int32) + nn)), .val (.int (1 : Int32))] [])
  refine own_st (fun t k => XS.iload X0.here hx rfl (hb hby d24_8) rfl k) ?_
  show own_Go _ _ _ _ s₁ (mkF m 10 #[.val (.int (((31 : Int32) * (0 : Int32)) + (u0 &&& (255 : Int32)))), .val (.ref r1), .val (.int (0 : Int32)), .val (.int nn), .val (.int ((0 : Int32) + nn)), .val (.int (1 : Int32))] [(.int (1 : Int32))])
  refine own_st (fun t k => XS.iload X0.here hx rfl (hb hby d24_10) rfl k) ?_
  show own_Go _ _ _ _ s₁ (mkF m 12 #[.val (.int (((31 : Int32) * (0 : Int32)) + (u0 &&& (255 : Int32)))), .val (.ref r1), .val (.int (0 : Int32)), .val (.int nn), .val (.int ((0 : Int32) + nn)), .val (.int (1 : Int32))] [(.int ((0 : Int32) + nn)), (.int (1 : Int32))])
  refine own_st (fun t k => XS.icmpNo X0.here hx rfl (hb hby d24_12) rfl (tlt (by rw [h2]; decide : (1 : Int32) < ((0 : Int32) + nn))).2.1 k) ?_
  show own_Go _ _ _ _ s₁ (mkF m 15 #[.val (.int (((31 : Int32) * (0 : Int32)) + (u0 &&& (255 : Int32)))), .val (.ref r1), .val (.int (0 : Int32)), .val (.int nn), .val (.int ((0 : Int32) + nn)), .val (.int (1 : Int32))] [])
  refine own_st (fun t k => XS.bipush X0.here hx rfl (hb hby d24_15) k) ?_
  show own_Go _ _ _ _ s₁ (mkF m 17 #[.val (.int (((31 : Int32) * (0 : Int32)) + (u0 &&& (255 : Int32)))), .val (.ref r1), .val (.int (0 : Int32)), .val (.int nn), .val (.int ((0 : Int32) + nn)), .val (.int (1 : Int32))] [(.int (31 : Int32))])
  refine own_st (fun t k => XS.iloadN X0.here hx rfl (hb hby d24_17) rfl k) ?_
  show own_Go _ _ _ _ s₁ (mkF m 18 #[.val (.int (((31 : Int32) * (0 : Int32)) + (u0 &&& (255 : Int32)))), .val (.ref r1), .val (.int (0 : Int32)), .val (.int nn), .val (.int ((0 : Int32) + nn)), .val (.int (1 : Int32))] [(.int (((31 : Int32) * (0 : Int32)) + (u0 &&& (255 : Int32)))), (.int (31 : Int32))])
  refine own_st (fun t k => XS.imul X0.here hx rfl (hb hby d24_18) rfl k) ?_
  show own_Go _ _ _ _ s₁ (mkF m 19 #[.val (.int (((31 : Int32) * (0 : Int32)) + (u0 &&& (255 : Int32)))), .val (.ref r1), .val (.int (0 : Int32)), .val (.int nn), .val (.int ((0 : Int32) + nn)), .val (.int (1 : Int32))] [(.int ((31 : Int32) * (((31 : Int32) * (0 : Int32)) + (u0 &&& (255 : Int32)))))])
  refine own_st (fun t k => XS.aloadN X0.here hx rfl (hb hby d24_19) rfl rfl k) ?_
  show own_Go _ _ _ _ s₁ (mkF m 20 #[.val (.int (((31 : Int32) * (0 : Int32)) + (u0 &&& (255 : Int32)))), .val (.ref r1), .val (.int (0 : Int32)), .val (.int nn), .val (.int ((0 : Int32) + nn)), .val (.int (1 : Int32))] [(.ref r1), (.int ((31 : Int32) * (((31 : Int32) * (0 : Int32)) + (u0 &&& (255 : Int32)))))])
  refine own_st (fun t k => XS.iload X0.here hx rfl (hb hby d24_20) rfl k) ?_
  show own_Go _ _ _ _ s₁ (mkF m 22 #[.val (.int (((31 : Int32) * (0 : Int32)) + (u0 &&& (255 : Int32)))), .val (.ref r1), .val (.int (0 : Int32)), .val (.int nn), .val (.int ((0 : Int32) + nn)), .val (.int (1 : Int32))] [(.int (1 : Int32)), (.ref r1), (.int ((31 : Int32) * (((31 : Int32) * (0 : Int32)) + (u0 &&& (255 : Int32)))))])
  obtain ⟨cl2, Ar2, qk2, Sz2, Nn2, Hs2, Gf2⟩ := id Vr
  have hin2 : ¬ ((1 : Int32) < 0 ∨ cl2.slots.size ≤ ((1 : Int32)).toNatClampNeg) := inb_of Sz2 ⟨by decide, by rw [h2]; decide⟩
  have hat2 : cl2.slots[((1 : Int32)).toNatClampNeg]? = some (.int u1) := Has.at Hs2 hin2 rfl
  refine own_st (X0.baloadBytes hx (j := (1 : Int32)) (v := (.int u1)) (by rw [e0]; exact Ar2.1) (State.isArrayOf_alike hZ.alike Ar2.2.1) Ar2.2.2 hin2 hat2 (g := (mkF m 22 #[.val (.int (((31 : Int32) * (0 : Int32)) + (u0 &&& (255 : Int32)))), .val (.ref r1), .val (.int (0 : Int32)), .val (.int nn), .val (.int ((0 : Int32) + nn)), .val (.int (1 : Int32))] [(.int (1 : Int32)), (.ref r1), (.int ((31 : Int32) * (((31 : Int32) * (0 : Int32)) + (u0 &&& (255 : Int32)))))])) rfl rfl (hb hby d24_22)) ?_
  show own_Go _ _ _ _ s₁ (mkF m 23 #[.val (.int (((31 : Int32) * (0 : Int32)) + (u0 &&& (255 : Int32)))), .val (.ref r1), .val (.int (0 : Int32)), .val (.int nn), .val (.int ((0 : Int32) + nn)), .val (.int (1 : Int32))] [(.int u1), (.int ((31 : Int32) * (((31 : Int32) * (0 : Int32)) + (u0 &&& (255 : Int32)))))])
  refine own_st (fun t k => XS.sipush X0.here hx rfl (hb hby d24_23) k) ?_
  show own_Go _ _ _ _ s₁ (mkF m 26 #[.val (.int (((31 : Int32) * (0 : Int32)) + (u0 &&& (255 : Int32)))), .val (.ref r1), .val (.int (0 : Int32)), .val (.int nn), .val (.int ((0 : Int32) + nn)), .val (.int (1 : Int32))] [(.int (255 : Int32)), (.int u1), (.int ((31 : Int32) * (((31 : Int32) * (0 : Int32)) + (u0 &&& (255 : Int32)))))])
  refine own_st (fun t k => XS.iand X0.here hx rfl (hb hby d24_26) rfl k) ?_
  show own_Go _ _ _ _ s₁ (mkF m 27 #[.val (.int (((31 : Int32) * (0 : Int32)) + (u0 &&& (255 : Int32)))), .val (.ref r1), .val (.int (0 : Int32)), .val (.int nn), .val (.int ((0 : Int32) + nn)), .val (.int (1 : Int32))] [(.int (u1 &&& (255 : Int32))), (.int ((31 : Int32) * (((31 : Int32) * (0 : Int32)) + (u0 &&& (255 : Int32)))))])
  refine own_st (fun t k => XS.iadd X0.here hx rfl (hb hby d24_27) rfl k) ?_
  show own_Go _ _ _ _ s₁ (mkF m 28 #[.val (.int (((31 : Int32) * (0 : Int32)) + (u0 &&& (255 : Int32)))), .val (.ref r1), .val (.int (0 : Int32)), .val (.int nn), .val (.int ((0 : Int32) + nn)), .val (.int (1 : Int32))] [(.int (((31 : Int32) * (((31 : Int32) * (0 : Int32)) + (u0 &&& (255 : Int32)))) + (u1 &&& (255 : Int32))))])
  refine own_st (fun t k => XS.istoreN X0.here hx rfl (hb hby d24_28) rfl (l' := #[.val (.int (((31 : Int32) * (((31 : Int32) * (0 : Int32)) + (u0 &&& (255 : Int32)))) + (u1 &&& (255 : Int32)))), .val (.ref r1), .val (.int (0 : Int32)), .val (.int nn), .val (.int ((0 : Int32) + nn)), .val (.int (1 : Int32))]) rfl k) ?_
  show own_Go _ _ _ _ s₁ (mkF m 29 #[.val (.int (((31 : Int32) * (((31 : Int32) * (0 : Int32)) + (u0 &&& (255 : Int32)))) + (u1 &&& (255 : Int32)))), .val (.ref r1), .val (.int (0 : Int32)), .val (.int nn), .val (.int ((0 : Int32) + nn)), .val (.int (1 : Int32))] [])
  refine own_st (fun t k => XS.iinc X0.here hx rfl (hb hby d24_29) rfl (l' := #[.val (.int (((31 : Int32) * (((31 : Int32) * (0 : Int32)) + (u0 &&& (255 : Int32)))) + (u1 &&& (255 : Int32)))), .val (.ref r1), .val (.int (0 : Int32)), .val (.int nn), .val (.int ((0 : Int32) + nn)), .val (.int (2 : Int32))]) rfl k) ?_
  show own_Go _ _ _ _ s₁ (mkF m 32 #[.val (.int (((31 : Int32) * (((31 : Int32) * (0 : Int32)) + (u0 &&& (255 : Int32)))) + (u1 &&& (255 : Int32)))), .val (.ref r1), .val (.int (0 : Int32)), .val (.int nn), .val (.int ((0 : Int32) + nn)), .val (.int (2 : Int32))] [])
  refine own_st (fun t k => XS.goto X0.here hx rfl (pc0 := 32) (pc' := 8) rfl (hb hby d24_32) (by decide) (by decide) k) ?_
  show own_Go _ _ _ _ s₁ (mkF m 8 #[.val (.int (((31 : Int32) * (((31 : Int32) * (0 : Int32)) + (u0 &&& (255 : Int32)))) + (u1 &&& (255 : Int32)))), .val (.ref r1), .val (.int (0 : Int32)), .val (.int nn), .val (.int ((0 : Int32) + nn)), .val (.int (2 : Int32))] [])
  refine own_st (fun t k => XS.iload X0.here hx rfl (hb hby d24_8) rfl k) ?_
  show own_Go _ _ _ _ s₁ (mkF m 10 #[.val (.int (((31 : Int32) * (((31 : Int32) * (0 : Int32)) + (u0 &&& (255 : Int32)))) + (u1 &&& (255 : Int32)))), .val (.ref r1), .val (.int (0 : Int32)), .val (.int nn), .val (.int ((0 : Int32) + nn)), .val (.int (2 : Int32))] [(.int (2 : Int32))])
  refine own_st (fun t k => XS.iload X0.here hx rfl (hb hby d24_10) rfl k) ?_
  show own_Go _ _ _ _ s₁ (mkF m 12 #[.val (.int (((31 : Int32) * (((31 : Int32) * (0 : Int32)) + (u0 &&& (255 : Int32)))) + (u1 &&& (255 : Int32)))), .val (.ref r1), .val (.int (0 : Int32)), .val (.int nn), .val (.int ((0 : Int32) + nn)), .val (.int (2 : Int32))] [(.int ((0 : Int32) + nn)), (.int (2 : Int32))])
  refine own_st (fun t k => XS.icmpYes X0.here hx rfl (pc0 := 12) (pc' := 35) rfl (hb hby d24_12) rfl (flt (by rw [h2]; decide : ¬ ((2 : Int32) < ((0 : Int32) + nn)))).2.1 (by decide) (by decide) k) ?_
  show own_Go _ _ _ _ s₁ (mkF m 35 #[.val (.int (((31 : Int32) * (((31 : Int32) * (0 : Int32)) + (u0 &&& (255 : Int32)))) + (u1 &&& (255 : Int32)))), .val (.ref r1), .val (.int (0 : Int32)), .val (.int nn), .val (.int ((0 : Int32) + nn)), .val (.int (2 : Int32))] [])
  refine own_st (fun t k => XS.iloadN X0.here hx rfl (hb hby d24_35) rfl k) ?_
  show own_Go _ _ _ _ s₁ (mkF m 36 #[.val (.int (((31 : Int32) * (((31 : Int32) * (0 : Int32)) + (u0 &&& (255 : Int32)))) + (u1 &&& (255 : Int32)))), .val (.ref r1), .val (.int (0 : Int32)), .val (.int nn), .val (.int ((0 : Int32) + nn)), .val (.int (2 : Int32))] [(.int (((31 : Int32) * (((31 : Int32) * (0 : Int32)) + (u0 &&& (255 : Int32)))) + (u1 &&& (255 : Int32))))])
  exact own_retI X0 hx hlk hrt (hb hby d24_36) ⟨_, rfl, N0, e0⟩ (by decide) (by decide)
theorem pd__28I_5bBII_29I : parseMethodDescriptor "(I[BII)I" = some ⟨[.int, (.array .byte), .int, .int], some .int⟩ := by decide +kernel
/-! body 23: ArraysSupport.vectorizedHashCode -/
theorem d23_0 : decode jdk_48_method_4_code 0 = .ok (.iload 4, 2) := by decide +kernel
theorem d23_2 : decode jdk_48_method_4_code 2 = .ok (.tableswitch 127 4 10 #[42, 55, 127, 127, 88, 101, 114], 42) := by decide +kernel
theorem d23_44 : decode jdk_48_method_4_code 44 = .ok (.iload_n 3, 1) := by decide +kernel
theorem d23_45 : decode jdk_48_method_4_code 45 = .ok (.aload_n 0, 1) := by decide +kernel
theorem d23_46 : decode jdk_48_method_4_code 46 = .ok (.checkcast 60, 3) := by decide +kernel
theorem d23_49 : decode jdk_48_method_4_code 49 = .ok (.iload_n 1, 1) := by decide +kernel
theorem d23_50 : decode jdk_48_method_4_code 50 = .ok (.iload_n 2, 1) := by decide +kernel
theorem d23_51 : decode jdk_48_method_4_code 51 = .ok (.invokestatic 62, 3) := by decide +kernel
theorem d23_54 : decode jdk_48_method_4_code 54 = .ok (.goto 103, 3) := by decide +kernel
theorem d23_157 : decode jdk_48_method_4_code 157 = .ok (.ireturn, 1) := by decide +kernel
theorem ef_23 (m : MethodId) (x0 : Addr) (x1 : Int32) (x2 : Int32) (x3 : Int32) (x4 : Int32) : entryFrame m #[(.ref x0), (.int x3), (.int x2), (.int x3), (.int x4)] 5 = mkF m 0 #[.val (.ref x0), .val (.int x3), .val (.int x2), .val (.int x3), .val (.int x4)] [] := by first | (simp [entryFrame, mkF, argsToLocals, Value.category]; done) | rfl
def Q23 (Z : State) (r0 : Addr) (nn : Int32) (kr : ClassId) (u0 : Int32) (u1 : Int32) (h0 : Heap) (n0 : Nat) (v : Option Value) (h : Heap) (L : List Loc) : Prop := ∃ z : Int32, v = some (.int z) ∧ Fr n0 L ∧ h = h0
set_option maxRecDepth 65536 in
set_option maxHeartbeats 40000000 in
theorem rm23 (l : Launch) (Z : State) (a0 : Array Value) (hw : ∀ d ∈ tables_1, d.before a0 Z = true) (ws : List Jvm.Cond) (r0 : Addr) (nn : Int32) (kr : ClassId) (u0 : Int32) (u1 : Int32) (h0 : Heap) (n0 : Nat) (Z0 : n0 ≤ h0.size) (E_r0 : Exa Z h0 r0 "[B") (Vr : Arv Z h0 r0 kr .byte nn [(.int u0), (.int u1)] (.int (0 : Int32))) (h2 : nn = (2 : Int32)) :
    MetFree l (⟨"jdk/internal/util/ArraysSupport", "vectorizedHashCode", "(Ljava/lang/Object;IIII)I"⟩ : MethodName) (head1 (Jvm.Cond.code (⟨"jdk/internal/util/ArraysSupport", "vectorizedHashCode", "(Ljava/lang/Object;IIII)I"⟩ : MethodName) jdk_48_method_4_code 5 (some .int) :: ws) ({ frames := 1, cells := 0, slots := 0, locals := 17 } : Room)) (fun a U => a = #[(.ref r0), (.int (0 : Int32)), (.int nn), (.int (0 : Int32)), (.int (4 : Int32))] ∧ Z.Warmed39 U.vm ∧ U.heap = h0) (fun _ _ _ _ _ => True) (fun _ U o U' => ∃ v L, o = .returned v ∧ Q23 Z r0 nn kr u0 u1 h0 n0 v U'.heap L ∧ FrameEnd U o U' L ({ frames := 1, cells := 0, slots := 0, locals := 17 } : Room).cells ({ frames := 1, cells := 0, slots := 0, locals := 17 } : Room).slots) := by
  refine MetFree.of_bodySF (plainFor_of_name pn_jdk_internal_util_ArraysSupport) hisR ?_
  intro p e s m args below meth c s₁ Bd hml0 hP hK
  obtain ⟨rfl, hZ, hh⟩ := hP
  have hx := Bd.exec
  have hby := Bd.bytes
  have hlk := Bd.notSynchronized
  have hrt := Bd.returns
  have hml : c.maxLocals = 5 := hml0
  have hown : s.vm.findClass "jdk/internal/util/ArraysSupport" = some m.cls := findClass_of_methodNamed Bd.named
  have hnm := (name_of_methodNamed Bd.named Bd.method).1
  have X0 : Stand p l e ({ frames := 1, cells := 0, slots := 0, locals := 17 } : Room) s m #[(.ref r0), (.int (0 : Int32)), (.int nn), (.int (0 : Int32)), (.int (4 : Int32))] below meth c s₁ [] 0 0 := Stand.of_body Bd
  have e0 : s₁.heap = h0 := by rw [← hh, Bd.state]; rfl
  have N0 := Fr.nil n0
  have K0 := Keep.refl h0 []
  refine own_out (Q := Q23 Z r0 nn kr u0 u1 h0 n0) ?_
  refine own_in (ef_23 m r0 (0 : Int32) nn (0 : Int32) (4 : Int32)) ?_
  show own_Go _ _ _ _ s₁ (mkF m 0 #[.val (.ref r0), .val (.int (0 : Int32)), .val (.int nn), .val (.int (0 : Int32)), .val (.int (4 : Int32))] [])
  refine own_st (fun t k => XS.iload X0.here hx rfl (hb hby d23_0) rfl k) ?_
  show own_Go _ _ _ _ s₁ (mkF m 2 #[.val (.ref r0), .val (.int (0 : Int32)), .val (.int nn), .val (.int (0 : Int32)), .val (.int (4 : Int32))] [(.int (4 : Int32))])
  refine own_st (X0.tableswitchIn hx (g := (mkF m 2 #[.val (.ref r0), .val (.int (0 : Int32)), .val (.int nn), .val (.int (0 : Int32)), .val (.int (4 : Int32))] [(.int (4 : Int32))])) rfl rfl (hb hby d23_2) (by decide) (off := 42) rfl (by show (0 : Int) ≤ ((2 : Nat) : Int) + 42; decide)) ?_
  show own_Go _ _ _ _ s₁ (mkF m 44 #[.val (.ref r0), .val (.int (0 : Int32)), .val (.int nn), .val (.int (0 : Int32)), .val (.int (4 : Int32))] [])
  refine own_st (fun t k => XS.iloadN X0.here hx rfl (hb hby d23_44) rfl k) ?_
  show own_Go _ _ _ _ s₁ (mkF m 45 #[.val (.ref r0), .val (.int (0 : Int32)), .val (.int nn), .val (.int (0 : Int32)), .val (.int (4 : Int32))] [(.int (0 : Int32))])
  refine own_st (fun t k => XS.aloadN X0.here hx rfl (hb hby d23_45) rfl rfl k) ?_
  show own_Go _ _ _ _ s₁ (mkF m 46 #[.val (.ref r0), .val (.int (0 : Int32)), .val (.int nn), .val (.int (0 : Int32)), .val (.int (4 : Int32))] [(.ref r0), (.int (0 : Int32))])
  obtain ⟨T1, X1, e1, st1⟩ := castY X0 hx hZ hown (hw _ (List.mem_of_getElem? (i := 137) rfl)) e0 (Ins.self E_r0) (g := (mkF m 46 #[.val (.ref r0), .val (.int (0 : Int32)), .val (.int nn), .val (.int (0 : Int32)), .val (.int (4 : Int32))] [(.ref r0), (.int (0 : Int32))])) rfl rfl (hb hby d23_46)
  refine own_st st1 ?_
  show own_Go _ _ _ _ T1 (mkF m 49 #[.val (.ref r0), .val (.int (0 : Int32)), .val (.int nn), .val (.int (0 : Int32)), .val (.int (4 : Int32))] [(.ref r0), (.int (0 : Int32))])
  refine own_st (fun t k => XS.iloadN X1.here hx rfl (hb hby d23_49) rfl k) ?_
  show own_Go _ _ _ _ T1 (mkF m 50 #[.val (.ref r0), .val (.int (0 : Int32)), .val (.int nn), .val (.int (0 : Int32)), .val (.int (4 : Int32))] [(.int (0 : Int32)), (.ref r0), (.int (0 : Int32))])
  refine own_st (fun t k => XS.iloadN X1.here hx rfl (hb hby d23_50) rfl k) ?_
  show own_Go _ _ _ _ T1 (mkF m 51 #[.val (.ref r0), .val (.int (0 : Int32)), .val (.int nn), .val (.int (0 : Int32)), .val (.int (4 : Int32))] [(.int nn), (.int (0 : Int32)), (.ref r0), (.int (0 : Int32))])
  obtain ⟨_, _, ⟨T2, L2, k2, n2⟩, -, X2, ⟨Lc2, hQ2, l2, y2, z2⟩, st2⟩ := Jvm.LawKit.callS X1 hx (y := (⟨"jdk/internal/util/ArraysSupport", "signedHashCode", "(I[BII)I"⟩ : MethodName)) hown (mvT hZ (hw _ (List.mem_of_getElem? (i := 139) rfl))) (mvT hZ (hw _ (List.mem_of_getElem? (i := 140) rfl))) (mvT hZ (hw _ (List.mem_of_getElem? (i := 135) rfl))) (mvT hZ (hw _ (List.mem_of_getElem? (i := 141) rfl))) (by decide) (backOf (W := 0) (rm24 l Z a0 hw [] r0 nn kr u0 u1  h0 n0 Z0 Vr h2) hZ (hw _ (List.mem_of_getElem? (i := 141) rfl)) (hw _ (List.mem_of_getElem? (i := 135) rfl)) (by decide) (by decide)) (g := (mkF m 51 #[.val (.ref r0), .val (.int (0 : Int32)), .val (.int nn), .val (.int (0 : Int32)), .val (.int (4 : Int32))] [(.int nn), (.int (0 : Int32)), (.ref r0), (.int (0 : Int32))])) rfl (by rw [hml]; rfl) (argsL := [(.int (0 : Int32)), (.ref r0), (.int (0 : Int32)), (.int nn)]) (rest := []) (lenOf pd__28I_5bBII_29I rfl) rfl (by show 2 * 0 + _ ≤ _; exact Nat.le_of_eq rfl) (hb hby d23_51) (fun _ _ => ⟨rfl, e1, (by decide : 0 + 0 ≤ _), (by decide : 0 + 0 ≤ _)⟩)
  dsimp only [Pt.U, Pt.locs, Pt.cells, Pt.slots] at X2 l2 y2 z2 st2 hQ2
  subst l2 y2 z2
  obtain ⟨z2, rfl, N2q, e2⟩ := hQ2
  obtain ⟨_, X2, N2⟩ := own_hide X2 (Fr.app N0 N2q)
  refine own_st st2 ?_
  show own_Go _ _ _ _ T2 (mkF m 54 #[.val (.ref r0), .val (.int (0 : Int32)), .val (.int nn), .val (.int (0 : Int32)), .val (.int (4 : Int32))] [(.int z2)])
  refine own_st (fun t k => XS.goto X2.here hx rfl (pc0 := 54) (pc' := 157) rfl (hb hby d23_54) (by decide) (by decide) k) ?_
  show own_Go _ _ _ _ T2 (mkF m 157 #[.val (.ref r0), .val (.int (0 : Int32)), .val (.int nn), .val (.int (0 : Int32)), .val (.int (4 : Int32))] [(.int z2)])
  exact own_retI X2 hx hlk hrt (hb hby d23_157) ⟨_, rfl, N2, e2⟩ (by decide) (by decide)
theorem pd__28Ljava_2flang_2fObject_3bIIII_29I : parseMethodDescriptor "(Ljava/lang/Object;IIII)I" = some ⟨[(.object "java/lang/Object"), .int, .int, .int, .int], some .int⟩ := by decide +kernel
/-! body 12: StringLatin1.hashCode -/
theorem d12_0 : decode jdk_43_method_21_code 0 = .ok (.aload_n 0, 1) := by decide +kernel
theorem d12_1 : decode jdk_43_method_21_code 1 = .ok (.arraylength, 1) := by decide +kernel
theorem d12_2 : decode jdk_43_method_21_code 2 = .ok (.lookupswitch 40 #[(0, 26), (1, 30)], 26) := by decide +kernel
theorem d12_28 : decode jdk_43_method_21_code 28 = .ok (.iconst 0, 1) := by decide +kernel
theorem d12_29 : decode jdk_43_method_21_code 29 = .ok (.goto 22, 3) := by decide +kernel
theorem d12_32 : decode jdk_43_method_21_code 32 = .ok (.aload_n 0, 1) := by decide +kernel
theorem d12_33 : decode jdk_43_method_21_code 33 = .ok (.iconst 0, 1) := by decide +kernel
theorem d12_34 : decode jdk_43_method_21_code 34 = .ok (.baload, 1) := by decide +kernel
theorem d12_35 : decode jdk_43_method_21_code 35 = .ok (.sipush 255, 3) := by decide +kernel
theorem d12_38 : decode jdk_43_method_21_code 38 = .ok (.iand, 1) := by decide +kernel
theorem d12_39 : decode jdk_43_method_21_code 39 = .ok (.goto 12, 3) := by decide +kernel
theorem d12_42 : decode jdk_43_method_21_code 42 = .ok (.aload_n 0, 1) := by decide +kernel
theorem d12_43 : decode jdk_43_method_21_code 43 = .ok (.iconst 0, 1) := by decide +kernel
theorem d12_44 : decode jdk_43_method_21_code 44 = .ok (.aload_n 0, 1) := by decide +kernel
theorem d12_45 : decode jdk_43_method_21_code 45 = .ok (.arraylength, 1) := by decide +kernel
theorem d12_46 : decode jdk_43_method_21_code 46 = .ok (.iconst 0, 1) := by decide +kernel
theorem d12_47 : decode jdk_43_method_21_code 47 = .ok (.iconst 4, 1) := by decide +kernel
theorem d12_48 : decode jdk_43_method_21_code 48 = .ok (.invokestatic 84, 3) := by decide +kernel
theorem d12_51 : decode jdk_43_method_21_code 51 = .ok (.ireturn, 1) := by decide +kernel
theorem pn_java_lang_StringLatin1 : plainName "java/lang/StringLatin1" = true := by first | (simp [plainName, overriddenIn]; done) | decide +kernel
theorem ef_12 (m : MethodId) (x0 : Addr) : entryFrame m #[(.ref x0)] 1 = mkF m 0 #[.val (.ref x0)] [] := by first | (simp [entryFrame, mkF, argsToLocals, Value.category]; done) | rfl
def Q12 (Z : State) (r0 : Addr) (nn : Int32) (kr : ClassId) (u0 : Int32) (u1 : Int32) (h0 : Heap) (n0 : Nat) (v : Option Value) (h : Heap) (L : List Loc) : Prop := ∃ z : Int32, v = some (.int z) ∧ Fr n0 L ∧ h = h0
set_option maxRecDepth 65536 in
set_option maxHeartbeats 40000000 in
theorem rm12 (l : Launch) (Z : State) (a0 : Array Value) (hw : ∀ d ∈ tables_1, d.before a0 Z = true) (ws : List Jvm.Cond) (r0 : Addr) (nn : Int32) (kr : ClassId) (u0 : Int32) (u1 : Int32) (h0 : Heap) (n0 : Nat) (Z0 : n0 ≤ h0.size) (Vr : Arv Z h0 r0 kr .byte nn [(.int u0), (.int u1)] (.int (0 : Int32))) (hn : own_012 nn) (Er : nn = (2 : Int32) → Exa Z h0 r0 "[B") :
    MetFree l (⟨"java/lang/StringLatin1", "hashCode", "([B)I"⟩ : MethodName) (head1 (Jvm.Cond.code (⟨"java/lang/StringLatin1", "hashCode", "([B)I"⟩ : MethodName) jdk_43_method_21_code 1 (some .int) :: ws) ({ frames := 2, cells := 0, slots := 0, locals := 33 } : Room)) (fun a U => a = #[(.ref r0)] ∧ Z.Warmed39 U.vm ∧ U.heap = h0) (fun _ _ _ _ _ => True) (fun _ U o U' => ∃ v L, o = .returned v ∧ Q12 Z r0 nn kr u0 u1 h0 n0 v U'.heap L ∧ FrameEnd U o U' L ({ frames := 2, cells := 0, slots := 0, locals := 33 } : Room).cells ({ frames := 2, cells := 0, slots := 0, locals := 33 } : Room).slots) := by
  refine MetFree.of_bodySF (plainFor_of_name pn_java_lang_StringLatin1) hisR ?_
  intro p e s m args below meth c s₁ Bd hml0 hP hK
  obtain ⟨rfl, hZ, hh⟩ := hP
  have hx := Bd.exec
  have hby := Bd.bytes
  have hlk := Bd.notSynchronized
  have hrt := Bd.returns
  have hml : c.maxLocals = 1 := hml0
  have hown : s.vm.findClass "java/lang/StringLatin1" = some m.cls := findClass_of_methodNamed Bd.named
  have hnm := (name_of_methodNamed Bd.named Bd.method).1
  have X0 : Stand p l e ({ frames := 2, cells := 0, slots := 0, locals := 33 } : Room) s m #[(.ref r0)] below meth c s₁ [] 0 0 := Stand.of_body Bd
  have e0 : s₁.heap = h0 := by rw [← hh, Bd.state]; rfl
  have N0 := Fr.nil n0
  have K0 := Keep.refl h0 []
  refine own_out (Q := Q12 Z r0 nn kr u0 u1 h0 n0) ?_
  refine own_in (ef_12 m r0) ?_
  show own_Go _ _ _ _ s₁ (mkF m 0 #[.val (.ref r0)] [])
  refine own_st (fun t k => XS.aloadN X0.here hx rfl (hb hby d12_0) rfl rfl k) ?_
  show own_Go _ _ _ _ s₁ (mkF m 1 #[.val (.ref r0)] [(.ref r0)])
  obtain ⟨cl1, Ar1, qk1, Sz1, Nn1, Hs1, Gf1⟩ := id Vr
  refine own_st (X0.arraylength hx (by rw [e0]; exact Ar1.1) (State.isArrayOf_alike hZ.alike Ar1.2.1) (g := (mkF m 1 #[.val (.ref r0)] [(.ref r0)])) rfl rfl (hb hby d12_1)) ?_
  rw [len_of Sz1 Nn1]
  show own_Go _ _ _ _ s₁ (mkF m 2 #[.val (.ref r0)] [(.int nn)])
  by_cases y0 : nn = (0 : Int32)
  ·
    refine own_st (X0.lookupswitchHit hx (g := (mkF m 2 #[.val (.ref r0)] [(.int nn)])) rfl rfl (hb hby d12_2) (by decide) (a := 0) (off := 26) (by rw [y0]; decide) (by show (0 : Int) ≤ ((2 : Nat) : Int) + 26; decide)) ?_
    show own_Go _ _ _ _ s₁ (mkF m 28 #[.val (.ref r0)] [])
    refine own_st (fun t k => XS.iconst X0.here hx rfl (hb hby d12_28) k) ?_
    show own_Go _ _ _ _ s₁ (mkF m 29 #[.val (.ref r0)] [(.int (0 : Int32))])
    refine own_st (fun t k => XS.goto X0.here hx rfl (pc0 := 29) (pc' := 51) rfl (hb hby d12_29) (by decide) (by decide) k) ?_
    show own_Go _ _ _ _ s₁ (mkF m 51 #[.val (.ref r0)] [(.int (0 : Int32))])
    exact own_retI X0 hx hlk hrt (hb hby d12_51) ⟨_, rfl, N0, e0⟩ (by decide) (by decide)
  by_cases y1 : nn = (1 : Int32)
  ·
    refine own_st (X0.lookupswitchHit hx (g := (mkF m 2 #[.val (.ref r0)] [(.int nn)])) rfl rfl (hb hby d12_2) (by decide) (a := 1) (off := 30) (by rw [y1]; decide) (by show (0 : Int) ≤ ((2 : Nat) : Int) + 30; decide)) ?_
    show own_Go _ _ _ _ s₁ (mkF m 32 #[.val (.ref r0)] [])
    refine own_st (fun t k => XS.aloadN X0.here hx rfl (hb hby d12_32) rfl rfl k) ?_
    show own_Go _ _ _ _ s₁ (mkF m 33 #[.val (.ref r0)] [(.ref r0)])
    refine own_st (fun t k => XS.iconst X0.here hx rfl (hb hby d12_33) k) ?_
    show own_Go _ _ _ _ s₁ (mkF m 34 #[.val (.ref r0)] [(.int (0 : Int32)), (.ref r0)])
    obtain ⟨cl2, Ar2, qk2, Sz2, Nn2, Hs2, Gf2⟩ := id Vr
    have hin2 : ¬ ((0 : Int32) < 0 ∨ cl2.slots.size ≤ ((0 : Int32)).toNatClampNeg) := inb_of Sz2 ⟨by decide, by rw [y1]; decide⟩
    have hat2 : cl2.slots[((0 : Int32)).toNatClampNeg]? = some (.int u0) := Has.at Hs2 hin2 rfl
    refine own_st (X0.baloadBytes hx (j := (0 : Int32)) (v := (.int u0)) (by rw [e0]; exact Ar2.1) (State.isArrayOf_alike hZ.alike Ar2.2.1) Ar2.2.2 hin2 hat2 (g := (mkF m 34 #[.val (.ref r0)] [(.int (0 : Int32)), (.ref r0)])) rfl rfl (hb hby d12_34)) ?_
    show own_Go _ _ _ _ s₁ (mkF m 35 #[.val (.ref r0)] [(.int u0)])
    refine own_st (fun t k => XS.sipush X0.here hx rfl (hb hby d12_35) k) ?_
    show own_Go _ _ _ _ s₁ (mkF m 38 #[.val (.ref r0)] [(.int (255 : Int32)), (.int u0)])
    refine own_st (fun t k => XS.iand X0.here hx rfl (hb hby d12_38) rfl k) ?_
    show own_Go _ _ _ _ s₁ (mkF m 39 #[.val (.ref r0)] [(.int (u0 &&& (255 : Int32)))])
    refine own_st (fun t k => XS.goto X0.here hx rfl (pc0 := 39) (pc' := 51) rfl (hb hby d12_39) (by decide) (by decide) k) ?_
    show own_Go _ _ _ _ s₁ (mkF m 51 #[.val (.ref r0)] [(.int (u0 &&& (255 : Int32)))])
    exact own_retI X0 hx hlk hrt (hb hby d12_51) ⟨_, rfl, N0, e0⟩ (by decide) (by decide)
  · have h2 := own_012_2 hn y0 y1
    refine own_st (X0.lookupswitchMiss hx (g := (mkF m 2 #[.val (.ref r0)] [(.int nn)])) rfl rfl (hb hby d12_2) (by decide) (by rw [h2]; decide) (by show (0 : Int) ≤ ((2 : Nat) : Int) + 40; decide)) ?_
    show own_Go _ _ _ _ s₁ (mkF m 42 #[.val (.ref r0)] [])
    refine own_st (fun t k => XS.aloadN X0.here hx rfl (hb hby d12_42) rfl rfl k) ?_
    show own_Go _ _ _ _ s₁ (mkF m 43 #[.val (.ref r0)] [(.ref r0)])
    refine own_st (fun t k => XS.iconst X0.here hx rfl (hb hby d12_43) k) ?_
    show own_Go _ _ _ _ s₁ (mkF m 44 #[.val (.ref r0)] [(.int (0 : Int32)), (.ref r0)])
    refine own_st (fun t k => XS.aloadN X0.here hx rfl (hb hby d12_44) rfl rfl k) ?_
    show own_Go _ _ _ _ s₁ (mkF m 45 #[.val (.ref r0)] [(.ref r0), (.int (0 : Int32)), (.ref r0)])
    obtain ⟨cl3, Ar3, qk3, Sz3, Nn3, Hs3, Gf3⟩ := id Vr
    refine own_st (X0.arraylength hx (by rw [e0]; exact Ar3.1) (State.isArrayOf_alike hZ.alike Ar3.2.1) (g := (mkF m 45 #[.val (.ref r0)] [(.ref r0), (.int (0 : Int32)), (.ref r0)])) rfl rfl (hb hby d12_45)) ?_
    rw [len_of Sz3 Nn3]
    show own_Go _ _ _ _ s₁ (mkF m 46 #[.val (.ref r0)] [(.int nn), (.int (0 : Int32)), (.ref r0)])
    refine own_st (fun t k => XS.iconst X0.here hx rfl (hb hby d12_46) k) ?_
    show own_Go _ _ _ _ s₁ (mkF m 47 #[.val (.ref r0)] [(.int (0 : Int32)), (.int nn), (.int (0 : Int32)), (.ref r0)])
    refine own_st (fun t k => XS.iconst X0.here hx rfl (hb hby d12_47) k) ?_
    show own_Go _ _ _ _ s₁ (mkF m 48 #[.val (.ref r0)] [(.int (4 : Int32)), (.int (0 : Int32)), (.int nn), (.int (0 : Int32)), (.ref r0)])
    obtain ⟨_, _, ⟨T4, L4, k4, n4⟩, -, X4, ⟨Lc4, hQ4, l4, y4, z4⟩, st4⟩ := Jvm.LawKit.callS X0 hx (y := (⟨"jdk/internal/util/ArraysSupport", "vectorizedHashCode", "(Ljava/lang/Object;IIII)I"⟩ : MethodName)) hown (mvT hZ (hw _ (List.mem_of_getElem? (i := 133) rfl))) (mvT hZ (hw _ (List.mem_of_getElem? (i := 134) rfl))) (mvT hZ (hw _ (List.mem_of_getElem? (i := 135) rfl))) (mvT hZ (hw _ (List.mem_of_getElem? (i := 136) rfl))) (by decide) (backOf (W := 0) (rm23 l Z a0 hw [] r0 nn kr u0 u1  h0 n0 Z0 (Er h2) Vr h2) hZ (hw _ (List.mem_of_getElem? (i := 136) rfl)) (hw _ (List.mem_of_getElem? (i := 135) rfl)) (by decide) (by decide)) (g := (mkF m 48 #[.val (.ref r0)] [(.int (4 : Int32)), (.int (0 : Int32)), (.int nn), (.int (0 : Int32)), (.ref r0)])) rfl (by rw [hml]; rfl) (argsL := [(.ref r0), (.int (0 : Int32)), (.int nn), (.int (0 : Int32)), (.int (4 : Int32))]) (rest := []) (lenOf pd__28Ljava_2flang_2fObject_3bIIII_29I rfl) rfl (by show 2 * 0 + _ ≤ _; exact Nat.le_of_eq rfl) (hb hby d12_48) (fun _ _ => ⟨rfl, e0, (by decide : 0 + 0 ≤ _), (by decide : 0 + 0 ≤ _)⟩)
    dsimp only [Pt.U, Pt.locs, Pt.cells, Pt.slots] at X4 l4 y4 z4 st4 hQ4
    subst l4 y4 z4
    obtain ⟨z4, rfl, N4q, e4⟩ := hQ4
    obtain ⟨_, X4, N4⟩ := own_hide X4 (Fr.app N0 N4q)
    refine own_st st4 ?_
    show own_Go _ _ _ _ T4 (mkF m 51 #[.val (.ref r0)] [(.int z4)])
    exact own_retI X4 hx hlk hrt (hb hby d12_51) ⟨_, rfl, N4, e4⟩ (by decide) (by decide)
theorem pd__28_29Z : parseMethodDescriptor "()Z" = some ⟨[], some .boolean⟩ := by decide +kernel
theorem pd__28_5bB_29I : parseMethodDescriptor "([B)I" = some ⟨[(.array .byte)], some .int⟩ := by decide +kernel
/-! body 10: String.hashCode -/
theorem d10_0 : decode jdk_42_method_78_code 0 = .ok (.aload_n 0, 1) := by decide +kernel
theorem d10_1 : decode jdk_42_method_78_code 1 = .ok (.getfield 19, 3) := by decide +kernel
theorem d10_4 : decode jdk_42_method_78_code 4 = .ok (.istore_n 1, 1) := by decide +kernel
theorem d10_5 : decode jdk_42_method_78_code 5 = .ok (.iload_n 1, 1) := by decide +kernel
theorem d10_6 : decode jdk_42_method_78_code 6 = .ok (.ifCond .ne 52, 3) := by decide +kernel
theorem d10_9 : decode jdk_42_method_78_code 9 = .ok (.aload_n 0, 1) := by decide +kernel
theorem d10_10 : decode jdk_42_method_78_code 10 = .ok (.getfield 23, 3) := by decide +kernel
theorem d10_13 : decode jdk_42_method_78_code 13 = .ok (.ifCond .ne 45, 3) := by decide +kernel
theorem d10_16 : decode jdk_42_method_78_code 16 = .ok (.aload_n 0, 1) := by decide +kernel
theorem d10_17 : decode jdk_42_method_78_code 17 = .ok (.invokevirtual 492, 3) := by decide +kernel
theorem d10_20 : decode jdk_42_method_78_code 20 = .ok (.ifCond .eq 13, 3) := by decide +kernel
theorem d10_23 : decode jdk_42_method_78_code 23 = .ok (.aload_n 0, 1) := by decide +kernel
theorem d10_24 : decode jdk_42_method_78_code 24 = .ok (.getfield 9, 3) := by decide +kernel
theorem d10_27 : decode jdk_42_method_78_code 27 = .ok (.invokestatic 628, 3) := by decide +kernel
theorem d10_30 : decode jdk_42_method_78_code 30 = .ok (.goto 10, 3) := by decide +kernel
theorem d10_40 : decode jdk_42_method_78_code 40 = .ok (.istore_n 1, 1) := by decide +kernel
theorem d10_41 : decode jdk_42_method_78_code 41 = .ok (.iload_n 1, 1) := by decide +kernel
theorem d10_42 : decode jdk_42_method_78_code 42 = .ok (.ifCond .ne 11, 3) := by decide +kernel
theorem d10_45 : decode jdk_42_method_78_code 45 = .ok (.aload_n 0, 1) := by decide +kernel
theorem d10_46 : decode jdk_42_method_78_code 46 = .ok (.iconst 1, 1) := by decide +kernel
theorem d10_47 : decode jdk_42_method_78_code 47 = .ok (.putfield 23, 3) := by decide +kernel
theorem d10_50 : decode jdk_42_method_78_code 50 = .ok (.goto 8, 3) := by decide +kernel
theorem d10_53 : decode jdk_42_method_78_code 53 = .ok (.aload_n 0, 1) := by decide +kernel
theorem d10_54 : decode jdk_42_method_78_code 54 = .ok (.iload_n 1, 1) := by decide +kernel
theorem d10_55 : decode jdk_42_method_78_code 55 = .ok (.putfield 19, 3) := by decide +kernel
theorem d10_58 : decode jdk_42_method_78_code 58 = .ok (.iload_n 1, 1) := by decide +kernel
theorem d10_59 : decode jdk_42_method_78_code 59 = .ok (.ireturn, 1) := by decide +kernel
theorem ef_10 (m : MethodId) (x0 : Addr) : entryFrame m #[(.ref x0)] 2 = mkF m 0 #[.val (.ref x0), .unset] [] := by first | (simp [entryFrame, mkF, argsToLocals, Value.category]; done) | rfl
def Q10 (Z : State) (r0 : Addr) (bb : Addr) (nn : Int32) (kr : ClassId) (u0 : Int32) (u1 : Int32) (cs : Int32) (ca : Addr) (cc : Cell) (h0 : Heap) (n0 : Nat) (v : Option Value) (h : Heap) (L : List Loc) : Prop := ∃ z : Int32, v = some (.int z) ∧ Fr n0 L ∧ Keep h0 h [r0] ∧ Fld Z h r0 "java/lang/String" "value" "[B" (.ref bb) ∧ Fld Z h r0 "java/lang/String" "coder" "B" (.int (0 : Int32))
set_option maxRecDepth 65536 in
set_option maxHeartbeats 40000000 in
theorem rm10 (l : Launch) (Z : State) (a0 : Array Value) (hw : ∀ d ∈ tables_1, d.before a0 Z = true) (ws : List Jvm.Cond) (r0 : Addr) (bb : Addr) (nn : Int32) (kr : ClassId) (u0 : Int32) (u1 : Int32) (cs : Int32) (ca : Addr) (cc : Cell) (h0 : Heap) (n0 : Nat) (Z0 : n0 ≤ h0.size) (E_r0 : Exa Z h0 r0 "java/lang/String") (F_hash_r0 : Fld Z h0 r0 "java/lang/String" "hash" "I" (.int (0 : Int32))) (F_hashIsZero_r0 : Fld Z h0 r0 "java/lang/String" "hashIsZero" "Z" (.int (0 : Int32))) (F_value_r0 : Fld Z h0 r0 "java/lang/String" "value" "[B" (.ref bb)) (F_coder_r0 : Fld Z h0 r0 "java/lang/String" "coder" "B" (.int (0 : Int32))) (g_r0 : n0 ≤ r0) (Vb : Arv Z h0 bb kr .byte nn [(.int u0), (.int u1)] (.int (0 : Int32))) (hn : own_012 nn) (Er : nn = (2 : Int32) → Exa Z h0 bb "[B") (nbs : bb ≠ r0) (G : own_G Z cs ca cc) (O0 : Old Z n0 h0) :
    MetFree l (⟨"java/lang/String", "hashCode", "()I"⟩ : MethodName) (head1 (Jvm.Cond.code (⟨"java/lang/String", "hashCode", "()I"⟩ : MethodName) jdk_42_method_78_code 2 (some .int) :: ws) ({ frames := 3, cells := 0, slots := 0, locals := 45 } : Room)) (fun a U => a = #[(.ref r0)] ∧ Z.Warmed39 U.vm ∧ U.heap = h0) (fun _ _ _ _ _ => True) (fun _ U o U' => ∃ v L, o = .returned v ∧ Q10 Z r0 bb nn kr u0 u1 cs ca cc h0 n0 v U'.heap L ∧ FrameEnd U o U' L ({ frames := 3, cells := 0, slots := 0, locals := 45 } : Room).cells ({ frames := 3, cells := 0, slots := 0, locals := 45 } : Room).slots) := by
  refine MetFree.of_bodySF (plainFor_of_name pn_java_lang_String) hisR ?_
  intro p e s m args below meth c s₁ Bd hml0 hP hK
  obtain ⟨rfl, hZ, hh⟩ := hP
  have hx := Bd.exec
  have hby := Bd.bytes
  have hlk := Bd.notSynchronized
  have hrt := Bd.returns
  have hml : c.maxLocals = 2 := hml0
  have hown : s.vm.findClass "java/lang/String" = some m.cls := findClass_of_methodNamed Bd.named
  have hnm := (name_of_methodNamed Bd.named Bd.method).1
  have X0 : Stand p l e ({ frames := 3, cells := 0, slots := 0, locals := 45 } : Room) s m #[(.ref r0)] below meth c s₁ [] 0 0 := Stand.of_body Bd
  have e0 : s₁.heap = h0 := by rw [← hh, Bd.state]; rfl
  have N0 := Fr.nil n0
  have K0 := Keep.refl h0 [r0]
  refine own_out (Q := Q10 Z r0 bb nn kr u0 u1 cs ca cc h0 n0) ?_
  refine own_in (ef_10 m r0) ?_
  show own_Go _ _ _ _ s₁ (mkF m 0 #[.val (.ref r0), .unset] [])
  refine own_st (fun t k => XS.aloadN X0.here hx rfl (hb hby d10_0) rfl rfl k) ?_
  show own_Go _ _ _ _ s₁ (mkF m 1 #[.val (.ref r0), .unset] [(.ref r0)])
  obtain ⟨T1, X1, e1, st1⟩ := getF X0 hx hZ hown (host := "") (Or.inl (hw _ (List.mem_of_getElem? (i := 68) rfl))) Via.refl e0 F_hash_r0 (g := (mkF m 1 #[.val (.ref r0), .unset] [(.ref r0)])) rfl rfl (hb hby d10_1)
  refine own_st st1 ?_
  show own_Go _ _ _ _ T1 (mkF m 4 #[.val (.ref r0), .unset] [(.int (0 : Int32))])
  refine own_st (fun t k => XS.istoreN X1.here hx rfl (hb hby d10_4) rfl (l' := #[.val (.ref r0), .val (.int (0 : Int32))]) rfl k) ?_
  show own_Go _ _ _ _ T1 (mkF m 5 #[.val (.ref r0), .val (.int (0 : Int32))] [])
  refine own_st (fun t k => XS.iloadN X1.here hx rfl (hb hby d10_5) rfl k) ?_
  show own_Go _ _ _ _ T1 (mkF m 6 #[.val (.ref r0), .val (.int (0 : Int32))] [(.int (0 : Int32))])
  refine own_st (fun t k => XS.ifNo X1.here hx rfl (hb hby d10_6) rfl ((if0 _ _).trans (teq (by decide : (0 : Int32) = (0 : Int32))).2) k) ?_
  show own_Go _ _ _ _ T1 (mkF m 9 #[.val (.ref r0), .val (.int (0 : Int32))] [])
  refine own_st (fun t k => XS.aloadN X1.here hx rfl (hb hby d10_9) rfl rfl k) ?_
  show own_Go _ _ _ _ T1 (mkF m 10 #[.val (.ref r0), .val (.int (0 : Int32))] [(.ref r0)])
  obtain ⟨T2, X2, e2, st2⟩ := getF X1 hx hZ hown (host := "") (Or.inl (hw _ (List.mem_of_getElem? (i := 70) rfl))) Via.refl e1 F_hashIsZero_r0 (g := (mkF m 10 #[.val (.ref r0), .val (.int (0 : Int32))] [(.ref r0)])) rfl rfl (hb hby d10_10)
  refine own_st st2 ?_
  show own_Go _ _ _ _ T2 (mkF m 13 #[.val (.ref r0), .val (.int (0 : Int32))] [(.int (0 : Int32))])
  refine own_st (fun t k => XS.ifNo X2.here hx rfl (hb hby d10_13) rfl ((if0 _ _).trans (teq (by decide : (0 : Int32) = (0 : Int32))).2) k) ?_
  show own_Go _ _ _ _ T2 (mkF m 16 #[.val (.ref r0), .val (.int (0 : Int32))] [])
  refine own_st (fun t k => XS.aloadN X2.here hx rfl (hb hby d10_16) rfl rfl k) ?_
  show own_Go _ _ _ _ T2 (mkF m 17 #[.val (.ref r0), .val (.int (0 : Int32))] [(.ref r0)])
  obtain ⟨cq3, kq3, q3a, q3b, q3c⟩ := isOf hZ e2 E_r0
  obtain ⟨_, _, ⟨T3, L3, k3, n3⟩, -, X3, ⟨Lc3, hQ3, l3, y3, z3⟩, st3⟩ := X2.virtualBack hx (y := (⟨"java/lang/String", "isLatin1", "()Z"⟩ : MethodName)) (z := (⟨"java/lang/String", "isLatin1", "()Z"⟩ : MethodName)) hown (mvT hZ (hw _ (List.mem_of_getElem? (i := 72) rfl))) (mvT hZ (hw _ (List.mem_of_getElem? (i := 73) rfl))) (notFace_of_selects (args := #[]) (mvT hZ (hw _ (List.mem_of_getElem? (i := 75) rfl)))) (mvT hZ (hw _ (List.mem_of_getElem? (i := 75) rfl))) (mvT hZ (hw _ (List.mem_of_getElem? (i := 74) rfl))) (by decide) (backOf (W := 0) (rm11 l Z a0 hw [] r0 cs ca cc  h0 n0 Z0 F_coder_r0 G O0) hZ (hw _ (List.mem_of_getElem? (i := 76) rfl)) (hw _ (List.mem_of_getElem? (i := 2) rfl)) (by decide) (by decide)) q3a q3c (g := (mkF m 17 #[.val (.ref r0), .val (.int (0 : Int32))] [(.ref r0)])) rfl (by rw [hml]; rfl) (Steps.refl _) (argsL := []) (rest := []) (lenOf pd__28_29Z rfl) rfl (by show 2 * 0 + _ ≤ _; exact Nat.le_of_eq rfl) (hb hby d10_17) (fun _ _ => ⟨rfl, e2, (by decide : 0 + 0 ≤ _), (by decide : 0 + 0 ≤ _)⟩)
  dsimp only [Pt.U, Pt.locs, Pt.cells, Pt.slots] at X3 l3 y3 z3 st3 hQ3
  subst l3 y3 z3
  obtain ⟨rfl, N3q, e3⟩ := hQ3
  obtain ⟨_, X3, N3⟩ := own_hide X3 (Fr.app N0 N3q)
  refine own_tr st3 ?_
  show own_Go _ _ _ _ T3 (mkF m 20 #[.val (.ref r0), .val (.int (0 : Int32))] [(.int (1 : Int32))])
  refine own_st (fun t k => XS.ifNo X3.here hx rfl (hb hby d10_20) rfl ((if0 _ _).trans (feq (by decide : ¬ ((1 : Int32) = (0 : Int32)))).1) k) ?_
  show own_Go _ _ _ _ T3 (mkF m 23 #[.val (.ref r0), .val (.int (0 : Int32))] [])
  refine own_st (fun t k => XS.aloadN X3.here hx rfl (hb hby d10_23) rfl rfl k) ?_
  show own_Go _ _ _ _ T3 (mkF m 24 #[.val (.ref r0), .val (.int (0 : Int32))] [(.ref r0)])
  obtain ⟨T4, X4, e4, st4⟩ := getF X3 hx hZ hown (host := "") (Or.inl (hw _ (List.mem_of_getElem? (i := 24) rfl))) Via.refl e3 F_value_r0 (g := (mkF m 24 #[.val (.ref r0), .val (.int (0 : Int32))] [(.ref r0)])) rfl rfl (hb hby d10_24)
  refine own_st st4 ?_
  show own_Go _ _ _ _ T4 (mkF m 27 #[.val (.ref r0), .val (.int (0 : Int32))] [(.ref bb)])
  obtain ⟨_, _, ⟨T5, L5, k5, n5⟩, -, X5, ⟨Lc5, hQ5, l5, y5, z5⟩, st5⟩ := Jvm.LawKit.callS X4 hx (y := (⟨"java/lang/StringLatin1", "hashCode", "([B)I"⟩ : MethodName)) hown (mvT hZ (hw _ (List.mem_of_getElem? (i := 78) rfl))) (mvT hZ (hw _ (List.mem_of_getElem? (i := 79) rfl))) (mvT hZ (hw _ (List.mem_of_getElem? (i := 80) rfl))) (mvT hZ (hw _ (List.mem_of_getElem? (i := 81) rfl))) (by decide) (backOf (W := 0) (rm12 l Z a0 hw [] bb nn kr u0 u1  h0 n0 Z0 Vb hn Er) hZ (hw _ (List.mem_of_getElem? (i := 81) rfl)) (hw _ (List.mem_of_getElem? (i := 80) rfl)) (by decide) (by decide)) (g := (mkF m 27 #[.val (.ref r0), .val (.int (0 : Int32))] [(.ref bb)])) rfl (by rw [hml]; rfl) (argsL := [(.ref bb)]) (rest := []) (lenOf pd__28_5bB_29I rfl) rfl (by show 2 * 0 + _ ≤ _; exact Nat.le_of_eq rfl) (hb hby d10_27) (fun _ _ => ⟨rfl, e4, (by decide : 0 + 0 ≤ _), (by decide : 0 + 0 ≤ _)⟩)
  dsimp only [Pt.U, Pt.locs, Pt.cells, Pt.slots] at X5 l5 y5 z5 st5 hQ5
  subst l5 y5 z5
  obtain ⟨z5, rfl, N5q, e5⟩ := hQ5
  obtain ⟨_, X5, N5⟩ := own_hide X5 (Fr.app N3 N5q)
  refine own_st st5 ?_
  show own_Go _ _ _ _ T5 (mkF m 30 #[.val (.ref r0), .val (.int (0 : Int32))] [(.int z5)])
  refine own_st (fun t k => XS.goto X5.here hx rfl (pc0 := 30) (pc' := 40) rfl (hb hby d10_30) (by decide) (by decide) k) ?_
  show own_Go _ _ _ _ T5 (mkF m 40 #[.val (.ref r0), .val (.int (0 : Int32))] [(.int z5)])
  refine own_st (fun t k => XS.istoreN X5.here hx rfl (hb hby d10_40) rfl (l' := #[.val (.ref r0), .val (.int z5)]) rfl k) ?_
  show own_Go _ _ _ _ T5 (mkF m 41 #[.val (.ref r0), .val (.int z5)] [])
  refine own_st (fun t k => XS.iloadN X5.here hx rfl (hb hby d10_41) rfl k) ?_
  show own_Go _ _ _ _ T5 (mkF m 42 #[.val (.ref r0), .val (.int z5)] [(.int z5)])
  by_cases c42_6 : z5 = (0 : Int32)
  ·
    refine own_st (fun t k => XS.ifNo X5.here hx rfl (hb hby d10_42) rfl ((if0 _ _).trans (teq c42_6).2) k) ?_
    show own_Go _ _ _ _ T5 (mkF m 45 #[.val (.ref r0), .val (.int z5)] [])
    refine own_st (fun t k => XS.aloadN X5.here hx rfl (hb hby d10_45) rfl rfl k) ?_
    show own_Go _ _ _ _ T5 (mkF m 46 #[.val (.ref r0), .val (.int z5)] [(.ref r0)])
    refine own_st (fun t k => XS.iconst X5.here hx rfl (hb hby d10_46) k) ?_
    show own_Go _ _ _ _ T5 (mkF m 47 #[.val (.ref r0), .val (.int z5)] [(.int (1 : Int32)), (.ref r0)])
    obtain ⟨T7, h7, X7, e7, W7, st7⟩ := putFN X5 hx hZ hown (hw _ (List.mem_of_getElem? (i := 70) rfl)) Via.refl e5 F_hashIsZero_r0 E_r0 (Or.inl (hw _ (List.mem_of_getElem? (i := 71) rfl))) (hw _ (List.mem_of_getElem? (i := 1) rfl)) (ty := .boolean) (v' := (.int (nar .boolean (1 : Int32)))) (by decide) rfl (fits_nar_bool _) (g := (mkF m 47 #[.val (.ref r0), .val (.int z5)] [(.int (1 : Int32)), (.ref r0)])) rfl rfl (hb hby d10_47)
    have F7 := F_hashIsZero_r0.same W7
    obtain ⟨_, X7, N7⟩ := own_hide X7 (Fr.snoc X7 N5 g_r0)
    refine own_st st7 ?_
    show own_Go _ _ _ _ T7 (mkF m 50 #[.val (.ref r0), .val (.int z5)] [])
    refine own_st (fun t k => XS.goto X7.here hx rfl (pc0 := 50) (pc' := 58) rfl (hb hby d10_50) (by decide) (by decide) k) ?_
    show own_Go _ _ _ _ T7 (mkF m 58 #[.val (.ref r0), .val (.int z5)] [])
    refine own_st (fun t k => XS.iloadN X7.here hx rfl (hb hby d10_58) rfl k) ?_
    show own_Go _ _ _ _ T7 (mkF m 59 #[.val (.ref r0), .val (.int z5)] [(.int z5)])
    have K0_8 := (K0.wr W7 (Or.inl (List.mem_of_getElem? (i := 0) rfl)))
    have F_value_r0_9 := (F_value_r0.other W7 (Or.inr (slot_ne (Or.inr (hw _ (List.mem_of_getElem? (i := 20) rfl))) (Or.inl (hw _ (List.mem_of_getElem? (i := 71) rfl))) (by decide) (t := (.array .byte)) (t' := .boolean) (by decide) (by decide))))
    have F_coder_r0_10 := (F_coder_r0.other W7 (Or.inr (slot_ne (Or.inr (hw _ (List.mem_of_getElem? (i := 21) rfl))) (Or.inl (hw _ (List.mem_of_getElem? (i := 71) rfl))) (by decide) (t := .byte) (t' := .boolean) (by decide) (by decide))))
    exact own_retI X7 hx hlk hrt (hb hby d10_59) (by rw [e7]; exact ⟨_, rfl, N7, K0_8, F_value_r0_9, F_coder_r0_10⟩) (by decide) (by decide)
  ·
    refine own_st (fun t k => XS.ifYes X5.here hx rfl (pc0 := 42) (pc' := 53) rfl (hb hby d10_42) rfl ((if0 _ _).trans (feq c42_6).2) (by decide) (by decide) k) ?_
    show own_Go _ _ _ _ T5 (mkF m 53 #[.val (.ref r0), .val (.int z5)] [])
    refine own_st (fun t k => XS.aloadN X5.here hx rfl (hb hby d10_53) rfl rfl k) ?_
    show own_Go _ _ _ _ T5 (mkF m 54 #[.val (.ref r0), .val (.int z5)] [(.ref r0)])
    refine own_st (fun t k => XS.iloadN X5.here hx rfl (hb hby d10_54) rfl k) ?_
    show own_Go _ _ _ _ T5 (mkF m 55 #[.val (.ref r0), .val (.int z5)] [(.int z5), (.ref r0)])
    obtain ⟨T11, h11, X11, e11, W11, st11⟩ := putF X5 hx hZ hown (host := "") (Or.inl (hw _ (List.mem_of_getElem? (i := 68) rfl))) Via.refl e5 F_hash_r0 E_r0 (Or.inl (hw _ (List.mem_of_getElem? (i := 69) rfl))) (hw _ (List.mem_of_getElem? (i := 1) rfl)) (ty := .int) (by decide) rfl rfl (g := (mkF m 55 #[.val (.ref r0), .val (.int z5)] [(.int z5), (.ref r0)])) rfl rfl (hb hby d10_55)
    have F11 := F_hash_r0.same W11
    obtain ⟨_, X11, N11⟩ := own_hide X11 (Fr.snoc X11 N5 g_r0)
    refine own_st st11 ?_
    show own_Go _ _ _ _ T11 (mkF m 58 #[.val (.ref r0), .val (.int z5)] [])
    refine own_st (fun t k => XS.iloadN X11.here hx rfl (hb hby d10_58) rfl k) ?_
    show own_Go _ _ _ _ T11 (mkF m 59 #[.val (.ref r0), .val (.int z5)] [(.int z5)])
    have K0_12 := (K0.wr W11 (Or.inl (List.mem_of_getElem? (i := 0) rfl)))
    have F_value_r0_13 := (F_value_r0.other W11 (Or.inr (slot_ne (Or.inr (hw _ (List.mem_of_getElem? (i := 20) rfl))) (Or.inl (hw _ (List.mem_of_getElem? (i := 69) rfl))) (by decide) (t := (.array .byte)) (t' := .int) (by decide) (by decide))))
    have F_coder_r0_14 := (F_coder_r0.other W11 (Or.inr (slot_ne (Or.inr (hw _ (List.mem_of_getElem? (i := 21) rfl))) (Or.inl (hw _ (List.mem_of_getElem? (i := 69) rfl))) (by decide) (t := .byte) (t' := .int) (by decide) (by decide))))
    exact own_retI X11 hx hlk hrt (hb hby d10_59) (by rw [e11]; exact ⟨_, rfl, N11, K0_12, F_value_r0_13, F_coder_r0_14⟩) (by decide) (by decide)
/-! body 21: Number.<init> -/
theorem d21_0 : decode jdk_18_method_1_code 0 = .ok (.aload_n 0, 1) := by decide +kernel
theorem d21_1 : decode jdk_18_method_1_code 1 = .ok (.invokespecial 1, 3) := by decide +kernel
theorem d21_4 : decode jdk_18_method_1_code 4 = .ok (.return_, 1) := by decide +kernel
theorem pn_java_lang_Number : plainName "java/lang/Number" = true := by first | (simp [plainName, overriddenIn]; done) | decide +kernel
theorem ef_21 (m : MethodId) (x0 : Addr) : entryFrame m #[(.ref x0)] 1 = mkF m 0 #[.val (.ref x0)] [] := by first | (simp [entryFrame, mkF, argsToLocals, Value.category]; done) | rfl
def Q21 (Z : State) (r0 : Addr) (h0 : Heap) (n0 : Nat) (v : Option Value) (h : Heap) (L : List Loc) : Prop := v = none ∧ Fr n0 L ∧ h = h0
set_option maxRecDepth 65536 in
set_option maxHeartbeats 40000000 in
theorem rm21 (l : Launch) (Z : State) (a0 : Array Value) (hw : ∀ d ∈ tables_1, d.before a0 Z = true) (ws : List Jvm.Cond) (r0 : Addr) (h0 : Heap) (n0 : Nat) (Z0 : n0 ≤ h0.size) :
    MetFree l (⟨"java/lang/Number", "<init>", "()V"⟩ : MethodName) (head1 (Jvm.Cond.code (⟨"java/lang/Number", "<init>", "()V"⟩ : MethodName) jdk_18_method_1_code 1 none :: ws) ({ frames := 1, cells := 0, slots := 0, locals := 12 } : Room)) (fun a U => a = #[(.ref r0)] ∧ Z.Warmed39 U.vm ∧ U.heap = h0) (fun _ _ _ _ _ => True) (fun _ U o U' => ∃ v L, o = .returned v ∧ Q21 Z r0 h0 n0 v U'.heap L ∧ FrameEnd U o U' L ({ frames := 1, cells := 0, slots := 0, locals := 12 } : Room).cells ({ frames := 1, cells := 0, slots := 0, locals := 12 } : Room).slots) := by
  refine MetFree.of_bodySF (plainFor_of_name pn_java_lang_Number) hisR ?_
  intro p e s m args below meth c s₁ Bd hml0 hP hK
  obtain ⟨rfl, hZ, hh⟩ := hP
  have hx := Bd.exec
  have hby := Bd.bytes
  have hlk := Bd.notSynchronized
  have hrt := Bd.returns
  have hml : c.maxLocals = 1 := hml0
  have hown : s.vm.findClass "java/lang/Number" = some m.cls := findClass_of_methodNamed Bd.named
  have hnm := (name_of_methodNamed Bd.named Bd.method).1
  have X0 : Stand p l e ({ frames := 1, cells := 0, slots := 0, locals := 12 } : Room) s m #[(.ref r0)] below meth c s₁ [] 0 0 := Stand.of_body Bd
  have e0 : s₁.heap = h0 := by rw [← hh, Bd.state]; rfl
  have N0 := Fr.nil n0
  have K0 := Keep.refl h0 []
  refine own_out (Q := Q21 Z r0 h0 n0) ?_
  refine own_in (ef_21 m r0) ?_
  show own_Go _ _ _ _ s₁ (mkF m 0 #[.val (.ref r0)] [])
  refine own_st (fun t k => XS.aloadN X0.here hx rfl (hb hby d21_0) rfl rfl k) ?_
  show own_Go _ _ _ _ s₁ (mkF m 1 #[.val (.ref r0)] [(.ref r0)])
  obtain ⟨T1, X1, e1, st1⟩ := initO X0 hx hZ hown (hw _ (List.mem_of_getElem? (i := 128) rfl)) (hw _ (List.mem_of_getElem? (i := 16) rfl)) (hw _ (List.mem_of_getElem? (i := 17) rfl)) e0 (g := (mkF m 1 #[.val (.ref r0)] [(.ref r0)])) rfl (by rw [hml]; rfl) rfl (hb hby d21_1) (by decide) (W := 0) (by show 2 * 0 + _ ≤ _; exact Nat.le_of_eq rfl) (by decide)
  refine own_st st1 ?_
  show own_Go _ _ _ _ T1 (mkF m 4 #[.val (.ref r0)] [])
  exact own_retV X1 hx hlk hrt (hb hby d21_4) ⟨rfl, N0, e1⟩ (by decide) (by decide)
theorem pd__28_29V : parseMethodDescriptor "()V" = some ⟨[], none⟩ := by decide +kernel
/-! body 20: Integer.<init> -/
theorem d20_0 : decode jdk_33_method_23_code 0 = .ok (.aload_n 0, 1) := by decide +kernel
theorem d20_1 : decode jdk_33_method_23_code 1 = .ok (.invokespecial 202, 3) := by decide +kernel
theorem d20_4 : decode jdk_33_method_23_code 4 = .ok (.aload_n 0, 1) := by decide +kernel
theorem d20_5 : decode jdk_33_method_23_code 5 = .ok (.iload_n 1, 1) := by decide +kernel
theorem d20_6 : decode jdk_33_method_23_code 6 = .ok (.putfield 205, 3) := by decide +kernel
theorem d20_9 : decode jdk_33_method_23_code 9 = .ok (.return_, 1) := by decide +kernel
theorem ef_20 (m : MethodId) (x0 : Addr) (x1 : Int32) : entryFrame m #[(.ref x0), (.int x1)] 2 = mkF m 0 #[.val (.ref x0), .val (.int x1)] [] := by first | (simp [entryFrame, mkF, argsToLocals, Value.category]; done) | rfl
def Q20 (Z : State) (r0 : Addr) (iv : Int32) (h0 : Heap) (n0 : Nat) (v : Option Value) (h : Heap) (L : List Loc) : Prop := v = none ∧ Fr n0 L ∧ Keep h0 h [r0] ∧ Fld Z h r0 "java/lang/Integer" "value" "I" (.int iv)
set_option maxRecDepth 65536 in
set_option maxHeartbeats 40000000 in
theorem rm20 (l : Launch) (Z : State) (a0 : Array Value) (hw : ∀ d ∈ tables_1, d.before a0 Z = true) (ws : List Jvm.Cond) (r0 : Addr) (iv : Int32) (h0 : Heap) (n0 : Nat) (Z0 : n0 ≤ h0.size) (E_r0 : Exa Z h0 r0 "java/lang/Integer") (F_value_r0 : Fld Z h0 r0 "java/lang/Integer" "value" "I" (.int (0 : Int32))) (g_r0 : n0 ≤ r0) :
    MetFree l (⟨"java/lang/Integer", "<init>", "(I)V"⟩ : MethodName) (head1 (Jvm.Cond.code (⟨"java/lang/Integer", "<init>", "(I)V"⟩ : MethodName) jdk_33_method_23_code 2 none :: ws) ({ frames := 2, cells := 0, slots := 0, locals := 24 } : Room)) (fun a U => a = #[(.ref r0), (.int iv)] ∧ Z.Warmed39 U.vm ∧ U.heap = h0) (fun _ _ _ _ _ => True) (fun _ U o U' => ∃ v L, o = .returned v ∧ Q20 Z r0 iv h0 n0 v U'.heap L ∧ FrameEnd U o U' L ({ frames := 2, cells := 0, slots := 0, locals := 24 } : Room).cells ({ frames := 2, cells := 0, slots := 0, locals := 24 } : Room).slots) := by
  refine MetFree.of_bodySF (plainFor_of_name pn_java_lang_Integer) hisR ?_
  intro p e s m args below meth c s₁ Bd hml0 hP hK
  obtain ⟨rfl, hZ, hh⟩ := hP
  have hx := Bd.exec
  have hby := Bd.bytes
  have hlk := Bd.notSynchronized
  have hrt := Bd.returns
  have hml : c.maxLocals = 2 := hml0
  have hown : s.vm.findClass "java/lang/Integer" = some m.cls := findClass_of_methodNamed Bd.named
  have hnm := (name_of_methodNamed Bd.named Bd.method).1
  have X0 : Stand p l e ({ frames := 2, cells := 0, slots := 0, locals := 24 } : Room) s m #[(.ref r0), (.int iv)] below meth c s₁ [] 0 0 := Stand.of_body Bd
  have e0 : s₁.heap = h0 := by rw [← hh, Bd.state]; rfl
  have N0 := Fr.nil n0
  have K0 := Keep.refl h0 [r0]
  refine own_out (Q := Q20 Z r0 iv h0 n0) ?_
  refine own_in (ef_20 m r0 iv) ?_
  show own_Go _ _ _ _ s₁ (mkF m 0 #[.val (.ref r0), .val (.int iv)] [])
  refine own_st (fun t k => XS.aloadN X0.here hx rfl (hb hby d20_0) rfl rfl k) ?_
  show own_Go _ _ _ _ s₁ (mkF m 1 #[.val (.ref r0), .val (.int iv)] [(.ref r0)])
  obtain ⟨_, _, ⟨T1, L1, k1, n1⟩, -, X1, ⟨Lc1, hQ1, l1, y1, z1⟩, st1⟩ := X0.specialBack hx (y := (⟨"java/lang/Number", "<init>", "()V"⟩ : MethodName)) rfl hown (mvT hZ (hw _ (List.mem_of_getElem? (i := 122) rfl))) (mvT hZ (hw _ (List.mem_of_getElem? (i := 123) rfl))) (mvT hZ (hw _ (List.mem_of_getElem? (i := 127) rfl))) (by decide) (backOf (W := 0) (rm21 l Z a0 hw [] r0  h0 n0 Z0 ) hZ (hw _ (List.mem_of_getElem? (i := 127) rfl)) (hw _ (List.mem_of_getElem? (i := 126) rfl)) (by decide) (by decide)) (g := (mkF m 1 #[.val (.ref r0), .val (.int iv)] [(.ref r0)])) rfl (by rw [hml]; rfl) (Steps.refl _) (a := r0) (argsL := []) (rest := []) (lenOf pd__28_29V rfl) rfl (by show 2 * 0 + _ ≤ _; exact Nat.le_of_eq rfl) (hb hby d20_1) (fun _ _ => ⟨rfl, e0, (by decide : 0 + 0 ≤ _), (by decide : 0 + 0 ≤ _)⟩)
  dsimp only [Pt.U, Pt.locs, Pt.cells, Pt.slots] at X1 l1 y1 z1 st1 hQ1
  subst l1 y1 z1
  obtain ⟨rfl, N1q, e1⟩ := hQ1
  obtain ⟨_, X1, N1⟩ := own_hide X1 (Fr.app N0 N1q)
  refine own_tr st1 ?_
  show own_Go _ _ _ _ T1 (mkF m 4 #[.val (.ref r0), .val (.int iv)] [])
  refine own_st (fun t k => XS.aloadN X1.here hx rfl (hb hby d20_4) rfl rfl k) ?_
  show own_Go _ _ _ _ T1 (mkF m 5 #[.val (.ref r0), .val (.int iv)] [(.ref r0)])
  refine own_st (fun t k => XS.iloadN X1.here hx rfl (hb hby d20_5) rfl k) ?_
  show own_Go _ _ _ _ T1 (mkF m 6 #[.val (.ref r0), .val (.int iv)] [(.int iv), (.ref r0)])
  obtain ⟨T2, h2, X2, e2, W2, st2⟩ := putF X1 hx hZ hown (host := "") (Or.inl (hw _ (List.mem_of_getElem? (i := 85) rfl))) Via.refl e1 F_value_r0 E_r0 (Or.inr ⟨(hw _ (List.mem_of_getElem? (i := 86) rfl)), rfl, hnm⟩) (hw _ (List.mem_of_getElem? (i := 117) rfl)) (ty := .int) (by decide) rfl rfl (g := (mkF m 6 #[.val (.ref r0), .val (.int iv)] [(.int iv), (.ref r0)])) rfl rfl (hb hby d20_6)
  have F2 := F_value_r0.same W2
  obtain ⟨_, X2, N2⟩ := own_hide X2 (Fr.snoc X2 N1 g_r0)
  refine own_st st2 ?_
  show own_Go _ _ _ _ T2 (mkF m 9 #[.val (.ref r0), .val (.int iv)] [])
  have K0_3 := (K0.wr W2 (Or.inl (List.mem_of_getElem? (i := 0) rfl)))
  exact own_retV X2 hx hlk hrt (hb hby d20_9) (by rw [e2]; exact ⟨rfl, N2, K0_3, F2⟩) (by decide) (by decide)
theorem pd__28I_29V : parseMethodDescriptor "(I)V" = some ⟨[.int], none⟩ := by decide +kernel
/-! body 7: Integer.valueOf -/
theorem d7_0 : decode jdk_33_method_22_code 0 = .ok (.iload_n 0, 1) := by decide +kernel
theorem d7_1 : decode jdk_33_method_22_code 1 = .ok (.bipush (-128), 2) := by decide +kernel
theorem d7_3 : decode jdk_33_method_22_code 3 = .ok (.if_icmp .lt 20, 3) := by decide +kernel
theorem d7_6 : decode jdk_33_method_22_code 6 = .ok (.iload_n 0, 1) := by decide +kernel
theorem d7_7 : decode jdk_33_method_22_code 7 = .ok (.getstatic 191, 3) := by decide +kernel
theorem d7_10 : decode jdk_33_method_22_code 10 = .ok (.if_icmp .gt 13, 3) := by decide +kernel
theorem d7_13 : decode jdk_33_method_22_code 13 = .ok (.getstatic 195, 3) := by decide +kernel
theorem d7_16 : decode jdk_33_method_22_code 16 = .ok (.iload_n 0, 1) := by decide +kernel
theorem d7_17 : decode jdk_33_method_22_code 17 = .ok (.sipush 128, 3) := by decide +kernel
theorem d7_20 : decode jdk_33_method_22_code 20 = .ok (.iadd, 1) := by decide +kernel
theorem d7_21 : decode jdk_33_method_22_code 21 = .ok (.aaload, 1) := by decide +kernel
theorem d7_22 : decode jdk_33_method_22_code 22 = .ok (.areturn, 1) := by decide +kernel
theorem d7_23 : decode jdk_33_method_22_code 23 = .ok (.new 1, 3) := by decide +kernel
theorem d7_26 : decode jdk_33_method_22_code 26 = .ok (.dup, 1) := by decide +kernel
theorem d7_27 : decode jdk_33_method_22_code 27 = .ok (.iload_n 0, 1) := by decide +kernel
theorem d7_28 : decode jdk_33_method_22_code 28 = .ok (.invokespecial 199, 3) := by decide +kernel
theorem d7_31 : decode jdk_33_method_22_code 31 = .ok (.areturn, 1) := by decide +kernel
theorem ef_7 (m : MethodId) (x0 : Int32) : entryFrame m #[(.int x0)] 1 = mkF m 0 #[.val (.int x0)] [] := by first | (simp [entryFrame, mkF, argsToLocals, Value.category]; done) | rfl
def Q7 (Z : State) (iv : Int32) (cs : Int32) (ca : Addr) (cc : Cell) (h0 : Heap) (n0 : Nat) (v : Option Value) (h : Heap) (L : List Loc) : Prop := ∃ (a : Addr) (z : Int32), v = some (.ref a) ∧ Fr n0 L ∧ Keep h0 h [] ∧ Exa Z h a "java/lang/Integer" ∧ Fld Z h a "java/lang/Integer" "value" "I" (.int z)
set_option maxRecDepth 65536 in
set_option maxHeartbeats 40000000 in
theorem rm7 (l : Launch) (Z : State) (a0 : Array Value) (hw : ∀ d ∈ tables_1, d.before a0 Z = true) (ws : List Jvm.Cond) (iv : Int32) (cs : Int32) (ca : Addr) (cc : Cell) (h0 : Heap) (n0 : Nat) (Z0 : n0 ≤ h0.size) (G : own_G Z cs ca cc) (O0 : Old Z n0 h0) (hi : ¬ iv < (0 : Int32)) :
    MetFree l (⟨"java/lang/Integer", "valueOf", "(I)Ljava/lang/Integer;"⟩ : MethodName) (head1 (Jvm.Cond.code (⟨"java/lang/Integer", "valueOf", "(I)Ljava/lang/Integer;"⟩ : MethodName) jdk_33_method_22_code 1 (some (.object "java/lang/Integer")) :: ws) ({ frames := 3, cells := 1, slots := 1, locals := 38 } : Room)) (fun a U => a = #[(.int iv)] ∧ Z.Warmed39 U.vm ∧ U.heap = h0) (fun _ _ _ _ _ => True) (fun _ U o U' => ∃ v L, o = .returned v ∧ Q7 Z iv cs ca cc h0 n0 v U'.heap L ∧ FrameEnd U o U' L ({ frames := 3, cells := 1, slots := 1, locals := 38 } : Room).cells ({ frames := 3, cells := 1, slots := 1, locals := 38 } : Room).slots) := by
  refine MetFree.of_bodySF (plainFor_of_name pn_java_lang_Integer) hisR ?_
  intro p e s m args below meth c s₁ Bd hml0 hP hK
  obtain ⟨rfl, hZ, hh⟩ := hP
  have hx := Bd.exec
  have hby := Bd.bytes
  have hlk := Bd.notSynchronized
  have hrt := Bd.returns
  have hml : c.maxLocals = 1 := hml0
  have hown : s.vm.findClass "java/lang/Integer" = some m.cls := findClass_of_methodNamed Bd.named
  have hnm := (name_of_methodNamed Bd.named Bd.method).1
  have X0 : Stand p l e ({ frames := 3, cells := 1, slots := 1, locals := 38 } : Room) s m #[(.int iv)] below meth c s₁ [] 0 0 := Stand.of_body Bd
  have e0 : s₁.heap = h0 := by rw [← hh, Bd.state]; rfl
  have N0 := Fr.nil n0
  have K0 := Keep.refl h0 []
  refine own_out (Q := Q7 Z iv cs ca cc h0 n0) ?_
  refine own_in (ef_7 m iv) ?_
  show own_Go _ _ _ _ s₁ (mkF m 0 #[.val (.int iv)] [])
  refine own_st (fun t k => XS.iloadN X0.here hx rfl (hb hby d7_0) rfl k) ?_
  show own_Go _ _ _ _ s₁ (mkF m 1 #[.val (.int iv)] [(.int iv)])
  refine own_st (fun t k => XS.bipush X0.here hx rfl (hb hby d7_1) k) ?_
  show own_Go _ _ _ _ s₁ (mkF m 3 #[.val (.int iv)] [(.int (-128 : Int32)), (.int iv)])
  refine own_st (fun t k => XS.icmpNo X0.here hx rfl (hb hby d7_3) rfl (flt (own_n128 hi : ¬ (iv < (-128 : Int32)))).1 k) ?_
  show own_Go _ _ _ _ s₁ (mkF m 6 #[.val (.int iv)] [])
  refine own_st (fun t k => XS.iloadN X0.here hx rfl (hb hby d7_6) rfl k) ?_
  show own_Go _ _ _ _ s₁ (mkF m 7 #[.val (.int iv)] [(.int iv)])
  obtain ⟨T1, X1, e1, st1⟩ := getS2 X0 hx hZ hown (host := "") (Or.inl (hw _ (List.mem_of_getElem? (i := 51) rfl))) Via.refl e0 (G.2.2.1.ext O0.2) (g := (mkF m 7 #[.val (.int iv)] [(.int iv)])) rfl (hb hby d7_7)
  refine own_st st1 ?_
  show own_Go _ _ _ _ T1 (mkF m 10 #[.val (.int iv)] [(.int (127 : Int32)), (.int iv)])
  by_cases c10_2 : (127 : Int32) < iv
  ·
    refine own_st (fun t k => XS.icmpYes X1.here hx rfl (pc0 := 10) (pc' := 23) rfl (hb hby d7_10) rfl (tlt c10_2).2.2.1 (by decide) (by decide) k) ?_
    show own_Go _ _ _ _ T1 (mkF m 23 #[.val (.int iv)] [])
    obtain ⟨T3, h3, X3, e3, E3, A3, D3, -, st3⟩ := newO X1 hx hZ hown (hw _ (List.mem_of_getElem? (i := 116) rfl)) (hw _ (List.mem_of_getElem? (i := 117) rfl)) (hw _ (List.mem_of_getElem? (i := 49) rfl)) e1 (g := (mkF m 23 #[.val (.int iv)] [])) rfl (hb hby d7_23) (by decide) (by decide)
    obtain ⟨b3, g3⟩ : ∃ z, z = h0.size := ⟨_, rfl⟩
    rw [← g3] at A3 D3 st3
    have sz_b3 : h0.size ≤ b3 := Nat.le_trans K0.1 (Nat.le_of_eq g3.symm)
    have g_b3 : n0 ≤ b3 := Nat.le_trans Z0 sz_b3
    have F3_value : Fld Z h3 b3 "java/lang/Integer" "value" "I" (.int (0 : Int32)) := D3 (Or.inr (hw _ (List.mem_of_getElem? (i := 86) rfl))) (ty := .int) (by decide)
    refine own_st st3 ?_
    show own_Go _ _ _ _ T3 (mkF m 26 #[.val (.int iv)] [(.ref b3)])
    refine own_st (fun t k => XS.dup X3.here hx rfl (hb hby d7_26) rfl rfl k) ?_
    show own_Go _ _ _ _ T3 (mkF m 27 #[.val (.int iv)] [(.ref b3), (.ref b3)])
    refine own_st (fun t k => XS.iloadN X3.here hx rfl (hb hby d7_27) rfl k) ?_
    show own_Go _ _ _ _ T3 (mkF m 28 #[.val (.int iv)] [(.int iv), (.ref b3), (.ref b3)])
    have K0_5 := (K0.ext E3)
    obtain ⟨_, _, ⟨T4, L4, k4, n4⟩, -, X4, ⟨Lc4, hQ4, l4, y4, z4⟩, st4⟩ := X3.specialBack hx (y := (⟨"java/lang/Integer", "<init>", "(I)V"⟩ : MethodName)) rfl hown (mvT hZ (hw _ (List.mem_of_getElem? (i := 118) rfl))) (mvT hZ (hw _ (List.mem_of_getElem? (i := 119) rfl))) (mvT hZ (hw _ (List.mem_of_getElem? (i := 121) rfl))) (by decide) (backOf (W := 1) (rm20 l Z a0 hw [] b3 iv  h3 n0 (Nat.le_trans Z0 K0_5.1) A3 F3_value g_b3) hZ (hw _ (List.mem_of_getElem? (i := 121) rfl)) (hw _ (List.mem_of_getElem? (i := 49) rfl)) (by decide) (by decide)) (g := (mkF m 28 #[.val (.int iv)] [(.int iv), (.ref b3), (.ref b3)])) rfl (by rw [hml]; rfl) (Steps.refl _) (a := b3) (argsL := [(.int iv)]) (rest := [(.ref b3)]) (lenOf pd__28I_29V rfl) rfl (by show 2 * 0 + _ ≤ _; exact Nat.le_of_eq rfl) (hb hby d7_28) (fun _ _ => ⟨rfl, e3, (by decide : 1 + 0 ≤ _), (by decide : 1 + 0 ≤ _)⟩)
    dsimp only [Pt.U, Pt.locs, Pt.cells, Pt.slots] at X4 l4 y4 z4 st4 hQ4
    subst l4 y4 z4
    obtain ⟨rfl, N4q, K4, G4_0⟩ := hQ4
    obtain ⟨_, X4, N4⟩ := own_hide X4 (Fr.app N0 N4q)
    refine own_tr st4 ?_
    show own_Go _ _ _ _ T4 (mkF m 31 #[.val (.int iv)] [(.ref b3)])
    have K0_6 := (K0_5.trans K4 (allS ((Or.inr sz_b3)) all0))
    have A3_7 := (A3.keep K4)
    exact own_retR X4 hx hlk hrt rfl rfl rfl (hb hby d7_31) ⟨b3, _, rfl, N4, K0_6, A3_7, G4_0⟩ (by decide) (by decide)
  ·
    refine own_st (fun t k => XS.icmpNo X1.here hx rfl (hb hby d7_10) rfl (flt c10_2).2.2.1 k) ?_
    show own_Go _ _ _ _ T1 (mkF m 13 #[.val (.int iv)] [])
    obtain ⟨T8, X8, e8, st8⟩ := getS2 X1 hx hZ hown (host := "") (Or.inl (hw _ (List.mem_of_getElem? (i := 53) rfl))) Via.refl e1 (G.2.2.2.1.ext O0.2) (g := (mkF m 13 #[.val (.int iv)] [])) rfl (hb hby d7_13)
    refine own_st st8 ?_
    show own_Go _ _ _ _ T8 (mkF m 16 #[.val (.int iv)] [(.ref ca)])
    refine own_st (fun t k => XS.iloadN X8.here hx rfl (hb hby d7_16) rfl k) ?_
    show own_Go _ _ _ _ T8 (mkF m 17 #[.val (.int iv)] [(.int iv), (.ref ca)])
    refine own_st (fun t k => XS.sipush X8.here hx rfl (hb hby d7_17) k) ?_
    show own_Go _ _ _ _ T8 (mkF m 20 #[.val (.int iv)] [(.int (128 : Int32)), (.int iv), (.ref ca)])
    refine own_st (fun t k => XS.iadd X8.here hx rfl (hb hby d7_20) rfl k) ?_
    show own_Go _ _ _ _ T8 (mkF m 21 #[.val (.int iv)] [(.int (iv + (128 : Int32))), (.ref ca)])
    have Ar9 := Bxs.ext G.2.2.2.2 O0.2
    have hin9 : ¬ ((iv + (128 : Int32)) < 0 ∨ cc.slots.size ≤ ((iv + (128 : Int32))).toNatClampNeg) := inb_of Ar9.2.1 (own_idx hi c10_2)
    obtain ⟨x9, hat9, Ex9, Fx9⟩ := G.2.2.2.2.2.2.2 (iv + (128 : Int32)) hin9
    refine own_st (X8.aaload hx (j := (iv + (128 : Int32))) (v := (.ref x9)) (by rw [e8]; exact Ar9.1.1) (State.isArrayOf_alike hZ.alike Ar9.1.2.1) rfl Ar9.1.2.2 hin9 hat9 (g := (mkF m 21 #[.val (.int iv)] [(.int (iv + (128 : Int32))), (.ref ca)])) rfl rfl (hb hby d7_21)) ?_
    show own_Go _ _ _ _ T8 (mkF m 22 #[.val (.int iv)] [(.ref x9)])
    exact own_retR X8 hx hlk hrt rfl rfl rfl (hb hby d7_22) (by rw [e8]; exact ⟨x9, _, rfl, N0, K0, Ex9.ext O0.2, Fx9.ext O0.2⟩) (by decide) (by decide)
theorem pd__28_29I : parseMethodDescriptor "()I" = some ⟨[], some .int⟩ := by decide +kernel
/-! body 9: Arrays.hashCode -/
theorem d9_0 : decode jdk_65_method_157_code 0 = .ok (.aload_n 0, 1) := by decide +kernel
theorem d9_1 : decode jdk_65_method_157_code 1 = .ok (.ifnonnull 5, 3) := by decide +kernel
theorem d9_6 : decode jdk_65_method_157_code 6 = .ok (.iconst 1, 1) := by decide +kernel
theorem d9_7 : decode jdk_65_method_157_code 7 = .ok (.istore_n 1, 1) := by decide +kernel
theorem d9_8 : decode jdk_65_method_157_code 8 = .ok (.aload_n 0, 1) := by decide +kernel
theorem d9_9 : decode jdk_65_method_157_code 9 = .ok (.astore_n 2, 1) := by decide +kernel
theorem d9_10 : decode jdk_65_method_157_code 10 = .ok (.aload_n 2, 1) := by decide +kernel
theorem d9_11 : decode jdk_65_method_157_code 11 = .ok (.arraylength, 1) := by decide +kernel
theorem d9_12 : decode jdk_65_method_157_code 12 = .ok (.istore_n 3, 1) := by decide +kernel
theorem d9_13 : decode jdk_65_method_157_code 13 = .ok (.iconst 0, 1) := by decide +kernel
theorem d9_14 : decode jdk_65_method_157_code 14 = .ok (.istore 4, 2) := by decide +kernel
theorem d9_16 : decode jdk_65_method_157_code 16 = .ok (.iload 4, 2) := by decide +kernel
theorem d9_18 : decode jdk_65_method_157_code 18 = .ok (.iload_n 3, 1) := by decide +kernel
theorem d9_19 : decode jdk_65_method_157_code 19 = .ok (.if_icmp .ge 35, 3) := by decide +kernel
theorem d9_22 : decode jdk_65_method_157_code 22 = .ok (.aload_n 2, 1) := by decide +kernel
theorem d9_23 : decode jdk_65_method_157_code 23 = .ok (.iload 4, 2) := by decide +kernel
theorem d9_25 : decode jdk_65_method_157_code 25 = .ok (.aaload, 1) := by decide +kernel
theorem d9_26 : decode jdk_65_method_157_code 26 = .ok (.astore 5, 2) := by decide +kernel
theorem d9_28 : decode jdk_65_method_157_code 28 = .ok (.bipush 31, 2) := by decide +kernel
theorem d9_30 : decode jdk_65_method_157_code 30 = .ok (.iload_n 1, 1) := by decide +kernel
theorem d9_31 : decode jdk_65_method_157_code 31 = .ok (.imul, 1) := by decide +kernel
theorem d9_32 : decode jdk_65_method_157_code 32 = .ok (.aload 5, 2) := by decide +kernel
theorem d9_34 : decode jdk_65_method_157_code 34 = .ok (.ifnonnull 7, 3) := by decide +kernel
theorem d9_41 : decode jdk_65_method_157_code 41 = .ok (.aload 5, 2) := by decide +kernel
theorem d9_43 : decode jdk_65_method_157_code 43 = .ok (.invokevirtual 383, 3) := by decide +kernel
theorem d9_46 : decode jdk_65_method_157_code 46 = .ok (.iadd, 1) := by decide +kernel
theorem d9_47 : decode jdk_65_method_157_code 47 = .ok (.istore_n 1, 1) := by decide +kernel
theorem d9_48 : decode jdk_65_method_157_code 48 = .ok (.iinc 4 1, 3) := by decide +kernel
theorem d9_51 : decode jdk_65_method_157_code 51 = .ok (.goto (-35), 3) := by decide +kernel
theorem d9_54 : decode jdk_65_method_157_code 54 = .ok (.iload_n 1, 1) := by decide +kernel
theorem d9_55 : decode jdk_65_method_157_code 55 = .ok (.ireturn, 1) := by decide +kernel
theorem pn_java_util_Arrays : plainName "java/util/Arrays" = true := by first | (simp [plainName, overriddenIn]; done) | decide +kernel
theorem ef_9 (m : MethodId) (x0 : Addr) : entryFrame m #[(.ref x0)] 6 = mkF m 0 #[.val (.ref x0), .unset, .unset, .unset, .unset, .unset] [] := by first | (simp [entryFrame, mkF, argsToLocals, Value.category]; done) | rfl
def Q9 (Z : State) (r0 : Addr) (sa : Addr) (ii : Addr) (iv : Int32) (bb : Addr) (ka : ClassId) (nn : Int32) (kr : ClassId) (u0 : Int32) (u1 : Int32) (cs : Int32) (ca : Addr) (cc : Cell) (h0 : Heap) (n0 : Nat) (v : Option Value) (h : Heap) (L : List Loc) : Prop := ∃ z : Int32, v = some (.int z) ∧ Fr n0 L ∧ Keep h0 h [sa] ∧ Fld Z h sa "java/lang/String" "value" "[B" (.ref bb) ∧ Fld Z h sa "java/lang/String" "coder" "B" (.int (0 : Int32))
set_option maxRecDepth 65536 in
set_option maxHeartbeats 40000000 in
theorem rm9 (l : Launch) (Z : State) (a0 : Array Value) (hw : ∀ d ∈ tables_1, d.before a0 Z = true) (ws : List Jvm.Cond) (r0 : Addr) (sa : Addr) (ii : Addr) (iv : Int32) (bb : Addr) (ka : ClassId) (nn : Int32) (kr : ClassId) (u0 : Int32) (u1 : Int32) (cs : Int32) (ca : Addr) (cc : Cell) (h0 : Heap) (n0 : Nat) (Z0 : n0 ≤ h0.size) (Va : Arv Z h0 r0 ka (.object "java/lang/Object") (2 : Int32) [(.ref sa), (.ref ii)] .null) (E_sa : Exa Z h0 sa "java/lang/String") (g_sa : n0 ≤ sa) (F_hash_sa : Fld Z h0 sa "java/lang/String" "hash" "I" (.int (0 : Int32))) (F_hashIsZero_sa : Fld Z h0 sa "java/lang/String" "hashIsZero" "Z" (.int (0 : Int32))) (F_value_sa : Fld Z h0 sa "java/lang/String" "value" "[B" (.ref bb)) (F_coder_sa : Fld Z h0 sa "java/lang/String" "coder" "B" (.int (0 : Int32))) (E_ii : Exa Z h0 ii "java/lang/Integer") (F_ii : Fld Z h0 ii "java/lang/Integer" "value" "I" (.int iv)) (nas : r0 ≠ sa) (nis : ii ≠ sa) (Vb : Arv Z h0 bb kr .byte nn [(.int u0), (.int u1)] (.int (0 : Int32))) (hn : own_012 nn) (Er : nn = (2 : Int32) → Exa Z h0 bb "[B") (nbs : bb ≠ sa) (G : own_G Z cs ca cc) (O0 : Old Z n0 h0) :
    MetFree l (⟨"java/util/Arrays", "hashCode", "([Ljava/lang/Object;)I"⟩ : MethodName) (head1 (Jvm.Cond.code (⟨"java/util/Arrays", "hashCode", "([Ljava/lang/Object;)I"⟩ : MethodName) jdk_65_method_157_code 6 (some .int) :: ws) ({ frames := 4, cells := 0, slots := 0, locals := 59 } : Room)) (fun a U => a = #[(.ref r0)] ∧ Z.Warmed39 U.vm ∧ U.heap = h0) (fun _ _ _ _ _ => True) (fun _ U o U' => ∃ v L, o = .returned v ∧ Q9 Z r0 sa ii iv bb ka nn kr u0 u1 cs ca cc h0 n0 v U'.heap L ∧ FrameEnd U o U' L ({ frames := 4, cells := 0, slots := 0, locals := 59 } : Room).cells ({ frames := 4, cells := 0, slots := 0, locals := 59 } : Room).slots) := by
  refine MetFree.of_bodySF (plainFor_of_name pn_java_util_Arrays) hisR ?_
  intro p e s m args below meth c s₁ Bd hml0 hP hK
  obtain ⟨rfl, hZ, hh⟩ := hP
  have hx := Bd.exec
  have hby := Bd.bytes
  have hlk := Bd.notSynchronized
  have hrt := Bd.returns
  have hml : c.maxLocals = 6 := hml0
  have hown : s.vm.findClass "java/util/Arrays" = some m.cls := findClass_of_methodNamed Bd.named
  have hnm := (name_of_methodNamed Bd.named Bd.method).1
  have X0 : Stand p l e ({ frames := 4, cells := 0, slots := 0, locals := 59 } : Room) s m #[(.ref r0)] below meth c s₁ [] 0 0 := Stand.of_body Bd
  have e0 : s₁.heap = h0 := by rw [← hh, Bd.state]; rfl
  have N0 := Fr.nil n0
  have K0 := Keep.refl h0 [sa]
  refine own_out (Q := Q9 Z r0 sa ii iv bb ka nn kr u0 u1 cs ca cc h0 n0) ?_
  refine own_in (ef_9 m r0) ?_
  show own_Go _ _ _ _ s₁ (mkF m 0 #[.val (.ref r0), .unset, .unset, .unset, .unset, .unset] [])
  refine own_st (fun t k => XS.aloadN X0.here hx rfl (hb hby d9_0) rfl rfl k) ?_
  show own_Go _ _ _ _ s₁ (mkF m 1 #[.val (.ref r0), .unset, .unset, .unset, .unset, .unset] [(.ref r0)])
  refine own_st (fun t k => XS.ifnonnullYes X0.here hx rfl (pc0 := 1) (pc' := 6) rfl (hb hby d9_1) rfl (by decide) (by decide) k) ?_
  show own_Go _ _ _ _ s₁ (mkF m 6 #[.val (.ref r0), .unset, .unset, .unset, .unset, .unset] [])
  refine own_st (fun t k => XS.iconst X0.here hx rfl (hb hby d9_6) k) ?_
  show own_Go _ _ _ _ s₁ (mkF m 7 #[.val (.ref r0), .unset, .unset, .unset, .unset, .unset] [(.int (1 : Int32))])
  refine own_st (fun t k => XS.istoreN X0.here hx rfl (hb hby d9_7) rfl (l' := #[.val (.ref r0), .val (.int (1 : Int32)), .unset, .unset, .unset, .unset]) rfl k) ?_
  show own_Go _ _ _ _ s₁ (mkF m 8 #[.val (.ref r0), .val (.int (1 : Int32)), .unset, .unset, .unset, .unset] [])
  refine own_st (fun t k => XS.aloadN X0.here hx rfl (hb hby d9_8) rfl rfl k) ?_
  show own_Go _ _ _ _ s₁ (mkF m 9 #[.val (.ref r0), .val (.int (1 : Int32)), .unset, .unset, .unset, .unset] [(.ref r0)])
  refine own_st (fun t k => XS.astoreN X0.here hx rfl (hb hby d9_9) rfl rfl (l' := #[.val (.ref r0), .val (.int (1 : Int32)), .val (.ref r0), .unset, .unset, .unset]) rfl k) ?_
  show own_Go _ _ _ _ s₁ (mkF m 10 #[.val (.ref r0), .val (.int (1 : Int32)), .val (.ref r0), .unset, .unset, .unset] [])
  refine own_st (fun t k => XS.aloadN X0.here hx rfl (hb hby d9_10) rfl rfl k) ?_
  show own_Go _ _ _ _ s₁ (mkF m 11 #[.val (.ref r0), .val (.int (1 : Int32)), .val (.ref r0), .unset, .unset, .unset] [(.ref r0)])
  obtain ⟨cl1, Ar1, qk1, Sz1, Nn1, Hs1, Gf1⟩ := id Va
  refine own_st (X0.arraylength hx (by rw [e0]; exact Ar1.1) (State.isArrayOf_alike hZ.alike Ar1.2.1) (g := (mkF m 11 #[.val (.ref r0), .val (.int (1 : Int32)), .val (.ref r0), .unset, .unset, .unset] [(.ref r0)])) rfl rfl (hb hby d9_11)) ?_
  rw [len_of Sz1 Nn1]
  show own_Go _ _ _ _ s₁ (mkF m 12 #[.val (.ref r0), .val (.int (1 : Int32)), .val (.ref r0), .unset, .unset, .unset] [(.int (2 : Int32))])
  refine own_st (fun t k => XS.istoreN X0.here hx rfl (hb hby d9_12) rfl (l' := #[.val (.ref r0), .val (.int (1 : Int32)), .val (.ref r0), .val (.int (2 : Int32)), .unset, .unset]) rfl k) ?_
  show own_Go _ _ _ _ s₁ (mkF m 13 #[.val (.ref r0), .val (.int (1 : Int32)), .val (.ref r0), .val (.int (2 : Int32)), .unset, .unset] [])
  refine own_st (fun t k => XS.iconst X0.here hx rfl (hb hby d9_13) k) ?_
  show own_Go _ _ _ _ s₁ (mkF m 14 #[.val (.ref r0), .val (.int (1 : Int32)), .val (.ref r0), .val (.int (2 : Int32)), .unset, .unset] [(.int (0 : Int32))])
  refine own_st (fun t k => XS.istore X0.here hx rfl (hb hby d9_14) rfl (l' := #[.val (.ref r0), .val (.int (1 : Int32)), .val (.ref r0), .val (.int (2 : Int32)), .val (.int (0 : Int32)), .unset]) rfl k) ?_
  show own_Go _ _ _ _ s₁ (mkF m 16 #[.val (.ref r0), .val (.int (1 : Int32)), .val (.ref r0), .val (.int (2 : Int32)), .val (.int (0 : Int32)), .unset] [])
  refine own_st (fun t k => XS.iload X0.here hx rfl (hb hby d9_16) rfl k) ?_
  show own_Go _ _ _ _ s₁ (mkF m 18 #[.val (.ref r0), .val (.int (1 : Int32)), .val (.ref r0), .val (.int (2 : Int32)), .val (.int (0 : Int32)), .unset] [(.int (0 : Int32))])
  refine own_st (fun t k => XS.iloadN X0.here hx rfl (hb hby d9_18) rfl k) ?_
  show own_Go _ _ _ _ s₁ (mkF m 19 #[.val (.ref r0), .val (.int (1 : Int32)), .val (.ref r0), .val (.int (2 : Int32)), .val (.int (0 : Int32)), .unset] [(.int (2 : Int32)), (.int (0 : Int32))])
  refine own_st (fun t k => XS.icmpNo X0.here hx rfl (hb hby d9_19) rfl (tlt (by decide : (0 : Int32) < (2 : Int32))).2.1 k) ?_
  show own_Go _ _ _ _ s₁ (mkF m 22 #[.val (.ref r0), .val (.int (1 : Int32)), .val (.ref r0), .val (.int (2 : Int32)), .val (.int (0 : Int32)), .unset] [])
  refine own_st (fun t k => XS.aloadN X0.here hx rfl (hb hby d9_22) rfl rfl k) ?_
  show own_Go _ _ _ _ s₁ (mkF m 23 #[.val (.ref r0), .val (.int (1 : Int32)), .val (.ref r0), .val (.int (2 : Int32)), .val (.int (0 : Int32)), .unset] [(.ref r0)])
  refine own_st (fun t k => XS.iload X0.here hx rfl (hb hby d9_23) rfl k) ?_
  show own_Go _ _ _ _ s₁ (mkF m 25 #[.val (.ref r0), .val (.int (1 : Int32)), .val (.ref r0), .val (.int (2 : Int32)), .val (.int (0 : Int32)), .unset] [(.int (0 : Int32)), (.ref r0)])
  obtain ⟨cl2, Ar2, qk2, Sz2, Nn2, Hs2, Gf2⟩ := id Va
  have hin2 : ¬ ((0 : Int32) < 0 ∨ cl2.slots.size ≤ ((0 : Int32)).toNatClampNeg) := inb_of Sz2 ⟨by decide, by decide⟩
  have hat2 : cl2.slots[((0 : Int32)).toNatClampNeg]? = some (.ref sa) := Has.at Hs2 hin2 rfl
  refine own_st (X0.aaload hx (j := (0 : Int32)) (v := (.ref sa)) (by rw [e0]; exact Ar2.1) (State.isArrayOf_alike hZ.alike Ar2.2.1) rfl Ar2.2.2 hin2 hat2 (g := (mkF m 25 #[.val (.ref r0), .val (.int (1 : Int32)), .val (.ref r0), .val (.int (2 : Int32)), .val (.int (0 : Int32)), .unset] [(.int (0 : Int32)), (.ref r0)])) rfl rfl (hb hby d9_25)) ?_
  show own_Go _ _ _ _ s₁ (mkF m 26 #[.val (.ref r0), .val (.int (1 : Int32)), .val (.ref r0), .val (.int (2 : Int32)), .val (.int (0 : Int32)), .unset] [(.ref sa)])
  refine own_st (fun t k => XS.astore X0.here hx rfl (hb hby d9_26) rfl rfl (l' := #[.val (.ref r0), .val (.int (1 : Int32)), .val (.ref r0), .val (.int (2 : Int32)), .val (.int (0 : Int32)), .val (.ref sa)]) rfl k) ?_
  show own_Go _ _ _ _ s₁ (mkF m 28 #[.val (.ref r0), .val (.int (1 : Int32)), .val (.ref r0), .val (.int (2 : Int32)), .val (.int (0 : Int32)), .val (.ref sa)] [])
  refine own_st (fun t k => XS.bipush X0.here hx rfl (hb hby d9_28) k) ?_
  show own_Go _ _ _ _ s₁ (mkF m 30 #[.val (.ref r0), .val (.int (1 : Int32)), .val (.ref r0), .val (.int (2 : Int32)), .val (.int (0 : Int32)), .val (.ref sa)] [(.int (31 : Int32))])
  refine own_st (fun t k => XS.iloadN X0.here hx rfl (hb hby d9_30) rfl k) ?_
  show own_Go _ _ _ _ s₁ (mkF m 31 #[.val (.ref r0), .val (.int (1 : Int32)), .val (.ref r0), .val (.int (2 : Int32)), .val (.int (0 : Int32)), .val (.ref sa)] [(.int (1 : Int32)), (.int (31 : Int32))])
  refine own_st (fun t k => XS.imul X0.here hx rfl (hb hby d9_31) rfl k) ?_
  show own_Go _ _ _ _ s₁ (mkF m 32 #[.val (.ref r0), .val (.int (1 : Int32)), .val (.ref r0), .val (.int (2 : Int32)), .val (.int (0 : Int32)), .val (.ref sa)] [(.int ((31 : Int32) * (1 : Int32)))])
  refine own_st (fun t k => XS.aload X0.here hx rfl (hb hby d9_32) rfl rfl k) ?_
  show own_Go _ _ _ _ s₁ (mkF m 34 #[.val (.ref r0), .val (.int (1 : Int32)), .val (.ref r0), .val (.int (2 : Int32)), .val (.int (0 : Int32)), .val (.ref sa)] [(.ref sa), (.int ((31 : Int32) * (1 : Int32)))])
  refine own_st (fun t k => XS.ifnonnullYes X0.here hx rfl (pc0 := 34) (pc' := 41) rfl (hb hby d9_34) rfl (by decide) (by decide) k) ?_
  show own_Go _ _ _ _ s₁ (mkF m 41 #[.val (.ref r0), .val (.int (1 : Int32)), .val (.ref r0), .val (.int (2 : Int32)), .val (.int (0 : Int32)), .val (.ref sa)] [(.int ((31 : Int32) * (1 : Int32)))])
  refine own_st (fun t k => XS.aload X0.here hx rfl (hb hby d9_41) rfl rfl k) ?_
  show own_Go _ _ _ _ s₁ (mkF m 43 #[.val (.ref r0), .val (.int (1 : Int32)), .val (.ref r0), .val (.int (2 : Int32)), .val (.int (0 : Int32)), .val (.ref sa)] [(.ref sa), (.int ((31 : Int32) * (1 : Int32)))])
  obtain ⟨cq3, kq3, q3a, q3b, q3c⟩ := isOf hZ e0 E_sa
  obtain ⟨_, _, ⟨T3, L3, k3, n3⟩, -, X3, ⟨Lc3, hQ3, l3, y3, z3⟩, st3⟩ := X0.virtualBack hx (y := (⟨"java/lang/Object", "hashCode", "()I"⟩ : MethodName)) (z := (⟨"java/lang/String", "hashCode", "()I"⟩ : MethodName)) hown (mvT hZ (hw _ (List.mem_of_getElem? (i := 62) rfl))) (mvT hZ (hw _ (List.mem_of_getElem? (i := 63) rfl))) (nf_top (args := #[]) (mvT hZ (hw _ (List.mem_of_getElem? (i := 115) rfl)))) (mvT hZ (hw _ (List.mem_of_getElem? (i := 65) rfl))) (mvT hZ (hw _ (List.mem_of_getElem? (i := 66) rfl))) (by decide) (backOf (W := 1) (rm10 l Z a0 hw [] sa bb nn kr u0 u1 cs ca cc  h0 n0 Z0 E_sa F_hash_sa F_hashIsZero_sa F_value_sa F_coder_sa g_sa Vb hn Er nbs G O0) hZ (hw _ (List.mem_of_getElem? (i := 67) rfl)) (hw _ (List.mem_of_getElem? (i := 2) rfl)) (by decide) (by decide)) q3a q3c (g := (mkF m 43 #[.val (.ref r0), .val (.int (1 : Int32)), .val (.ref r0), .val (.int (2 : Int32)), .val (.int (0 : Int32)), .val (.ref sa)] [(.ref sa), (.int ((31 : Int32) * (1 : Int32)))])) rfl (by rw [hml]; rfl) (Steps.refl _) (argsL := []) (rest := [(.int ((31 : Int32) * (1 : Int32)))]) (lenOf pd__28_29I rfl) rfl (by show 2 * 0 + _ ≤ _; exact Nat.le_of_eq rfl) (hb hby d9_43) (fun _ _ => ⟨rfl, e0, (by decide : 0 + 0 ≤ _), (by decide : 0 + 0 ≤ _)⟩)
  dsimp only [Pt.U, Pt.locs, Pt.cells, Pt.slots] at X3 l3 y3 z3 st3 hQ3
  subst l3 y3 z3
  obtain ⟨z3, rfl, N3q, K3, G3a, G3b⟩ := hQ3
  obtain ⟨_, X3, N3⟩ := own_hide X3 (Fr.app N0 N3q)
  refine own_tr st3 ?_
  show own_Go _ _ _ _ T3 (mkF m 46 #[.val (.ref r0), .val (.int (1 : Int32)), .val (.ref r0), .val (.int (2 : Int32)), .val (.int (0 : Int32)), .val (.ref sa)] [(.int z3), (.int ((31 : Int32) * (1 : Int32)))])
  refine own_st (fun t k => XS.iadd X3.here hx rfl (hb hby d9_46) rfl k) ?_
  show own_Go _ _ _ _ T3 (mkF m 47 #[.val (.ref r0), .val (.int (1 : Int32)), .val (.ref r0), .val (.int (2 : Int32)), .val (.int (0 : Int32)), .val (.ref sa)] [(.int (((31 : Int32) * (1 : Int32)) + z3))])
  refine own_st (fun t k => XS.istoreN X3.here hx rfl (hb hby d9_47) rfl (l' := #[.val (.ref r0), .val (.int (((31 : Int32) * (1 : Int32)) + z3)), .val (.ref r0), .val (.int (2 : Int32)), .val (.int (0 : Int32)), .val (.ref sa)]) rfl k) ?_
  show own_Go _ _ _ _ T3 (mkF m 48 #[.val (.ref r0), .val (.int (((31 : Int32) * (1 : Int32)) + z3)), .val (.ref r0), .val (.int (2 : Int32)), .val (.int (0 : Int32)), .val (.ref sa)] [])
  refine own_st (fun t k => XS.iinc X3.here hx rfl (hb hby d9_48) rfl (l' := #[.val (.ref r0), .val (.int (((31 : Int32) * (1 : Int32)) + z3)), .val (.ref r0), .val (.int (2 : Int32)), .val (.int (1 : Int32)), .val (.ref sa)]) rfl k) ?_
  show own_Go _ _ _ _ T3 (mkF m 51 #[.val (.ref r0), .val (.int (((31 : Int32) * (1 : Int32)) + z3)), .val (.ref r0), .val (.int (2 : Int32)), .val (.int (1 : Int32)), .val (.ref sa)] [])
  refine own_st (fun t k => XS.goto X3.here hx rfl (pc0 := 51) (pc' := 16) rfl (hb hby d9_51) (by decide) (by decide) k) ?_
  show own_Go _ _ _ _ T3 (mkF m 16 #[.val (.ref r0), .val (.int (((31 : Int32) * (1 : Int32)) + z3)), .val (.ref r0), .val (.int (2 : Int32)), .val (.int (1 : Int32)), .val (.ref sa)] [])
  refine own_st (fun t k => XS.iload X3.here hx rfl (hb hby d9_16) rfl k) ?_
  show own_Go _ _ _ _ T3 (mkF m 18 #[.val (.ref r0), .val (.int (((31 : Int32) * (1 : Int32)) + z3)), .val (.ref r0), .val (.int (2 : Int32)), .val (.int (1 : Int32)), .val (.ref sa)] [(.int (1 : Int32))])
  refine own_st (fun t k => XS.iloadN X3.here hx rfl (hb hby d9_18) rfl k) ?_
  show own_Go _ _ _ _ T3 (mkF m 19 #[.val (.ref r0), .val (.int (((31 : Int32) * (1 : Int32)) + z3)), .val (.ref r0), .val (.int (2 : Int32)), .val (.int (1 : Int32)), .val (.ref sa)] [(.int (2 : Int32)), (.int (1 : Int32))])
  refine own_st (fun t k => XS.icmpNo X3.here hx rfl (hb hby d9_19) rfl (tlt (by decide : (1 : Int32) < (2 : Int32))).2.1 k) ?_
  show own_Go _ _ _ _ T3 (mkF m 22 #[.val (.ref r0), .val (.int (((31 : Int32) * (1 : Int32)) + z3)), .val (.ref r0), .val (.int (2 : Int32)), .val (.int (1 : Int32)), .val (.ref sa)] [])
  refine own_st (fun t k => XS.aloadN X3.here hx rfl (hb hby d9_22) rfl rfl k) ?_
  show own_Go _ _ _ _ T3 (mkF m 23 #[.val (.ref r0), .val (.int (((31 : Int32) * (1 : Int32)) + z3)), .val (.ref r0), .val (.int (2 : Int32)), .val (.int (1 : Int32)), .val (.ref sa)] [(.ref r0)])
  refine own_st (fun t k => XS.iload X3.here hx rfl (hb hby d9_23) rfl k) ?_
  show own_Go _ _ _ _ T3 (mkF m 25 #[.val (.ref r0), .val (.int (((31 : Int32) * (1 : Int32)) + z3)), .val (.ref r0), .val (.int (2 : Int32)), .val (.int (1 : Int32)), .val (.ref sa)] [(.int (1 : Int32)), (.ref r0)])
  have Va_5 := (Va.keep K3 (ninS nas nin0))
  obtain ⟨cl4, Ar4, qk4, Sz4, Nn4, Hs4, Gf4⟩ := id Va_5
  have hin4 : ¬ ((1 : Int32) < 0 ∨ cl4.slots.size ≤ ((1 : Int32)).toNatClampNeg) := inb_of Sz4 ⟨by decide, by decide⟩
  have hat4 : cl4.slots[((1 : Int32)).toNatClampNeg]? = some (.ref ii) := Has.at Hs4 hin4 rfl
  refine own_st (X3.aaload hx (j := (1 : Int32)) (v := (.ref ii)) (id Ar4.1) (State.isArrayOf_alike hZ.alike Ar4.2.1) rfl Ar4.2.2 hin4 hat4 (g := (mkF m 25 #[.val (.ref r0), .val (.int (((31 : Int32) * (1 : Int32)) + z3)), .val (.ref r0), .val (.int (2 : Int32)), .val (.int (1 : Int32)), .val (.ref sa)] [(.int (1 : Int32)), (.ref r0)])) rfl rfl (hb hby d9_25)) ?_
  show own_Go _ _ _ _ T3 (mkF m 26 #[.val (.ref r0), .val (.int (((31 : Int32) * (1 : Int32)) + z3)), .val (.ref r0), .val (.int (2 : Int32)), .val (.int (1 : Int32)), .val (.ref sa)] [(.ref ii)])
  refine own_st (fun t k => XS.astore X3.here hx rfl (hb hby d9_26) rfl rfl (l' := #[.val (.ref r0), .val (.int (((31 : Int32) * (1 : Int32)) + z3)), .val (.ref r0), .val (.int (2 : Int32)), .val (.int (1 : Int32)), .val (.ref ii)]) rfl k) ?_
  show own_Go _ _ _ _ T3 (mkF m 28 #[.val (.ref r0), .val (.int (((31 : Int32) * (1 : Int32)) + z3)), .val (.ref r0), .val (.int (2 : Int32)), .val (.int (1 : Int32)), .val (.ref ii)] [])
  refine own_st (fun t k => XS.bipush X3.here hx rfl (hb hby d9_28) k) ?_
  show own_Go _ _ _ _ T3 (mkF m 30 #[.val (.ref r0), .val (.int (((31 : Int32) * (1 : Int32)) + z3)), .val (.ref r0), .val (.int (2 : Int32)), .val (.int (1 : Int32)), .val (.ref ii)] [(.int (31 : Int32))])
  refine own_st (fun t k => XS.iloadN X3.here hx rfl (hb hby d9_30) rfl k) ?_
  show own_Go _ _ _ _ T3 (mkF m 31 #[.val (.ref r0), .val (.int (((31 : Int32) * (1 : Int32)) + z3)), .val (.ref r0), .val (.int (2 : Int32)), .val (.int (1 : Int32)), .val (.ref ii)] [(.int (((31 : Int32) * (1 : Int32)) + z3)), (.int (31 : Int32))])
  refine own_st (fun t k => XS.imul X3.here hx rfl (hb hby d9_31) rfl k) ?_
  show own_Go _ _ _ _ T3 (mkF m 32 #[.val (.ref r0), .val (.int (((31 : Int32) * (1 : Int32)) + z3)), .val (.ref r0), .val (.int (2 : Int32)), .val (.int (1 : Int32)), .val (.ref ii)] [(.int ((31 : Int32) * (((31 : Int32) * (1 : Int32)) + z3)))])
  refine own_st (fun t k => XS.aload X3.here hx rfl (hb hby d9_32) rfl rfl k) ?_
  show own_Go _ _ _ _ T3 (mkF m 34 #[.val (.ref r0), .val (.int (((31 : Int32) * (1 : Int32)) + z3)), .val (.ref r0), .val (.int (2 : Int32)), .val (.int (1 : Int32)), .val (.ref ii)] [(.ref ii), (.int ((31 : Int32) * (((31 : Int32) * (1 : Int32)) + z3)))])
  refine own_st (fun t k => XS.ifnonnullYes X3.here hx rfl (pc0 := 34) (pc' := 41) rfl (hb hby d9_34) rfl (by decide) (by decide) k) ?_
  show own_Go _ _ _ _ T3 (mkF m 41 #[.val (.ref r0), .val (.int (((31 : Int32) * (1 : Int32)) + z3)), .val (.ref r0), .val (.int (2 : Int32)), .val (.int (1 : Int32)), .val (.ref ii)] [(.int ((31 : Int32) * (((31 : Int32) * (1 : Int32)) + z3)))])
  refine own_st (fun t k => XS.aload X3.here hx rfl (hb hby d9_41) rfl rfl k) ?_
  show own_Go _ _ _ _ T3 (mkF m 43 #[.val (.ref r0), .val (.int (((31 : Int32) * (1 : Int32)) + z3)), .val (.ref r0), .val (.int (2 : Int32)), .val (.int (1 : Int32)), .val (.ref ii)] [(.ref ii), (.int ((31 : Int32) * (((31 : Int32) * (1 : Int32)) + z3)))])
  have F_ii_6 := (F_ii.keep K3 (ninS nis nin0))
  have K0_8 := (K0.trans K3 (allS ((Or.inl (List.mem_of_getElem? (i := 0) rfl))) all0))
  have E_ii_9 := (E_ii.keep K3)
  obtain ⟨cq7, kq7, q7a, q7b, q7c⟩ := isOf hZ rfl E_ii_9
  obtain ⟨_, _, ⟨T7, L7, k7, n7⟩, -, X7, ⟨Lc7, hQ7, l7, y7, z7⟩, st7⟩ := X3.virtualBack hx (y := (⟨"java/lang/Object", "hashCode", "()I"⟩ : MethodName)) (z := (⟨"java/lang/Integer", "hashCode", "()I"⟩ : MethodName)) hown (mvT hZ (hw _ (List.mem_of_getElem? (i := 62) rfl))) (mvT hZ (hw _ (List.mem_of_getElem? (i := 63) rfl))) (nf_top (args := #[]) (mvT hZ (hw _ (List.mem_of_getElem? (i := 115) rfl)))) (mvT hZ (hw _ (List.mem_of_getElem? (i := 82) rfl))) (mvT hZ (hw _ (List.mem_of_getElem? (i := 83) rfl))) (by decide) (backOf (W := 1) (rm13 l Z a0 hw [] ii iv  T3.heap n0 (Nat.le_trans Z0 K0_8.1) F_ii_6) hZ (hw _ (List.mem_of_getElem? (i := 84) rfl)) (hw _ (List.mem_of_getElem? (i := 49) rfl)) (by decide) (by decide)) q7a q7c (g := (mkF m 43 #[.val (.ref r0), .val (.int (((31 : Int32) * (1 : Int32)) + z3)), .val (.ref r0), .val (.int (2 : Int32)), .val (.int (1 : Int32)), .val (.ref ii)] [(.ref ii), (.int ((31 : Int32) * (((31 : Int32) * (1 : Int32)) + z3)))])) rfl (by rw [hml]; rfl) (Steps.refl _) (argsL := []) (rest := [(.int ((31 : Int32) * (((31 : Int32) * (1 : Int32)) + z3)))]) (lenOf pd__28_29I rfl) rfl (by show 2 * 0 + _ ≤ _; exact Nat.le_of_eq rfl) (hb hby d9_43) (fun _ _ => ⟨rfl, rfl, (by decide : 0 + 0 ≤ _), (by decide : 0 + 0 ≤ _)⟩)
  dsimp only [Pt.U, Pt.locs, Pt.cells, Pt.slots] at X7 l7 y7 z7 st7 hQ7
  subst l7 y7 z7
  obtain ⟨rfl, N7q, e7⟩ := hQ7
  obtain ⟨_, X7, N7⟩ := own_hide X7 (Fr.app N3 N7q)
  refine own_tr st7 ?_
  show own_Go _ _ _ _ T7 (mkF m 46 #[.val (.ref r0), .val (.int (((31 : Int32) * (1 : Int32)) + z3)), .val (.ref r0), .val (.int (2 : Int32)), .val (.int (1 : Int32)), .val (.ref ii)] [(.int iv), (.int ((31 : Int32) * (((31 : Int32) * (1 : Int32)) + z3)))])
  refine own_st (fun t k => XS.iadd X7.here hx rfl (hb hby d9_46) rfl k) ?_
  show own_Go _ _ _ _ T7 (mkF m 47 #[.val (.ref r0), .val (.int (((31 : Int32) * (1 : Int32)) + z3)), .val (.ref r0), .val (.int (2 : Int32)), .val (.int (1 : Int32)), .val (.ref ii)] [(.int (((31 : Int32) * (((31 : Int32) * (1 : Int32)) + z3)) + iv))])
  refine own_st (fun t k => XS.istoreN X7.here hx rfl (hb hby d9_47) rfl (l' := #[.val (.ref r0), .val (.int (((31 : Int32) * (((31 : Int32) * (1 : Int32)) + z3)) + iv)), .val (.ref r0), .val (.int (2 : Int32)), .val (.int (1 : Int32)), .val (.ref ii)]) rfl k) ?_
  show own_Go _ _ _ _ T7 (mkF m 48 #[.val (.ref r0), .val (.int (((31 : Int32) * (((31 : Int32) * (1 : Int32)) + z3)) + iv)), .val (.ref r0), .val (.int (2 : Int32)), .val (.int (1 : Int32)), .val (.ref ii)] [])
  refine own_st (fun t k => XS.iinc X7.here hx rfl (hb hby d9_48) rfl (l' := #[.val (.ref r0), .val (.int (((31 : Int32) * (((31 : Int32) * (1 : Int32)) + z3)) + iv)), .val (.ref r0), .val (.int (2 : Int32)), .val (.int (2 : Int32)), .val (.ref ii)]) rfl k) ?_
  show own_Go _ _ _ _ T7 (mkF m 51 #[.val (.ref r0), .val (.int (((31 : Int32) * (((31 : Int32) * (1 : Int32)) + z3)) + iv)), .val (.ref r0), .val (.int (2 : Int32)), .val (.int (2 : Int32)), .val (.ref ii)] [])
  refine own_st (fun t k => XS.goto X7.here hx rfl (pc0 := 51) (pc' := 16) rfl (hb hby d9_51) (by decide) (by decide) k) ?_
  show own_Go _ _ _ _ T7 (mkF m 16 #[.val (.ref r0), .val (.int (((31 : Int32) * (((31 : Int32) * (1 : Int32)) + z3)) + iv)), .val (.ref r0), .val (.int (2 : Int32)), .val (.int (2 : Int32)), .val (.ref ii)] [])
  refine own_st (fun t k => XS.iload X7.here hx rfl (hb hby d9_16) rfl k) ?_
  show own_Go _ _ _ _ T7 (mkF m 18 #[.val (.ref r0), .val (.int (((31 : Int32) * (((31 : Int32) * (1 : Int32)) + z3)) + iv)), .val (.ref r0), .val (.int (2 : Int32)), .val (.int (2 : Int32)), .val (.ref ii)] [(.int (2 : Int32))])
  refine own_st (fun t k => XS.iloadN X7.here hx rfl (hb hby d9_18) rfl k) ?_
  show own_Go _ _ _ _ T7 (mkF m 19 #[.val (.ref r0), .val (.int (((31 : Int32) * (((31 : Int32) * (1 : Int32)) + z3)) + iv)), .val (.ref r0), .val (.int (2 : Int32)), .val (.int (2 : Int32)), .val (.ref ii)] [(.int (2 : Int32)), (.int (2 : Int32))])
  refine own_st (fun t k => XS.icmpYes X7.here hx rfl (pc0 := 19) (pc' := 54) rfl (hb hby d9_19) rfl (flt (by decide : ¬ ((2 : Int32) < (2 : Int32)))).2.1 (by decide) (by decide) k) ?_
  show own_Go _ _ _ _ T7 (mkF m 54 #[.val (.ref r0), .val (.int (((31 : Int32) * (((31 : Int32) * (1 : Int32)) + z3)) + iv)), .val (.ref r0), .val (.int (2 : Int32)), .val (.int (2 : Int32)), .val (.ref ii)] [])
  refine own_st (fun t k => XS.iloadN X7.here hx rfl (hb hby d9_54) rfl k) ?_
  show own_Go _ _ _ _ T7 (mkF m 55 #[.val (.ref r0), .val (.int (((31 : Int32) * (((31 : Int32) * (1 : Int32)) + z3)) + iv)), .val (.ref r0), .val (.int (2 : Int32)), .val (.int (2 : Int32)), .val (.ref ii)] [(.int (((31 : Int32) * (((31 : Int32) * (1 : Int32)) + z3)) + iv))])
  exact own_retI X7 hx hlk hrt (hb hby d9_55) (by rw [e7]; exact ⟨_, rfl, N7, K0_8, G3a, G3b⟩) (by decide) (by decide)
theorem pd__28_5bLjava_2flang_2fObject_3b_29I : parseMethodDescriptor "([Ljava/lang/Object;)I" = some ⟨[(.array (.object "java/lang/Object"))], some .int⟩ := by decide +kernel
/-! body 8: Objects.hash -/
theorem d8_0 : decode jdk_31_method_5_code 0 = .ok (.aload_n 0, 1) := by decide +kernel
theorem d8_1 : decode jdk_31_method_5_code 1 = .ok (.invokestatic 28, 3) := by decide +kernel
theorem d8_4 : decode jdk_31_method_5_code 4 = .ok (.ireturn, 1) := by decide +kernel
theorem pn_java_util_Objects : plainName "java/util/Objects" = true := by first | (simp [plainName, overriddenIn]; done) | decide +kernel
theorem ef_8 (m : MethodId) (x0 : Addr) : entryFrame m #[(.ref x0)] 1 = mkF m 0 #[.val (.ref x0)] [] := by first | (simp [entryFrame, mkF, argsToLocals, Value.category]; done) | rfl
def Q8 (Z : State) (r0 : Addr) (sa : Addr) (ii : Addr) (iv : Int32) (bb : Addr) (ka : ClassId) (nn : Int32) (kr : ClassId) (u0 : Int32) (u1 : Int32) (cs : Int32) (ca : Addr) (cc : Cell) (h0 : Heap) (n0 : Nat) (v : Option Value) (h : Heap) (L : List Loc) : Prop := ∃ z : Int32, v = some (.int z) ∧ Fr n0 L ∧ Keep h0 h [sa] ∧ Fld Z h sa "java/lang/String" "value" "[B" (.ref bb) ∧ Fld Z h sa "java/lang/String" "coder" "B" (.int (0 : Int32))
set_option maxRecDepth 65536 in
set_option maxHeartbeats 40000000 in
theorem rm8 (l : Launch) (Z : State) (a0 : Array Value) (hw : ∀ d ∈ tables_1, d.before a0 Z = true) (ws : List Jvm.Cond) (r0 : Addr) (sa : Addr) (ii : Addr) (iv : Int32) (bb : Addr) (ka : ClassId) (nn : Int32) (kr : ClassId) (u0 : Int32) (u1 : Int32) (cs : Int32) (ca : Addr) (cc : Cell) (h0 : Heap) (n0 : Nat) (Z0 : n0 ≤ h0.size) (Va : Arv Z h0 r0 ka (.object "java/lang/Object") (2 : Int32) [(.ref sa), (.ref ii)] .null) (E_sa : Exa Z h0 sa "java/lang/String") (g_sa : n0 ≤ sa) (F_hash_sa : Fld Z h0 sa "java/lang/String" "hash" "I" (.int (0 : Int32))) (F_hashIsZero_sa : Fld Z h0 sa "java/lang/String" "hashIsZero" "Z" (.int (0 : Int32))) (F_value_sa : Fld Z h0 sa "java/lang/String" "value" "[B" (.ref bb)) (F_coder_sa : Fld Z h0 sa "java/lang/String" "coder" "B" (.int (0 : Int32))) (E_ii : Exa Z h0 ii "java/lang/Integer") (F_ii : Fld Z h0 ii "java/lang/Integer" "value" "I" (.int iv)) (nas : r0 ≠ sa) (nis : ii ≠ sa) (Vb : Arv Z h0 bb kr .byte nn [(.int u0), (.int u1)] (.int (0 : Int32))) (hn : own_012 nn) (Er : nn = (2 : Int32) → Exa Z h0 bb "[B") (nbs : bb ≠ sa) (G : own_G Z cs ca cc) (O0 : Old Z n0 h0) :
    MetFree l (⟨"java/util/Objects", "hash", "([Ljava/lang/Object;)I"⟩ : MethodName) (head1 (Jvm.Cond.code (⟨"java/util/Objects", "hash", "([Ljava/lang/Object;)I"⟩ : MethodName) jdk_31_method_5_code 1 (some .int) :: ws) ({ frames := 5, cells := 0, slots := 0, locals := 76 } : Room)) (fun a U => a = #[(.ref r0)] ∧ Z.Warmed39 U.vm ∧ U.heap = h0) (fun _ _ _ _ _ => True) (fun _ U o U' => ∃ v L, o = .returned v ∧ Q8 Z r0 sa ii iv bb ka nn kr u0 u1 cs ca cc h0 n0 v U'.heap L ∧ FrameEnd U o U' L ({ frames := 5, cells := 0, slots := 0, locals := 76 } : Room).cells ({ frames := 5, cells := 0, slots := 0, locals := 76 } : Room).slots) := by
  refine MetFree.of_bodySF (plainFor_of_name pn_java_util_Objects) hisR ?_
  intro p e s m args below meth c s₁ Bd hml0 hP hK
  obtain ⟨rfl, hZ, hh⟩ := hP
  have hx := Bd.exec
  have hby := Bd.bytes
  have hlk := Bd.notSynchronized
  have hrt := Bd.returns
  have hml : c.maxLocals = 1 := hml0
  have hown : s.vm.findClass "java/util/Objects" = some m.cls := findClass_of_methodNamed Bd.named
  have hnm := (name_of_methodNamed Bd.named Bd.method).1
  have X0 : Stand p l e ({ frames := 5, cells := 0, slots := 0, locals := 76 } : Room) s m #[(.ref r0)] below meth c s₁ [] 0 0 := Stand.of_body Bd
  have e0 : s₁.heap = h0 := by rw [← hh, Bd.state]; rfl
  have N0 := Fr.nil n0
  have K0 := Keep.refl h0 [sa]
  refine own_out (Q := Q8 Z r0 sa ii iv bb ka nn kr u0 u1 cs ca cc h0 n0) ?_
  refine own_in (ef_8 m r0) ?_
  show own_Go _ _ _ _ s₁ (mkF m 0 #[.val (.ref r0)] [])
  refine own_st (fun t k => XS.aloadN X0.here hx rfl (hb hby d8_0) rfl rfl k) ?_
  show own_Go _ _ _ _ s₁ (mkF m 1 #[.val (.ref r0)] [(.ref r0)])
  obtain ⟨_, _, ⟨T1, L1, k1, n1⟩, -, X1, ⟨Lc1, hQ1, l1, y1, z1⟩, st1⟩ := Jvm.LawKit.callS X0 hx (y := (⟨"java/util/Arrays", "hashCode", "([Ljava/lang/Object;)I"⟩ : MethodName)) hown (mvT hZ (hw _ (List.mem_of_getElem? (i := 58) rfl))) (mvT hZ (hw _ (List.mem_of_getElem? (i := 59) rfl))) (mvT hZ (hw _ (List.mem_of_getElem? (i := 60) rfl))) (mvT hZ (hw _ (List.mem_of_getElem? (i := 61) rfl))) (by decide) (backOf (W := 0) (rm9 l Z a0 hw [] r0 sa ii iv bb ka nn kr u0 u1 cs ca cc  h0 n0 Z0 Va E_sa g_sa F_hash_sa F_hashIsZero_sa F_value_sa F_coder_sa E_ii F_ii nas nis Vb hn Er nbs G O0) hZ (hw _ (List.mem_of_getElem? (i := 61) rfl)) (hw _ (List.mem_of_getElem? (i := 60) rfl)) (by decide) (by decide)) (g := (mkF m 1 #[.val (.ref r0)] [(.ref r0)])) rfl (by rw [hml]; rfl) (argsL := [(.ref r0)]) (rest := []) (lenOf pd__28_5bLjava_2flang_2fObject_3b_29I rfl) rfl (by show 2 * 0 + _ ≤ _; exact Nat.le_of_eq rfl) (hb hby d8_1) (fun _ _ => ⟨rfl, e0, (by decide : 0 + 0 ≤ _), (by decide : 0 + 0 ≤ _)⟩)
  dsimp only [Pt.U, Pt.locs, Pt.cells, Pt.slots] at X1 l1 y1 z1 st1 hQ1
  subst l1 y1 z1
  obtain ⟨z1, rfl, N1q, K1, G1a, G1b⟩ := hQ1
  obtain ⟨_, X1, N1⟩ := own_hide X1 (Fr.app N0 N1q)
  refine own_st st1 ?_
  show own_Go _ _ _ _ T1 (mkF m 4 #[.val (.ref r0)] [(.int z1)])
  have K0_2 := (K0.trans K1 (allS ((Or.inl (List.mem_of_getElem? (i := 0) rfl))) all0))
  exact own_retI X1 hx hlk hrt (hb hby d8_4) ⟨_, rfl, N1, K0_2, G1a, G1b⟩ (by decide) (by decide)
/-! body 6: Objects.requireNonNull -/
theorem d6_0 : decode jdk_31_method_11_code 0 = .ok (.aload_n 0, 1) := by decide +kernel
theorem d6_1 : decode jdk_31_method_11_code 1 = .ok (.ifnonnull 12, 3) := by decide +kernel
theorem d6_13 : decode jdk_31_method_11_code 13 = .ok (.aload_n 0, 1) := by decide +kernel
theorem d6_14 : decode jdk_31_method_11_code 14 = .ok (.areturn, 1) := by decide +kernel
theorem ef_6 (m : MethodId) (x0 : Addr) (x1 : Addr) : entryFrame m #[(.ref x0), (.ref x1)] 2 = mkF m 0 #[.val (.ref x0), .val (.ref x1)] [] := by first | (simp [entryFrame, mkF, argsToLocals, Value.category]; done) | rfl
def Q6 (Z : State) (r0 : Addr) (r1 : Addr) (h0 : Heap) (n0 : Nat) (v : Option Value) (h : Heap) (L : List Loc) : Prop := v = some (.ref r0) ∧ Fr n0 L ∧ h = h0
set_option maxRecDepth 65536 in
set_option maxHeartbeats 40000000 in
theorem rm6 (l : Launch) (Z : State) (a0 : Array Value) (hw : ∀ d ∈ tables_1, d.before a0 Z = true) (ws : List Jvm.Cond) (r0 : Addr) (r1 : Addr) (h0 : Heap) (n0 : Nat) (Z0 : n0 ≤ h0.size) :
    MetFree l (⟨"java/util/Objects", "requireNonNull", "(Ljava/lang/Object;Ljava/lang/String;)Ljava/lang/Object;"⟩ : MethodName) (head1 (Jvm.Cond.code (⟨"java/util/Objects", "requireNonNull", "(Ljava/lang/Object;Ljava/lang/String;)Ljava/lang/Object;"⟩ : MethodName) jdk_31_method_11_code 2 (some (.object "java/lang/Object")) :: ws) ({ frames := 0, cells := 0, slots := 0, locals := 0 } : Room)) (fun a U => a = #[(.ref r0), (.ref r1)] ∧ Z.Warmed39 U.vm ∧ U.heap = h0) (fun _ _ _ _ _ => True) (fun _ U o U' => ∃ v L, o = .returned v ∧ Q6 Z r0 r1 h0 n0 v U'.heap L ∧ FrameEnd U o U' L ({ frames := 0, cells := 0, slots := 0, locals := 0 } : Room).cells ({ frames := 0, cells := 0, slots := 0, locals := 0 } : Room).slots) := by
  refine MetFree.of_bodySF (plainFor_of_name pn_java_util_Objects) hisR ?_
  intro p e s m args below meth c s₁ Bd hml0 hP hK
  obtain ⟨rfl, hZ, hh⟩ := hP
  have hx := Bd.exec
  have hby := Bd.bytes
  have hlk := Bd.notSynchronized
  have hrt := Bd.returns
  have hml : c.maxLocals = 2 := hml0
  have hown : s.vm.findClass "java/util/Objects" = some m.cls := findClass_of_methodNamed Bd.named
  have hnm := (name_of_methodNamed Bd.named Bd.method).1
  have X0 : Stand p l e ({ frames := 0, cells := 0, slots := 0, locals := 0 } : Room) s m #[(.ref r0), (.ref r1)] below meth c s₁ [] 0 0 := Stand.of_body Bd
  have e0 : s₁.heap = h0 := by rw [← hh, Bd.state]; rfl
  have N0 := Fr.nil n0
  have K0 := Keep.refl h0 []
  refine own_out (Q := Q6 Z r0 r1 h0 n0) ?_
  refine own_in (ef_6 m r0 r1) ?_
  show own_Go _ _ _ _ s₁ (mkF m 0 #[.val (.ref r0), .val (.ref r1)] [])
  refine own_st (fun t k => XS.aloadN X0.here hx rfl (hb hby d6_0) rfl rfl k) ?_
  show own_Go _ _ _ _ s₁ (mkF m 1 #[.val (.ref r0), .val (.ref r1)] [(.ref r0)])
  refine own_st (fun t k => XS.ifnonnullYes X0.here hx rfl (pc0 := 1) (pc' := 13) rfl (hb hby d6_1) rfl (by decide) (by decide) k) ?_
  show own_Go _ _ _ _ s₁ (mkF m 13 #[.val (.ref r0), .val (.ref r1)] [])
  refine own_st (fun t k => XS.aloadN X0.here hx rfl (hb hby d6_13) rfl rfl k) ?_
  show own_Go _ _ _ _ s₁ (mkF m 14 #[.val (.ref r0), .val (.ref r1)] [(.ref r0)])
  exact own_retR X0 hx hlk hrt rfl rfl rfl (hb hby d6_14) ⟨rfl, N0, e0⟩ (by decide) (by decide)
theorem own_sA {a0 : Array Value} {Z : State} (hw : ∀ d ∈ tables_1, d.before a0 Z = true) : ∀ a ∈ Bundle.stringAtoms, a.before a0 Z = true := by
  intro a ha
  simp only [Bundle.stringAtoms, List.mem_cons, List.not_mem_nil, or_false] at ha
  rcases ha with rfl | rfl | rfl | rfl | rfl | rfl | rfl
  · exact (hw _ (List.mem_of_getElem? (i := 2) rfl))
  · exact (hw _ (List.mem_of_getElem? (i := 1) rfl))
  · exact (hw _ (List.mem_of_getElem? (i := 19) rfl))
  · exact (hw _ (List.mem_of_getElem? (i := 20) rfl))
  · exact (hw _ (List.mem_of_getElem? (i := 21) rfl))
  · exact (hw _ (List.mem_of_getElem? (i := 22) rfl))
  · exact (hw _ (List.mem_of_getElem? (i := 23) rfl))
theorem pd_176935 : parseMethodDescriptor "(Ljava/lang/Object;Ljava/lang/String;)Ljava/lang/Object;" = some ⟨[(.object "java/lang/Object"), (.object "java/lang/String")], some (.object "java/lang/Object")⟩ := by decide +kernel
theorem pd__28I_29Ljava_2flang_2fInteger_3b : parseMethodDescriptor "(I)Ljava/lang/Integer;" = some ⟨[.int], some (.object "java/lang/Integer")⟩ := by decide +kernel
/-! body 5: Relation.<init> -/
theorem d5_0 : decode prog_20_method_1_code 0 = .ok (.aload_n 0, 1) := by decide +kernel
theorem d5_1 : decode prog_20_method_1_code 1 = .ok (.invokespecial 1, 3) := by decide +kernel
theorem d5_4 : decode prog_20_method_1_code 4 = .ok (.iload_n 2, 1) := by decide +kernel
theorem d5_5 : decode prog_20_method_1_code 5 = .ok (.ifCond .ge 18, 3) := by decide +kernel
theorem d5_23 : decode prog_20_method_1_code 23 = .ok (.aload_n 0, 1) := by decide +kernel
theorem d5_24 : decode prog_20_method_1_code 24 = .ok (.aload_n 1, 1) := by decide +kernel
theorem d5_25 : decode prog_20_method_1_code 25 = .ok (.ldc 16, 2) := by decide +kernel
theorem d5_27 : decode prog_20_method_1_code 27 = .ok (.invokestatic 18, 3) := by decide +kernel
theorem d5_30 : decode prog_20_method_1_code 30 = .ok (.checkcast 24, 3) := by decide +kernel
theorem d5_33 : decode prog_20_method_1_code 33 = .ok (.putfield 26, 3) := by decide +kernel
theorem d5_36 : decode prog_20_method_1_code 36 = .ok (.aload_n 0, 1) := by decide +kernel
theorem d5_37 : decode prog_20_method_1_code 37 = .ok (.iload_n 2, 1) := by decide +kernel
theorem d5_38 : decode prog_20_method_1_code 38 = .ok (.putfield 31, 3) := by decide +kernel
theorem d5_41 : decode prog_20_method_1_code 41 = .ok (.aload_n 0, 1) := by decide +kernel
theorem d5_42 : decode prog_20_method_1_code 42 = .ok (.iconst 2, 1) := by decide +kernel
theorem d5_43 : decode prog_20_method_1_code 43 = .ok (.anewarray 2, 3) := by decide +kernel
theorem d5_46 : decode prog_20_method_1_code 46 = .ok (.dup, 1) := by decide +kernel
theorem d5_47 : decode prog_20_method_1_code 47 = .ok (.iconst 0, 1) := by decide +kernel
theorem d5_48 : decode prog_20_method_1_code 48 = .ok (.aload_n 1, 1) := by decide +kernel
theorem d5_49 : decode prog_20_method_1_code 49 = .ok (.aastore, 1) := by decide +kernel
theorem d5_50 : decode prog_20_method_1_code 50 = .ok (.dup, 1) := by decide +kernel
theorem d5_51 : decode prog_20_method_1_code 51 = .ok (.iconst 1, 1) := by decide +kernel
theorem d5_52 : decode prog_20_method_1_code 52 = .ok (.iload_n 2, 1) := by decide +kernel
theorem d5_53 : decode prog_20_method_1_code 53 = .ok (.invokestatic 35, 3) := by decide +kernel
theorem d5_56 : decode prog_20_method_1_code 56 = .ok (.aastore, 1) := by decide +kernel
theorem d5_57 : decode prog_20_method_1_code 57 = .ok (.invokestatic 41, 3) := by decide +kernel
theorem d5_60 : decode prog_20_method_1_code 60 = .ok (.putfield 45, 3) := by decide +kernel
theorem d5_63 : decode prog_20_method_1_code 63 = .ok (.return_, 1) := by decide +kernel
theorem pn_com_example_libhorn_libhorn_data_Relation : plainName "com/example/libhorn/libhorn/data/Relation" = true := by first | (simp [plainName, overriddenIn]; done) | decide +kernel
theorem ef_5 (m : MethodId) (x0 : Addr) (x1 : Addr) (x2 : Int32) : entryFrame m #[(.ref x0), (.ref x1), (.int x2)] 3 = mkF m 0 #[.val (.ref x0), .val (.ref x1), .val (.int x2)] [] := by first | (simp [entryFrame, mkF, argsToLocals, Value.category]; done) | rfl
def Q5 (Z : State) (r0 : Addr) (sa : Addr) (ar : Int32) (bb : Addr) (nn : Int32) (kr : ClassId) (u0 : Int32) (u1 : Int32) (cs : Int32) (ca : Addr) (cc : Cell) (h0 : Heap) (n0 : Nat) (v : Option Value) (h : Heap) (L : List Loc) : Prop := v = none ∧ Fr n0 L ∧ Keep h0 h [r0, sa] ∧ Fld Z h r0 "com/example/libhorn/libhorn/data/Relation" "name" "Ljava/lang/String;" (.ref sa) ∧ Fld Z h r0 "com/example/libhorn/libhorn/data/Relation" "arity" "I" (.int ar) ∧ Fld Z h sa "java/lang/String" "value" "[B" (.ref bb) ∧ Fld Z h sa "java/lang/String" "coder" "B" (.int (0 : Int32))
set_option maxRecDepth 65536 in
set_option maxHeartbeats 40000000 in
theorem rm5 (l : Launch) (Z : State) (a0 : Array Value) (hw : ∀ d ∈ tables_1, d.before a0 Z = true) (ws : List Jvm.Cond) (r0 : Addr) (sa : Addr) (ar : Int32) (bb : Addr) (nn : Int32) (kr : ClassId) (u0 : Int32) (u1 : Int32) (cs : Int32) (ca : Addr) (cc : Cell) (h0 : Heap) (n0 : Nat) (Z0 : n0 ≤ h0.size) (E_r0 : Exa Z h0 r0 "com/example/libhorn/libhorn/data/Relation") (F_name_r0 : Fld Z h0 r0 "com/example/libhorn/libhorn/data/Relation" "name" "Ljava/lang/String;" .null) (F_arity_r0 : Fld Z h0 r0 "com/example/libhorn/libhorn/data/Relation" "arity" "I" (.int (0 : Int32))) (F_hash_r0 : Fld Z h0 r0 "com/example/libhorn/libhorn/data/Relation" "hash" "I" (.int (0 : Int32))) (g_r0 : n0 ≤ r0) (E_sa : Exa Z h0 sa "java/lang/String") (F_hash_sa : Fld Z h0 sa "java/lang/String" "hash" "I" (.int (0 : Int32))) (F_hashIsZero_sa : Fld Z h0 sa "java/lang/String" "hashIsZero" "Z" (.int (0 : Int32))) (F_value_sa : Fld Z h0 sa "java/lang/String" "value" "[B" (.ref bb)) (F_coder_sa : Fld Z h0 sa "java/lang/String" "coder" "B" (.int (0 : Int32))) (g_sa : n0 ≤ sa) (Vb : Arv Z h0 bb kr .byte nn [(.int u0), (.int u1)] (.int (0 : Int32))) (hn : own_012 nn) (Er : nn = (2 : Int32) → Exa Z h0 bb "[B") (nbs : bb ≠ sa) (G : own_G Z cs ca cc) (O0 : Old Z n0 h0) (hr : ¬ ar < (0 : Int32)) (nrs : r0 ≠ sa) (nbr : bb ≠ r0) :
    MetFree l (⟨"com/example/libhorn/libhorn/data/Relation", "<init>", "(Ljava/lang/String;I)V"⟩ : MethodName) (head1 (Jvm.Cond.code (⟨"com/example/libhorn/libhorn/data/Relation", "<init>", "(Ljava/lang/String;I)V"⟩ : MethodName) prog_20_method_1_code 3 none :: ws) ({ frames := 6, cells := 4, slots := 23, locals := 89 } : Room)) (fun a U => a = #[(.ref r0), (.ref sa), (.int ar)] ∧ Z.Warmed39 U.vm ∧ U.heap = h0) (fun _ _ _ _ _ => True) (fun _ U o U' => ∃ v L, o = .returned v ∧ Q5 Z r0 sa ar bb nn kr u0 u1 cs ca cc h0 n0 v U'.heap L ∧ ReturnedEndW U o U' L ({ frames := 6, cells := 4, slots := 23, locals := 89 } : Room).cells ({ frames := 6, cells := 4, slots := 23, locals := 89 } : Room).slots) := by
  refine MetFree.of_bodySF (plainFor_of_name pn_com_example_libhorn_libhorn_data_Relation) hisR ?_
  intro p e s m args below meth c s₁ Bd hml0 hP hK
  obtain ⟨rfl, hZ, hh⟩ := hP
  have hx := Bd.exec
  have hby := Bd.bytes
  have hlk := Bd.notSynchronized
  have hrt := Bd.returns
  have hml : c.maxLocals = 3 := hml0
  have hown : s.vm.findClass "com/example/libhorn/libhorn/data/Relation" = some m.cls := findClass_of_methodNamed Bd.named
  have hnm := (name_of_methodNamed Bd.named Bd.method).1
  have X0 : Stand p l e ({ frames := 6, cells := 4, slots := 23, locals := 89 } : Room) (s.setVm s.vm) m #[(.ref r0), (.ref sa), (.int ar)] below meth c s₁ [] 0 0 := Stand.of_body Bd
  have e0 : s₁.heap = h0 := by rw [← hh, Bd.state]; rfl
  have N0 := Fr.nil n0
  have K0 := Keep.refl h0 [r0, sa]
  have hS0 : s.Since s.vm 0 := (State.WarmedH.refl s).since 0
  have hk0 : 0 ≤ h0.size := Nat.zero_le _
  refine own_outW (Q := Q5 Z r0 sa ar bb nn kr u0 u1 cs ca cc h0 n0) ?_
  refine own_in (ef_5 m r0 sa ar) ?_
  show own_Go _ _ _ _ s₁ (mkF m 0 #[.val (.ref r0), .val (.ref sa), .val (.int ar)] [])
  refine own_st (fun t k => XS.aloadN X0.here hx rfl (hb hby d5_0) rfl rfl k) ?_
  show own_Go _ _ _ _ s₁ (mkF m 1 #[.val (.ref r0), .val (.ref sa), .val (.int ar)] [(.ref r0)])
  obtain ⟨T1, X1, e1, st1⟩ := initO X0 hx hZ hown (hw _ (List.mem_of_getElem? (i := 33) rfl)) (hw _ (List.mem_of_getElem? (i := 16) rfl)) (hw _ (List.mem_of_getElem? (i := 17) rfl)) e0 (g := (mkF m 1 #[.val (.ref r0), .val (.ref sa), .val (.int ar)] [(.ref r0)])) rfl (by rw [hml]; rfl) rfl (hb hby d5_1) (by decide) (W := 0) (by show 2 * 0 + _ ≤ _; exact Nat.le_of_eq rfl) (by decide)
  refine own_st st1 ?_
  show own_Go _ _ _ _ T1 (mkF m 4 #[.val (.ref r0), .val (.ref sa), .val (.int ar)] [])
  refine own_st (fun t k => XS.iloadN X1.here hx rfl (hb hby d5_4) rfl k) ?_
  show own_Go _ _ _ _ T1 (mkF m 5 #[.val (.ref r0), .val (.ref sa), .val (.int ar)] [(.int ar)])
  refine own_st (fun t k => XS.ifYes X1.here hx rfl (pc0 := 5) (pc' := 23) rfl (hb hby d5_5) rfl ((if0 _ _).trans (flt hr).2.1) (by decide) (by decide) k) ?_
  show own_Go _ _ _ _ T1 (mkF m 23 #[.val (.ref r0), .val (.ref sa), .val (.int ar)] [])
  refine own_st (fun t k => XS.aloadN X1.here hx rfl (hb hby d5_23) rfl rfl k) ?_
  show own_Go _ _ _ _ T1 (mkF m 24 #[.val (.ref r0), .val (.ref sa), .val (.int ar)] [(.ref r0)])
  refine own_st (fun t k => XS.aloadN X1.here hx rfl (hb hby d5_24) rfl rfl k) ?_
  show own_Go _ _ _ _ T1 (mkF m 25 #[.val (.ref r0), .val (.ref sa), .val (.int ar)] [(.ref sa), (.ref r0)])
  obtain ⟨b2, T2, h2, k2, X2, e2, E2, hS2, hk2, hZ2, hown2, st2⟩ := ldcS X1 hx hZ hown (hw _ (List.mem_of_getElem? (i := 34) rfl)) (own_sA hw) e1 hS0 hk0 (g := (mkF m 25 #[.val (.ref r0), .val (.ref sa), .val (.int ar)] [(.ref sa), (.ref r0)])) rfl (hb hby d5_25) (n := 16) (by decide) (by decide) (by decide) (by decide)
  refine own_st st2 ?_
  show own_Go _ _ _ _ T2 (mkF m 27 #[.val (.ref r0), .val (.ref sa), .val (.int ar)] [(.ref b2), (.ref sa), (.ref r0)])
  have K0_4 := (K0.ext E2)
  obtain ⟨_, _, ⟨T3, L3, k3, n3⟩, -, X3, ⟨Lc3, hQ3, l3, y3, z3⟩, st3⟩ := Jvm.LawKit.callS X2 hx (y := (⟨"java/util/Objects", "requireNonNull", "(Ljava/lang/Object;Ljava/lang/String;)Ljava/lang/Object;"⟩ : MethodName)) hown2 (mvT hZ2 (hw _ (List.mem_of_getElem? (i := 35) rfl))) (mvT hZ2 (hw _ (List.mem_of_getElem? (i := 36) rfl))) (mvT hZ2 (hw _ (List.mem_of_getElem? (i := 37) rfl))) (mvT hZ2 (hw _ (List.mem_of_getElem? (i := 38) rfl))) (by decide) (backOf (W := 1) (rm6 l Z a0 hw [] sa b2  h2 n0 (Nat.le_trans Z0 K0_4.1) ) hZ2 (hw _ (List.mem_of_getElem? (i := 38) rfl)) (hw _ (List.mem_of_getElem? (i := 37) rfl)) (by decide) (by decide)) (g := (mkF m 27 #[.val (.ref r0), .val (.ref sa), .val (.int ar)] [(.ref b2), (.ref sa), (.ref r0)])) rfl (by rw [hml]; rfl) (argsL := [(.ref sa), (.ref b2)]) (rest := [(.ref r0)]) (lenOf pd_176935 rfl) rfl (by show 2 * 0 + _ ≤ _; exact Nat.le_of_eq rfl) (hb hby d5_27) (fun _ _ => ⟨rfl, e2, (by decide : 2 + 0 ≤ _), (by decide : 20 + 0 ≤ _)⟩)
  dsimp only [Pt.U, Pt.locs, Pt.cells, Pt.slots] at X3 l3 y3 z3 st3 hQ3
  subst l3 y3 z3
  obtain ⟨rfl, N3q, e3⟩ := hQ3
  obtain ⟨_, X3, N3⟩ := own_hide X3 (Fr.app N0 N3q)
  refine own_st st3 ?_
  show own_Go _ _ _ _ T3 (mkF m 30 #[.val (.ref r0), .val (.ref sa), .val (.int ar)] [(.ref sa), (.ref r0)])
  have E_sa_5 := (E_sa.ext E2)
  obtain ⟨T6, X6, e6, st6⟩ := castY X3 hx hZ2 hown2 (hw _ (List.mem_of_getElem? (i := 39) rfl)) e3 (Ins.self E_sa_5) (g := (mkF m 30 #[.val (.ref r0), .val (.ref sa), .val (.int ar)] [(.ref sa), (.ref r0)])) rfl rfl (hb hby d5_30)
  refine own_st st6 ?_
  show own_Go _ _ _ _ T6 (mkF m 33 #[.val (.ref r0), .val (.ref sa), .val (.int ar)] [(.ref sa), (.ref r0)])
  have F_name_r0_7 := (F_name_r0.ext E2)
  have E_r0_8 := (E_r0.ext E2)
  obtain ⟨T9, h9, X9, e9, W9, st9⟩ := putF X6 hx hZ2 hown2 (host := "") (Or.inl (hw _ (List.mem_of_getElem? (i := 40) rfl))) Via.refl e6 F_name_r0_7 E_r0_8 (Or.inr ⟨(hw _ (List.mem_of_getElem? (i := 41) rfl)), rfl, hnm⟩) (hw _ (List.mem_of_getElem? (i := 28) rfl)) (ty := (.object "java/lang/String")) (by decide) rfl rfl (g := (mkF m 33 #[.val (.ref r0), .val (.ref sa), .val (.int ar)] [(.ref sa), (.ref r0)])) rfl rfl (hb hby d5_33)
  have F9 := F_name_r0_7.same W9
  obtain ⟨_, X9, N9⟩ := own_hide X9 (Fr.snoc X9 N3 g_r0)
  refine own_st st9 ?_
  show own_Go _ _ _ _ T9 (mkF m 36 #[.val (.ref r0), .val (.ref sa), .val (.int ar)] [])
  refine own_st (fun t k => XS.aloadN X9.here hx rfl (hb hby d5_36) rfl rfl k) ?_
  show own_Go _ _ _ _ T9 (mkF m 37 #[.val (.ref r0), .val (.ref sa), .val (.int ar)] [(.ref r0)])
  refine own_st (fun t k => XS.iloadN X9.here hx rfl (hb hby d5_37) rfl k) ?_
  show own_Go _ _ _ _ T9 (mkF m 38 #[.val (.ref r0), .val (.ref sa), .val (.int ar)] [(.int ar), (.ref r0)])
  have F_arity_r0_10 := ((F_arity_r0.ext E2).other W9 (Or.inr (slot_ne (Or.inr (hw _ (List.mem_of_getElem? (i := 43) rfl))) (Or.inr (hw _ (List.mem_of_getElem? (i := 41) rfl))) (by decide) (t := .int) (t' := (.object "java/lang/String")) (by decide) (by decide))))
  have E_r0_11 := (E_r0_8.wr W9)
  have K0_12 := (K0_4.wr W9 (Or.inl (List.mem_of_getElem? (i := 0) rfl)))
  obtain ⟨T13, h13, X13, e13, W13, st13⟩ := putF X9 hx hZ2 hown2 (host := "") (Or.inl (hw _ (List.mem_of_getElem? (i := 42) rfl))) Via.refl e9 F_arity_r0_10 E_r0_11 (Or.inr ⟨(hw _ (List.mem_of_getElem? (i := 43) rfl)), rfl, hnm⟩) (hw _ (List.mem_of_getElem? (i := 28) rfl)) (ty := .int) (by decide) rfl rfl (g := (mkF m 38 #[.val (.ref r0), .val (.ref sa), .val (.int ar)] [(.int ar), (.ref r0)])) rfl rfl (hb hby d5_38)
  have F13 := F_arity_r0_10.same W13
  obtain ⟨_, X13, N13⟩ := own_hide X13 (Fr.snoc X13 N9 g_r0)
  refine own_st st13 ?_
  show own_Go _ _ _ _ T13 (mkF m 41 #[.val (.ref r0), .val (.ref sa), .val (.int ar)] [])
  refine own_st (fun t k => XS.aloadN X13.here hx rfl (hb hby d5_41) rfl rfl k) ?_
  show own_Go _ _ _ _ T13 (mkF m 42 #[.val (.ref r0), .val (.ref sa), .val (.int ar)] [(.ref r0)])
  refine own_st (fun t k => XS.iconst X13.here hx rfl (hb hby d5_42) k) ?_
  show own_Go _ _ _ _ T13 (mkF m 43 #[.val (.ref r0), .val (.ref sa), .val (.int ar)] [(.int (2 : Int32)), (.ref r0)])
  have K0_14 := (K0_12.wr W13 (Or.inl (List.mem_of_getElem? (i := 0) rfl)))
  obtain ⟨T15, h15, k15, X15, e15, E15, A15, O15, st15⟩ := newR X13 hx hZ2 hown2 (hw _ (List.mem_of_getElem? (i := 44) rfl)) (hw _ (List.mem_of_getElem? (i := 45) rfl)) e13 (g := (mkF m 43 #[.val (.ref r0), .val (.ref sa), .val (.int ar)] [(.int (2 : Int32)), (.ref r0)])) rfl (hb hby d5_43) rfl (by decide) (cap := 2) (by decide) (by decide) (by decide) (by decide)
  obtain ⟨b15, g15⟩ : ∃ z, z = h13.size := ⟨_, rfl⟩
  rw [← g15] at A15 st15
  have sz_b15 : h0.size ≤ b15 := Nat.le_trans K0_14.1 (Nat.le_of_eq g15.symm)
  have g_b15 : n0 ≤ b15 := Nat.le_trans Z0 sz_b15
  have E_r0_16 := (E_r0_11.wr W13)
  have ne_r0_b15 : r0 ≠ b15 := Nat.ne_of_lt (Nat.lt_of_lt_of_le E_r0_16.lt (Nat.le_of_eq g15.symm))
  have E_sa_17 := ((E_sa_5.wr W9).wr W13)
  have ne_sa_b15 : sa ≠ b15 := Nat.ne_of_lt (Nat.lt_of_lt_of_le E_sa_17.lt (Nat.le_of_eq g15.symm))
  have Vb_18 := (((Vb.ext E2).other W9 nbr).other W13 nbr)
  have ne_bb_b15 : bb ≠ b15 := Nat.ne_of_lt (Nat.lt_of_lt_of_le Vb_18.lt (Nat.le_of_eq g15.symm))
  have V15 : Arv Z h15 b15 k15 (.object "java/lang/Object") (2 : Int32) [.null, .null] .null := (Arv.new A15 (by decide)).pad (pad_rep [] .null 2)
  refine own_st st15 ?_
  show own_Go _ _ _ _ T15 (mkF m 46 #[.val (.ref r0), .val (.ref sa), .val (.int ar)] [(.ref b15), (.ref r0)])
  refine own_st (fun t k => XS.dup X15.here hx rfl (hb hby d5_46) rfl rfl k) ?_
  show own_Go _ _ _ _ T15 (mkF m 47 #[.val (.ref r0), .val (.ref sa), .val (.int ar)] [(.ref b15), (.ref b15), (.ref r0)])
  refine own_st (fun t k => XS.iconst X15.here hx rfl (hb hby d5_47) k) ?_
  show own_Go _ _ _ _ T15 (mkF m 48 #[.val (.ref r0), .val (.ref sa), .val (.int ar)] [(.int (0 : Int32)), (.ref b15), (.ref b15), (.ref r0)])
  refine own_st (fun t k => XS.aloadN X15.here hx rfl (hb hby d5_48) rfl rfl k) ?_
  show own_Go _ _ _ _ T15 (mkF m 49 #[.val (.ref r0), .val (.ref sa), .val (.int ar)] [(.ref sa), (.int (0 : Int32)), (.ref b15), (.ref b15), (.ref r0)])
  have K0_19 := (K0_14.ext E15)
  have E_sa_20 := (E_sa_17.ext E15)
  obtain ⟨cl21, Ar21, qk21, Sz21, Nn21, Hs21, Gf21⟩ := id V15
  have hin21 : ¬ ((0 : Int32) < 0 ∨ cl21.slots.size ≤ ((0 : Int32)).toNatClampNeg) := inb_of Sz21 ⟨by decide, by decide⟩
  obtain ⟨T22, h22, X22, e22, W22, st22⟩ := stR X15 hx hZ2 e15 Ar21 (j := (0 : Int32)) hin21 rfl (Sto.ofV Ar21 qk21 O15 (Ins.of_exa E_sa_20 (hw _ (List.mem_of_getElem? (i := 46) rfl)))) (g := (mkF m 49 #[.val (.ref r0), .val (.ref sa), .val (.int ar)] [(.ref sa), (.int (0 : Int32)), (.ref b15), (.ref b15), (.ref r0)])) rfl rfl (hb hby d5_49)
  have V22 : Arv Z h22 b15 k15 (.object "java/lang/Object") (2 : Int32) [(.ref sa), .null] .null := Arv.set Ar21 qk21 Sz21 Nn21 Hs21 Gf21 rfl W22 0 rfl (Nat.le_of_ble_eq_true rfl)
  obtain ⟨_, X22, N22⟩ := own_hide X22 (Fr.snoc X22 N13 g_b15)
  refine own_st st22 ?_
  show own_Go _ _ _ _ T22 (mkF m 50 #[.val (.ref r0), .val (.ref sa), .val (.int ar)] [(.ref b15), (.ref r0)])
  refine own_st (fun t k => XS.dup X22.here hx rfl (hb hby d5_50) rfl rfl k) ?_
  show own_Go _ _ _ _ T22 (mkF m 51 #[.val (.ref r0), .val (.ref sa), .val (.int ar)] [(.ref b15), (.ref b15), (.ref r0)])
  refine own_st (fun t k => XS.iconst X22.here hx rfl (hb hby d5_51) k) ?_
  show own_Go _ _ _ _ T22 (mkF m 52 #[.val (.ref r0), .val (.ref sa), .val (.int ar)] [(.int (1 : Int32)), (.ref b15), (.ref b15), (.ref r0)])
  refine own_st (fun t k => XS.iloadN X22.here hx rfl (hb hby d5_52) rfl k) ?_
  show own_Go _ _ _ _ T22 (mkF m 53 #[.val (.ref r0), .val (.ref sa), .val (.int ar)] [(.int ar), (.int (1 : Int32)), (.ref b15), (.ref b15), (.ref r0)])
  have O0_23 := (((((O0.ext E2).wr W9 g_r0).wr W13 g_r0).ext E15).wr W22 g_b15)
  have K0_25 := (K0_19.wr W22 (Or.inr sz_b15))
  obtain ⟨_, _, ⟨T24, L24, k24, n24⟩, -, X24, ⟨Lc24, hQ24, l24, y24, z24⟩, st24⟩ := Jvm.LawKit.callS X22 hx (y := (⟨"java/lang/Integer", "valueOf", "(I)Ljava/lang/Integer;"⟩ : MethodName)) hown2 (mvT hZ2 (hw _ (List.mem_of_getElem? (i := 47) rfl))) (mvT hZ2 (hw _ (List.mem_of_getElem? (i := 48) rfl))) (mvT hZ2 (hw _ (List.mem_of_getElem? (i := 49) rfl))) (mvT hZ2 (hw _ (List.mem_of_getElem? (i := 50) rfl))) (by decide) (backOf (W := 4) (rm7 l Z a0 hw [] ar cs ca cc  h22 n0 (Nat.le_trans Z0 K0_25.1) G O0_23 hr) hZ2 (hw _ (List.mem_of_getElem? (i := 50) rfl)) (hw _ (List.mem_of_getElem? (i := 49) rfl)) (by decide) (by decide)) (g := (mkF m 53 #[.val (.ref r0), .val (.ref sa), .val (.int ar)] [(.int ar), (.int (1 : Int32)), (.ref b15), (.ref b15), (.ref r0)])) rfl (by rw [hml]; rfl) (argsL := [(.int ar)]) (rest := [(.int (1 : Int32)), (.ref b15), (.ref b15), (.ref r0)]) (lenOf pd__28I_29Ljava_2flang_2fInteger_3b rfl) rfl (by show 2 * 0 + _ ≤ _; exact Nat.le_of_eq rfl) (hb hby d5_53) (fun _ _ => ⟨rfl, e22, (by decide : 3 + 1 ≤ _), (by decide : 22 + 1 ≤ _)⟩)
  dsimp only [Pt.U, Pt.locs, Pt.cells, Pt.slots] at X24 l24 y24 z24 st24 hQ24
  subst l24 y24 z24
  obtain ⟨b24, z24, rfl, N24q, K24, E24, F24⟩ := hQ24
  have E_r0_26 := (((E_r0_16.ext E15).wr W22).keep K24)
  have ne_r0_b24 : r0 ≠ b24 := Exa.ne E_r0_26 E24 (by decide)
  have E_sa_27 := ((E_sa_20.wr W22).keep K24)
  have ne_sa_b24 : sa ≠ b24 := Exa.ne E_sa_27 E24 (by decide)
  have Vb_28 := (((Vb_18.ext E15).other W22 ne_bb_b15).keep K24 nin0)
  have ne_b24_bb : b24 ≠ bb := Exa.neArv E24 Vb_28 (hw _ (List.mem_of_getElem? (i := 117) rfl))
  have V22_29 := (V22.keep K24 nin0)
  have ne_b24_b15 : b24 ≠ b15 := Exa.neArv E24 V22_29 (hw _ (List.mem_of_getElem? (i := 117) rfl))
  obtain ⟨_, X24, N24⟩ := own_hide X24 (Fr.app N22 N24q)
  refine own_st st24 ?_
  show own_Go _ _ _ _ T24 (mkF m 56 #[.val (.ref r0), .val (.ref sa), .val (.int ar)] [(.ref b24), (.int (1 : Int32)), (.ref b15), (.ref b15), (.ref r0)])
  have K0_30 := (K0_25.trans K24 (all0))
  obtain ⟨cl31, Ar31, qk31, Sz31, Nn31, Hs31, Gf31⟩ := id V22_29
  have hin31 : ¬ ((1 : Int32) < 0 ∨ cl31.slots.size ≤ ((1 : Int32)).toNatClampNeg) := inb_of Sz31 ⟨by decide, by decide⟩
  obtain ⟨T32, h32, X32, e32, W32, st32⟩ := stR X24 hx hZ2 rfl Ar31 (j := (1 : Int32)) hin31 rfl (Sto.ofV Ar31 qk31 O15 (Ins.of_exa E24 (hw _ (List.mem_of_getElem? (i := 54) rfl)))) (g := (mkF m 56 #[.val (.ref r0), .val (.ref sa), .val (.int ar)] [(.ref b24), (.int (1 : Int32)), (.ref b15), (.ref b15), (.ref r0)])) rfl rfl (hb hby d5_56)
  have V32 : Arv Z h32 b15 k15 (.object "java/lang/Object") (2 : Int32) [(.ref sa), (.ref b24)] .null := Arv.set Ar31 qk31 Sz31 Nn31 Hs31 Gf31 rfl W32 1 rfl (Nat.le_of_ble_eq_true rfl)
  obtain ⟨_, X32, N32⟩ := own_hide X32 (Fr.snoc X32 N24 g_b15)
  refine own_st st32 ?_
  show own_Go _ _ _ _ T32 (mkF m 57 #[.val (.ref r0), .val (.ref sa), .val (.int ar)] [(.ref b15), (.ref r0)])
  have Vb_33 := (Vb_28.other W32 ne_bb_b15)
  have Er_34 := (fun (q : nn = (2 : Int32)) => ((fun (q : nn = (2 : Int32)) => ((fun (q : nn = (2 : Int32)) => ((fun (q : nn = (2 : Int32)) => ((fun (q : nn = (2 : Int32)) => ((fun (q : nn = (2 : Int32)) => ((fun (q : nn = (2 : Int32)) => (Er q).ext E2) q).wr W9) q).wr W13) q).ext E15) q).wr W22) q).keep K24) q).wr W32)
  have E_sa_35 := (E_sa_27.wr W32)
  have F_hash_sa_36 := (((((((F_hash_sa.ext E2).other W9 (Or.inl (Ne.symm nrs))).other W13 (Or.inl (Ne.symm nrs))).ext E15).other W22 (Or.inl ne_sa_b15)).keep K24 nin0).other W32 (Or.inl ne_sa_b15))
  have F_hashIsZero_sa_37 := (((((((F_hashIsZero_sa.ext E2).other W9 (Or.inl (Ne.symm nrs))).other W13 (Or.inl (Ne.symm nrs))).ext E15).other W22 (Or.inl ne_sa_b15)).keep K24 nin0).other W32 (Or.inl ne_sa_b15))
  have F_value_sa_38 := (((((((F_value_sa.ext E2).other W9 (Or.inl (Ne.symm nrs))).other W13 (Or.inl (Ne.symm nrs))).ext E15).other W22 (Or.inl ne_sa_b15)).keep K24 nin0).other W32 (Or.inl ne_sa_b15))
  have F_coder_sa_39 := (((((((F_coder_sa.ext E2).other W9 (Or.inl (Ne.symm nrs))).other W13 (Or.inl (Ne.symm nrs))).ext E15).other W22 (Or.inl ne_sa_b15)).keep K24 nin0).other W32 (Or.inl ne_sa_b15))
  have E24_40 := (E24.wr W32)
  have F24_value_41 := (F24.other W32 (Or.inl ne_b24_b15))
  have O0_42 := ((O0_23.keep K24 (all0)).wr W32 g_b15)
  have K0_44 := (K0_30.wr W32 (Or.inr sz_b15))
  obtain ⟨_, _, ⟨T43, L43, k43, n43⟩, -, X43, ⟨Lc43, hQ43, l43, y43, z43⟩, st43⟩ := Jvm.LawKit.callS X32 hx (y := (⟨"java/util/Objects", "hash", "([Ljava/lang/Object;)I"⟩ : MethodName)) hown2 (mvT hZ2 (hw _ (List.mem_of_getElem? (i := 55) rfl))) (mvT hZ2 (hw _ (List.mem_of_getElem? (i := 56) rfl))) (mvT hZ2 (hw _ (List.mem_of_getElem? (i := 37) rfl))) (mvT hZ2 (hw _ (List.mem_of_getElem? (i := 57) rfl))) (by decide) (backOf (W := 1) (rm8 l Z a0 hw [] b15 sa b24 z24 bb k15 nn kr u0 u1 cs ca cc  h32 n0 (Nat.le_trans Z0 K0_44.1) V32 E_sa_35 g_sa F_hash_sa_36 F_hashIsZero_sa_37 F_value_sa_38 F_coder_sa_39 E24_40 F24_value_41 (Ne.symm ne_sa_b15) (Ne.symm ne_sa_b24) Vb_33 hn Er_34 nbs G O0_42) hZ2 (hw _ (List.mem_of_getElem? (i := 57) rfl)) (hw _ (List.mem_of_getElem? (i := 37) rfl)) (by decide) (by decide)) (g := (mkF m 57 #[.val (.ref r0), .val (.ref sa), .val (.int ar)] [(.ref b15), (.ref r0)])) rfl (by rw [hml]; rfl) (argsL := [(.ref b15)]) (rest := [(.ref r0)]) (lenOf pd__28_5bLjava_2flang_2fObject_3b_29I rfl) rfl (by show 2 * 0 + _ ≤ _; exact Nat.le_of_eq rfl) (hb hby d5_57) (fun _ _ => ⟨rfl, e32, (by decide : 4 + 0 ≤ _), (by decide : 23 + 0 ≤ _)⟩)
  dsimp only [Pt.U, Pt.locs, Pt.cells, Pt.slots] at X43 l43 y43 z43 st43 hQ43
  subst l43 y43 z43
  obtain ⟨z43, rfl, N43q, K43, G43a, G43b⟩ := hQ43
  obtain ⟨_, X43, N43⟩ := own_hide X43 (Fr.app N32 N43q)
  refine own_st st43 ?_
  show own_Go _ _ _ _ T43 (mkF m 60 #[.val (.ref r0), .val (.ref sa), .val (.int ar)] [(.int z43), (.ref r0)])
  have F_hash_r0_45 := ((((((((F_hash_r0.ext E2).other W9 (Or.inr (slot_ne (Or.inr (hw _ (List.mem_of_getElem? (i := 91) rfl))) (Or.inr (hw _ (List.mem_of_getElem? (i := 41) rfl))) (by decide) (t := .int) (t' := (.object "java/lang/String")) (by decide) (by decide)))).other W13 (Or.inr (slot_ne (Or.inr (hw _ (List.mem_of_getElem? (i := 91) rfl))) (Or.inr (hw _ (List.mem_of_getElem? (i := 43) rfl))) (by decide) (t := .int) (t' := .int) (by decide) (by decide)))).ext E15).other W22 (Or.inl ne_r0_b15)).keep K24 nin0).other W32 (Or.inl ne_r0_b15)).keep K43 (ninS nrs nin0))
  have E_r0_46 := ((E_r0_26.wr W32).keep K43)
  have K0_47 := (K0_44.trans K43 (allS ((Or.inl (List.mem_of_getElem? (i := 1) rfl))) all0))
  obtain ⟨T48, h48, X48, e48, W48, st48⟩ := putF X43 hx hZ2 hown2 (host := "") (Or.inl (hw _ (List.mem_of_getElem? (i := 90) rfl))) Via.refl rfl F_hash_r0_45 E_r0_46 (Or.inr ⟨(hw _ (List.mem_of_getElem? (i := 91) rfl)), rfl, hnm⟩) (hw _ (List.mem_of_getElem? (i := 28) rfl)) (ty := .int) (by decide) rfl rfl (g := (mkF m 60 #[.val (.ref r0), .val (.ref sa), .val (.int ar)] [(.int z43), (.ref r0)])) rfl rfl (hb hby d5_60)
  have F48 := F_hash_r0_45.same W48
  obtain ⟨_, X48, N48⟩ := own_hide X48 (Fr.snoc X48 N43 g_r0)
  refine own_st st48 ?_
  show own_Go _ _ _ _ T48 (mkF m 63 #[.val (.ref r0), .val (.ref sa), .val (.int ar)] [])
  have K0_49 := (K0_47.wr W48 (Or.inl (List.mem_of_getElem? (i := 0) rfl)))
  have F9_name_50 := (((((((F9.other W13 (Or.inr (slot_ne (Or.inr (hw _ (List.mem_of_getElem? (i := 41) rfl))) (Or.inr (hw _ (List.mem_of_getElem? (i := 43) rfl))) (by decide) (t := (.object "java/lang/String")) (t' := .int) (by decide) (by decide)))).ext E15).other W22 (Or.inl ne_r0_b15)).keep K24 nin0).other W32 (Or.inl ne_r0_b15)).keep K43 (ninS nrs nin0)).other W48 (Or.inr (slot_ne (Or.inr (hw _ (List.mem_of_getElem? (i := 41) rfl))) (Or.inr (hw _ (List.mem_of_getElem? (i := 91) rfl))) (by decide) (t := (.object "java/lang/String")) (t' := .int) (by decide) (by decide))))
  have F13_arity_51 := ((((((F13.ext E15).other W22 (Or.inl ne_r0_b15)).keep K24 nin0).other W32 (Or.inl ne_r0_b15)).keep K43 (ninS nrs nin0)).other W48 (Or.inr (slot_ne (Or.inr (hw _ (List.mem_of_getElem? (i := 43) rfl))) (Or.inr (hw _ (List.mem_of_getElem? (i := 91) rfl))) (by decide) (t := .int) (t' := .int) (by decide) (by decide))))
  have G43a_52 := (G43a.other W48 (Or.inl (Ne.symm nrs)))
  have G43b_53 := (G43b.other W48 (Or.inl (Ne.symm nrs)))
  have hk2_54 := (Nat.le_trans (Nat.le_trans (Nat.le_trans (Nat.le_trans (Nat.le_trans (Nat.le_trans (Nat.le_trans (Nat.le_trans hk2 (Nat.le_of_eq W9.size.symm)) (Nat.le_of_eq W13.size.symm)) E15.1) (Nat.le_of_eq W22.size.symm)) K24.1) (Nat.le_of_eq W32.size.symm)) K43.1) (Nat.le_of_eq W48.size.symm))
  exact own_retVW X48 hS2 (by rw [e48]; exact hk2_54) hx hlk hrt (hb hby d5_63) (by rw [e48]; exact ⟨rfl, N48, K0_49, F9_name_50, F13_arity_51, G43a_52, G43b_53⟩) (by decide) (by decide)
theorem own_noRel {Z : State} {a0 : Array Value} (hw : ∀ d ∈ tables_1, d.before a0 Z = true) : ∃ c t, Z.vm.findClass "java/lang/String" = some c ∧ Z.vm.findClass "com/example/libhorn/libhorn/data/Relation" = some t ∧ Z.vm.assignable c t = false := by
  obtain ⟨t, kt, f1, f2, f3, f4, f5⟩ := Cond.instantiable_spec (hw _ (List.mem_of_getElem? (i := 28) rfl))
  have hO := (hw _ (List.mem_of_getElem? (i := 115) rfl))
  obtain ⟨o, ko, q1, q2, q3, -, -⟩ := Cond.noSuperclass_spec hO
  have ne0 := ids_ne q1 f1 (by decide)
  have r0 : NS Z "java/lang/Object" "com/example/libhorn/libhorn/data/Relation" := ⟨o, t, q1, f1, fun fuel => by
    cases fuel with
    | zero => rfl
    | succ f => simp [Vm.isSubclassAux, ne0, q2, q3]⟩
  obtain ⟨c, u, h0, g0, n3⟩ := NS.step (K := "com/example/libhorn/libhorn/data/Relation") (hw _ (List.mem_of_getElem? (i := 114) rfl)) r0 (by decide)
  cases g0.symm.trans f1
  obtain ⟨p, k, kp, h1, h2, h3, h4, h5, -, h7⟩ := Cond.superclass_spec h0 (hw _ (List.mem_of_getElem? (i := 114) rfl))
  have ne := ids_ne h0 f1 (by decide)
  refine ⟨c, t, h0, f1, ?_⟩
  show Z.vm.assignableAux (255 + 1) c t = false
  simp only [Bool.or_eq_false_iff] at f4
  simp [Vm.assignableAux, ne, h2, f2, h5, f3, f4.1, Vm.isSubclass, n3]

/-! body 22: StringLatin1.equals -/
theorem d22_0 : decode jdk_43_method_13_code 0 = .ok (.aload_n 0, 1) := by decide +kernel
theorem d22_1 : decode jdk_43_method_13_code 1 = .ok (.arraylength, 1) := by decide +kernel
theorem d22_2 : decode jdk_43_method_13_code 2 = .ok (.aload_n 1, 1) := by decide +kernel
theorem d22_3 : decode jdk_43_method_13_code 3 = .ok (.arraylength, 1) := by decide +kernel
theorem d22_4 : decode jdk_43_method_13_code 4 = .ok (.if_icmp .ne 30, 3) := by decide +kernel
theorem d22_7 : decode jdk_43_method_13_code 7 = .ok (.iconst 0, 1) := by decide +kernel
theorem d22_8 : decode jdk_43_method_13_code 8 = .ok (.istore_n 2, 1) := by decide +kernel
theorem d22_9 : decode jdk_43_method_13_code 9 = .ok (.iload_n 2, 1) := by decide +kernel
theorem d22_10 : decode jdk_43_method_13_code 10 = .ok (.aload_n 0, 1) := by decide +kernel
theorem d22_11 : decode jdk_43_method_13_code 11 = .ok (.arraylength, 1) := by decide +kernel
theorem d22_12 : decode jdk_43_method_13_code 12 = .ok (.if_icmp .ge 20, 3) := by decide +kernel
theorem d22_15 : decode jdk_43_method_13_code 15 = .ok (.aload_n 0, 1) := by decide +kernel
theorem d22_16 : decode jdk_43_method_13_code 16 = .ok (.iload_n 2, 1) := by decide +kernel
theorem d22_17 : decode jdk_43_method_13_code 17 = .ok (.baload, 1) := by decide +kernel
theorem d22_18 : decode jdk_43_method_13_code 18 = .ok (.aload_n 1, 1) := by decide +kernel
theorem d22_19 : decode jdk_43_method_13_code 19 = .ok (.iload_n 2, 1) := by decide +kernel
theorem d22_20 : decode jdk_43_method_13_code 20 = .ok (.baload, 1) := by decide +kernel
theorem d22_21 : decode jdk_43_method_13_code 21 = .ok (.if_icmp .eq 5, 3) := by decide +kernel
theorem d22_24 : decode jdk_43_method_13_code 24 = .ok (.iconst 0, 1) := by decide +kernel
theorem d22_25 : decode jdk_43_method_13_code 25 = .ok (.ireturn, 1) := by decide +kernel
theorem d22_26 : decode jdk_43_method_13_code 26 = .ok (.iinc 2 1, 3) := by decide +kernel
theorem d22_29 : decode jdk_43_method_13_code 29 = .ok (.goto (-20), 3) := by decide +kernel
theorem d22_32 : decode jdk_43_method_13_code 32 = .ok (.iconst 1, 1) := by decide +kernel
theorem d22_33 : decode jdk_43_method_13_code 33 = .ok (.ireturn, 1) := by decide +kernel
theorem d22_34 : decode jdk_43_method_13_code 34 = .ok (.iconst 0, 1) := by decide +kernel
theorem d22_35 : decode jdk_43_method_13_code 35 = .ok (.ireturn, 1) := by decide +kernel
theorem ef_22 (m : MethodId) (x0 : Addr) (x1 : Addr) : entryFrame m #[(.ref x0), (.ref x1)] 3 = mkF m 0 #[.val (.ref x0), .val (.ref x1), .unset] [] := by first | (simp [entryFrame, mkF, argsToLocals, Value.category]; done) | rfl
def own_le (na : Int32) (nb : Int32) (u0 : Int32) (u1 : Int32) (w0 : Int32) (w1 : Int32) : Int32 := (if na = nb then (if (0 : Int32) < na then (if u0 = w0 then (if (1 : Int32) < na then (if u1 = w1 then (1 : Int32) else (0 : Int32)) else (1 : Int32)) else (0 : Int32)) else (1 : Int32)) else (0 : Int32))
def Q22 (Z : State) (r0 : Addr) (r1 : Addr) (ka : ClassId) (kc : ClassId) (na : Int32) (nb : Int32) (u0 : Int32) (u1 : Int32) (w0 : Int32) (w1 : Int32) (h0 : Heap) (n0 : Nat) (v : Option Value) (h : Heap) (L : List Loc) : Prop := v = some (.int (own_le na nb u0 u1 w0 w1)) ∧ Fr n0 L ∧ h = h0
set_option maxRecDepth 65536 in
set_option maxHeartbeats 40000000 in
theorem rm22 (l : Launch) (Z : State) (a0 : Array Value) (hw : ∀ d ∈ tables_1, d.before a0 Z = true) (ws : List Jvm.Cond) (r0 : Addr) (r1 : Addr) (ka : ClassId) (kc : ClassId) (na : Int32) (nb : Int32) (u0 : Int32) (u1 : Int32) (w0 : Int32) (w1 : Int32) (h0 : Heap) (n0 : Nat) (Z0 : n0 ≤ h0.size) (Va : Arv Z h0 r0 ka .byte na [(.int u0), (.int u1)] (.int (0 : Int32))) (Vc : Arv Z h0 r1 kc .byte nb [(.int w0), (.int w1)] (.int (0 : Int32))) (ha : own_012 na) :
    MetFree l (⟨"java/lang/StringLatin1", "equals", "([B[B)Z"⟩ : MethodName) (head1 (Jvm.Cond.code (⟨"java/lang/StringLatin1", "equals", "([B[B)Z"⟩ : MethodName) jdk_43_method_13_code 3 (some .boolean) :: ws) ({ frames := 0, cells := 0, slots := 0, locals := 0 } : Room)) (fun a U => a = #[(.ref r0), (.ref r1)] ∧ Z.Warmed39 U.vm ∧ U.heap = h0) (fun _ _ _ _ _ => True) (fun _ U o U' => ∃ v L, o = .returned v ∧ Q22 Z r0 r1 ka kc na nb u0 u1 w0 w1 h0 n0 v U'.heap L ∧ FrameEnd U o U' L ({ frames := 0, cells := 0, slots := 0, locals := 0 } : Room).cells ({ frames := 0, cells := 0, slots := 0, locals := 0 } : Room).slots) := by
  refine MetFree.of_bodySF (plainFor_of_name pn_java_lang_StringLatin1) hisR ?_
  intro p e s m args below meth c s₁ Bd hml0 hP hK
  obtain ⟨rfl, hZ, hh⟩ := hP
  have hx := Bd.exec
  have hby := Bd.bytes
  have hlk := Bd.notSynchronized
  have hrt := Bd.returns
  have hml : c.maxLocals = 3 := hml0
  have hown : s.vm.findClass "java/lang/StringLatin1" = some m.cls := findClass_of_methodNamed Bd.named
  have hnm := (name_of_methodNamed Bd.named Bd.method).1
  have X0 : Stand p l e ({ frames := 0, cells := 0, slots := 0, locals := 0 } : Room) s m #[(.ref r0), (.ref r1)] below meth c s₁ [] 0 0 := Stand.of_body Bd
  have e0 : s₁.heap = h0 := by rw [← hh, Bd.state]; rfl
  have N0 := Fr.nil n0
  have K0 := Keep.refl h0 []
  refine own_out (Q := Q22 Z r0 r1 ka kc na nb u0 u1 w0 w1 h0 n0) ?_
  refine own_in (ef_22 m r0 r1) ?_
  show own_Go _ _ _ _ s₁ (mkF m 0 #[.val (.ref r0), .val (.ref r1), .unset] [])
  refine own_st (fun t k => XS.aloadN X0.here hx rfl (hb hby d22_0) rfl rfl k) ?_
  show own_Go _ _ _ _ s₁ (mkF m 1 #[.val (.ref r0), .val (.ref r1), .unset] [(.ref r0)])
  obtain ⟨cl1, Ar1, qk1, Sz1, Nn1, Hs1, Gf1⟩ := id Va
  refine own_st (X0.arraylength hx (by rw [e0]; exact Ar1.1) (State.isArrayOf_alike hZ.alike Ar1.2.1) (g := (mkF m 1 #[.val (.ref r0), .val (.ref r1), .unset] [(.ref r0)])) rfl rfl (hb hby d22_1)) ?_
  rw [len_of Sz1 Nn1]
  show own_Go _ _ _ _ s₁ (mkF m 2 #[.val (.ref r0), .val (.ref r1), .unset] [(.int na)])
  refine own_st (fun t k => XS.aloadN X0.here hx rfl (hb hby d22_2) rfl rfl k) ?_
  show own_Go _ _ _ _ s₁ (mkF m 3 #[.val (.ref r0), .val (.ref r1), .unset] [(.ref r1), (.int na)])
  obtain ⟨cl2, Ar2, qk2, Sz2, Nn2, Hs2, Gf2⟩ := id Vc
  refine own_st (X0.arraylength hx (by rw [e0]; exact Ar2.1) (State.isArrayOf_alike hZ.alike Ar2.2.1) (g := (mkF m 3 #[.val (.ref r0), .val (.ref r1), .unset] [(.ref r1), (.int na)])) rfl rfl (hb hby d22_3)) ?_
  rw [len_of Sz2 Nn2]
  show own_Go _ _ _ _ s₁ (mkF m 4 #[.val (.ref r0), .val (.ref r1), .unset] [(.int nb), (.int na)])
  by_cases c4_3 : na = nb
  ·
    refine own_st (fun t k => XS.icmpNo X0.here hx rfl (hb hby d22_4) rfl (teq c4_3).2 k) ?_
    show own_Go _ _ _ _ s₁ (mkF m 7 #[.val (.ref r0), .val (.ref r1), .unset] [])
    refine own_st (fun t k => XS.iconst X0.here hx rfl (hb hby d22_7) k) ?_
    show own_Go _ _ _ _ s₁ (mkF m 8 #[.val (.ref r0), .val (.ref r1), .unset] [(.int (0 : Int32))])
    refine own_st (fun t k => XS.istoreN X0.here hx rfl (hb hby d22_8) rfl (l' := #[.val (.ref r0), .val (.ref r1), .val (.int (0 : Int32))]) rfl k) ?_
    show own_Go _ _ _ _ s₁ (mkF m 9 #[.val (.ref r0), .val (.ref r1), .val (.int (0 : Int32))] [])
    refine own_st (fun t k => XS.iloadN X0.here hx rfl (hb hby d22_9) rfl k) ?_
    show own_Go _ _ _ _ s₁ (mkF m 10 #[.val (.ref r0), .val (.ref r1), .val (.int (0 : Int32))] [(.int (0 : Int32))])
    refine own_st (fun t k => XS.aloadN X0.here hx rfl (hb hby d22_10) rfl rfl k) ?_
    show own_Go _ _ _ _ s₁ (mkF m 11 #[.val (.ref r0), .val (.ref r1), .val (.int (0 : Int32))] [(.ref r0), (.int (0 : Int32))])
    obtain ⟨cl4, Ar4, qk4, Sz4, Nn4, Hs4, Gf4⟩ := id Va
    refine own_st (X0.arraylength hx (by rw [e0]; exact Ar4.1) (State.isArrayOf_alike hZ.alike Ar4.2.1) (g := (mkF m 11 #[.val (.ref r0), .val (.ref r1), .val (.int (0 : Int32))] [(.ref r0), (.int (0 : Int32))])) rfl rfl (hb hby d22_11)) ?_
    rw [len_of Sz4 Nn4]
    show own_Go _ _ _ _ s₁ (mkF m 12 #[.val (.ref r0), .val (.ref r1), .val (.int (0 : Int32))] [(.int na), (.int (0 : Int32))])
    by_cases c12_5 : (0 : Int32) < na
    ·
      refine own_st (fun t k => XS.icmpNo X0.here hx rfl (hb hby d22_12) rfl (tlt c12_5).2.1 k) ?_
      show own_Go _ _ _ _ s₁ (mkF m 15 #[.val (.ref r0), .val (.ref r1), .val (.int (0 : Int32))] [])
      refine own_st (fun t k => XS.aloadN X0.here hx rfl (hb hby d22_15) rfl rfl k) ?_
      show own_Go _ _ _ _ s₁ (mkF m 16 #[.val (.ref r0), .val (.ref r1), .val (.int (0 : Int32))] [(.ref r0)])
      refine own_st (fun t k => XS.iloadN X0.here hx rfl (hb hby d22_16) rfl k) ?_
      show own_Go _ _ _ _ s₁ (mkF m 17 #[.val (.ref r0), .val (.ref r1), .val (.int (0 : Int32))] [(.int (0 : Int32)), (.ref r0)])
      obtain ⟨cl6, Ar6, qk6, Sz6, Nn6, Hs6, Gf6⟩ := id Va
      have hin6 : ¬ ((0 : Int32) < 0 ∨ cl6.slots.size ≤ ((0 : Int32)).toNatClampNeg) := inb_of Sz6 ⟨by decide, c12_5⟩
      have hat6 : cl6.slots[((0 : Int32)).toNatClampNeg]? = some (.int u0) := Has.at Hs6 hin6 rfl
      refine own_st (X0.baloadBytes hx (j := (0 : Int32)) (v := (.int u0)) (by rw [e0]; exact Ar6.1) (State.isArrayOf_alike hZ.alike Ar6.2.1) Ar6.2.2 hin6 hat6 (g := (mkF m 17 #[.val (.ref r0), .val (.ref r1), .val (.int (0 : Int32))] [(.int (0 : Int32)), (.ref r0)])) rfl rfl (hb hby d22_17)) ?_
      show own_Go _ _ _ _ s₁ (mkF m 18 #[.val (.ref r0), .val (.ref r1), .val (.int (0 : Int32))] [(.int u0)])
      refine own_st (fun t k => XS.aloadN X0.here hx rfl (hb hby d22_18) rfl rfl k) ?_
      show own_Go _ _ _ _ s₁ (mkF m 19 #[.val (.ref r0), .val (.ref r1), .val (.int (0 : Int32))] [(.ref r1), (.int u0)])
      refine own_st (fun t k => XS.iloadN X0.here hx rfl (hb hby d22_19) rfl k) ?_
      show own_Go _ _ _ _ s₁ (mkF m 20 #[.val (.ref r0), .val (.ref r1), .val (.int (0 : Int32))] [(.int (0 : Int32)), (.ref r1), (.int u0)])
      obtain ⟨cl7, Ar7, qk7, Sz7, Nn7, Hs7, Gf7⟩ := id Vc
      have hin7 : ¬ ((0 : Int32) < 0 ∨ cl7.slots.size ≤ ((0 : Int32)).toNatClampNeg) := inb_of Sz7 ⟨by decide, (by rw [← c4_3]; exact c12_5)⟩
      have hat7 : cl7.slots[((0 : Int32)).toNatClampNeg]? = some (.int w0) := Has.at Hs7 hin7 rfl
      refine own_st (X0.baloadBytes hx (j := (0 : Int32)) (v := (.int w0)) (by rw [e0]; exact Ar7.1) (State.isArrayOf_alike hZ.alike Ar7.2.1) Ar7.2.2 hin7 hat7 (g := (mkF m 20 #[.val (.ref r0), .val (.ref r1), .val (.int (0 : Int32))] [(.int (0 : Int32)), (.ref r1), (.int u0)])) rfl rfl (hb hby d22_20)) ?_
      show own_Go _ _ _ _ s₁ (mkF m 21 #[.val (.ref r0), .val (.ref r1), .val (.int (0 : Int32))] [(.int w0), (.int u0)])
      by_cases c21_8 : u0 = w0
      ·
        refine own_st (fun t k => XS.icmpYes X0.here hx rfl (pc0 := 21) (pc' := 26) rfl (hb hby d22_21) rfl (teq c21_8).1 (by decide) (by decide) k) ?_
        show own_Go _ _ _ _ s₁ (mkF m 26 #[.val (.ref r0), .val (.ref r1), .val (.int (0 : Int32))] [])
        refine own_st (fun t k => XS.iinc X0.here hx rfl (hb hby d22_26) rfl (l' := #[.val (.ref r0), .val (.ref r1), .val (.int (1 : Int32))]) rfl k) ?_
        show own_Go _ _ _ _ s₁ (mkF m 29 #[.val (.ref r0), .val (.ref r1), .val (.int (1 : Int32))] [])
        refine own_st (fun t k => XS.goto X0.here hx rfl (pc0 := 29) (pc' := 9) rfl (hb hby d22_29) (by decide) (by decide) k) ?_
        show own_Go _ _ _ _ s₁ (mkF m 9 #[.val (.ref r0), .val (.ref r1), .val (.int (1 : Int32))] [])
        refine own_st (fun t k => XS.iloadN X0.here hx rfl (hb hby d22_9) rfl k) ?_
        show own_Go _ _ _ _ s₁ (mkF m 10 #[.val (.ref r0), .val (.ref r1), .val (.int (1 : Int32))] [(.int (1 : Int32))])
        refine own_st (fun t k => XS.aloadN X0.here hx rfl (hb hby d22_10) rfl rfl k) ?_
        show own_Go _ _ _ _ s₁ (mkF m 11 #[.val (.ref r0), .val (.ref r1), .val (.int (1 : Int32))] [(.ref r0), (.int (1 : Int32))])
        obtain ⟨cl9, Ar9, qk9, Sz9, Nn9, Hs9, Gf9⟩ := id Va
        refine own_st (X0.arraylength hx (by rw [e0]; exact Ar9.1) (State.isArrayOf_alike hZ.alike Ar9.2.1) (g := (mkF m 11 #[.val (.ref r0), .val (.ref r1), .val (.int (1 : Int32))] [(.ref r0), (.int (1 : Int32))])) rfl rfl (hb hby d22_11)) ?_
        rw [len_of Sz9 Nn9]
        show own_Go _ _ _ _ s₁ (mkF m 12 #[.val (.ref r0), .val (.ref r1), .val (.int (1 : Int32))] [(.int na), (.int (1 : Int32))])
        by_cases c12_10 : (1 : Int32) < na
        ·
          refine own_st (fun t k => XS.icmpNo X0.here hx rfl (hb hby d22_12) rfl (tlt c12_10).2.1 k) ?_
          show own_Go _ _ _ _ s₁ (mkF m 15 #[.val (.ref r0), .val (.ref r1), .val (.int (1 : Int32))] [])
          refine own_st (fun t k => XS.aloadN X0.here hx rfl (hb hby d22_15) rfl rfl k) ?_
          show own_Go _ _ _ _ s₁ (mkF m 16 #[.val (.ref r0), .val (.ref r1), .val (.int (1 : Int32))] [(.ref r0)])
          refine own_st (fun t k => XS.iloadN X0.here hx rfl (hb hby d22_16) rfl k) ?_
          show own_Go _ _ _ _ s₁ (mkF m 17 #[.val (.ref r0), .val (.ref r1), .val (.int (1 : Int32))] [(.int (1 : Int32)), (.ref r0)])
          obtain ⟨cl11, Ar11, qk11, Sz11, Nn11, Hs11, Gf11⟩ := id Va
          have hin11 : ¬ ((1 : Int32) < 0 ∨ cl11.slots.size ≤ ((1 : Int32)).toNatClampNeg) := inb_of Sz11 ⟨by decide, c12_10⟩
          have hat11 : cl11.slots[((1 : Int32)).toNatClampNeg]? = some (.int u1) := Has.at Hs11 hin11 rfl
          refine own_st (X0.baloadBytes hx (j := (1 : Int32)) (v := (.int u1)) (by rw [e0]; exact Ar11.1) (State.isArrayOf_alike hZ.alike Ar11.2.1) Ar11.2.2 hin11 hat11 (g := (mkF m 17 #[.val (.ref r0), .val (.ref r1), .val (.int (1 : Int32))] [(.int (1 : Int32)), (.ref r0)])) rfl rfl (hb hby d22_17)) ?_
          show own_Go _ _ _ _ s₁ (mkF m 18 #[.val (.ref r0), .val (.ref r1), .val (.int (1 : Int32))] [(.int u1)])
          refine own_st (fun t k => XS.aloadN X0.here hx rfl (hb hby d22_18) rfl rfl k) ?_
          show own_Go _ _ _ _ s₁ (mkF m 19 #[.val (.ref r0), .val (.ref r1), .val (.int (1 : Int32))] [(.ref r1), (.int u1)])
          refine own_st (fun t k => XS.iloadN X0.here hx rfl (hb hby d22_19) rfl k) ?_
          show own_Go _ _ _ _ s₁ (mkF m 20 #[.val (.ref r0), .val (.ref r1), .val (.int (1 : Int32))] [(.int (1 : Int32)), (.ref r1), (.int u1)])
          obtain ⟨cl12, Ar12, qk12, Sz12, Nn12, Hs12, Gf12⟩ := id Vc
          have hin12 : ¬ ((1 : Int32) < 0 ∨ cl12.slots.size ≤ ((1 : Int32)).toNatClampNeg) := inb_of Sz12 ⟨by decide, (by rw [← c4_3]; exact c12_10)⟩
          have hat12 : cl12.slots[((1 : Int32)).toNatClampNeg]? = some (.int w1) := Has.at Hs12 hin12 rfl
          refine own_st (X0.baloadBytes hx (j := (1 : Int32)) (v := (.int w1)) (by rw [e0]; exact Ar12.1) (State.isArrayOf_alike hZ.alike Ar12.2.1) Ar12.2.2 hin12 hat12 (g := (mkF m 20 #[.val (.ref r0), .val (.ref r1), .val (.int (1 : Int32))] [(.int (1 : Int32)), (.ref r1), (.int u1)])) rfl rfl (hb hby d22_20)) ?_
          show own_Go _ _ _ _ s₁ (mkF m 21 #[.val (.ref r0), .val (.ref r1), .val (.int (1 : Int32))] [(.int w1), (.int u1)])
          by_cases c21_13 : u1 = w1
          ·
            refine own_st (fun t k => XS.icmpYes X0.here hx rfl (pc0 := 21) (pc' := 26) rfl (hb hby d22_21) rfl (teq c21_13).1 (by decide) (by decide) k) ?_
            show own_Go _ _ _ _ s₁ (mkF m 26 #[.val (.ref r0), .val (.ref r1), .val (.int (1 : Int32))] [])
            refine own_st (fun t k => XS.iinc X0.here hx rfl (hb hby d22_26) rfl (l' := #[.val (.ref r0), .val (.ref r1), .val (.int (2 : Int32))]) rfl k) ?_
            show own_Go _ _ _ _ s₁ (mkF m 29 #[.val (.ref r0), .val (.ref r1), .val (.int (2 : Int32))] [])
            refine own_st (fun t k => XS.goto X0.here hx rfl (pc0 := 29) (pc' := 9) rfl (hb hby d22_29) (by decide) (by decide) k) ?_
            show own_Go _ _ _ _ s₁ (mkF m 9 #[.val (.ref r0), .val (.ref r1), .val (.int (2 : Int32))] [])
            refine own_st (fun t k => XS.iloadN X0.here hx rfl (hb hby d22_9) rfl k) ?_
            show own_Go _ _ _ _ s₁ (mkF m 10 #[.val (.ref r0), .val (.ref r1), .val (.int (2 : Int32))] [(.int (2 : Int32))])
            refine own_st (fun t k => XS.aloadN X0.here hx rfl (hb hby d22_10) rfl rfl k) ?_
            show own_Go _ _ _ _ s₁ (mkF m 11 #[.val (.ref r0), .val (.ref r1), .val (.int (2 : Int32))] [(.ref r0), (.int (2 : Int32))])
            obtain ⟨cl14, Ar14, qk14, Sz14, Nn14, Hs14, Gf14⟩ := id Va
            refine own_st (X0.arraylength hx (by rw [e0]; exact Ar14.1) (State.isArrayOf_alike hZ.alike Ar14.2.1) (g := (mkF m 11 #[.val (.ref r0), .val (.ref r1), .val (.int (2 : Int32))] [(.ref r0), (.int (2 : Int32))])) rfl rfl (hb hby d22_11)) ?_
            rw [len_of Sz14 Nn14]
            show own_Go _ _ _ _ s₁ (mkF m 12 #[.val (.ref r0), .val (.ref r1), .val (.int (2 : Int32))] [(.int na), (.int (2 : Int32))])
            refine own_st (fun t k => XS.icmpYes X0.here hx rfl (pc0 := 12) (pc' := 32) rfl (hb hby d22_12) rfl (flt (own_012_n2 ha : ¬ ((2 : Int32) < na))).2.1 (by decide) (by decide) k) ?_
            show own_Go _ _ _ _ s₁ (mkF m 32 #[.val (.ref r0), .val (.ref r1), .val (.int (2 : Int32))] [])
            refine own_st (fun t k => XS.iconst X0.here hx rfl (hb hby d22_32) k) ?_
            show own_Go _ _ _ _ s₁ (mkF m 33 #[.val (.ref r0), .val (.ref r1), .val (.int (2 : Int32))] [(.int (1 : Int32))])
            exact own_retN X0 hx hlk (t := .boolean) hrt (by simp) (hb hby d22_33) ⟨(by simp only [own_le, if_pos c4_3, if_pos c12_5, if_pos c21_8, if_pos c12_10, if_pos c21_13]; first | rfl | done), N0, e0⟩ (by decide) (by decide)
          ·
            refine own_st (fun t k => XS.icmpNo X0.here hx rfl (hb hby d22_21) rfl (feq c21_13).1 k) ?_
            show own_Go _ _ _ _ s₁ (mkF m 24 #[.val (.ref r0), .val (.ref r1), .val (.int (1 : Int32))] [])
            refine own_st (fun t k => XS.iconst X0.here hx rfl (hb hby d22_24) k) ?_
            show own_Go _ _ _ _ s₁ (mkF m 25 #[.val (.ref r0), .val (.ref r1), .val (.int (1 : Int32))] [(.int (0 : Int32))])
            exact own_retN X0 hx hlk (t := .boolean) hrt (by simp) (hb hby d22_25) ⟨(by simp only [own_le, if_pos c4_3, if_pos c12_5, if_pos c21_8, if_pos c12_10, if_neg c21_13]; first | rfl | done), N0, e0⟩ (by decide) (by decide)
        ·
          refine own_st (fun t k => XS.icmpYes X0.here hx rfl (pc0 := 12) (pc' := 32) rfl (hb hby d22_12) rfl (flt c12_10).2.1 (by decide) (by decide) k) ?_
          show own_Go _ _ _ _ s₁ (mkF m 32 #[.val (.ref r0), .val (.ref r1), .val (.int (1 : Int32))] [])
          refine own_st (fun t k => XS.iconst X0.here hx rfl (hb hby d22_32) k) ?_
          show own_Go _ _ _ _ s₁ (mkF m 33 #[.val (.ref r0), .val (.ref r1), .val (.int (1 : Int32))] [(.int (1 : Int32))])
          exact own_retN X0 hx hlk (t := .boolean) hrt (by simp) (hb hby d22_33) ⟨(by simp only [own_le, if_pos c4_3, if_pos c12_5, if_pos c21_8, if_neg c12_10]; first | rfl | done), N0, e0⟩ (by decide) (by decide)
      ·
        refine own_st (fun t k => XS.icmpNo X0.here hx rfl (hb hby d22_21) rfl (feq c21_8).1 k) ?_
        show own_Go _ _ _ _ s₁ (mkF m 24 #[.val (.ref r0), .val (.ref r1), .val (.int (0 : Int32))] [])
        refine own_st (fun t k => XS.iconst X0.here hx rfl (hb hby d22_24) k) ?_
        show own_Go _ _ _ _ s₁ (mkF m 25 #[.val (.ref r0), .val (.ref r1), .val (.int (0 : Int32))] [(.int (0 : Int32))])
        exact own_retN X0 hx hlk (t := .boolean) hrt (by simp) (hb hby d22_25) ⟨(by simp only [own_le, if_pos c4_3, if_pos c12_5, if_neg c21_8]; first | rfl | done), N0, e0⟩ (by decide) (by decide)
    ·
      refine own_st (fun t k => XS.icmpYes X0.here hx rfl (pc0 := 12) (pc' := 32) rfl (hb hby d22_12) rfl (flt c12_5).2.1 (by decide) (by decide) k) ?_
      show own_Go _ _ _ _ s₁ (mkF m 32 #[.val (.ref r0), .val (.ref r1), .val (.int (0 : Int32))] [])
      refine own_st (fun t k => XS.iconst X0.here hx rfl (hb hby d22_32) k) ?_
      show own_Go _ _ _ _ s₁ (mkF m 33 #[.val (.ref r0), .val (.ref r1), .val (.int (0 : Int32))] [(.int (1 : Int32))])
      exact own_retN X0 hx hlk (t := .boolean) hrt (by simp) (hb hby d22_33) ⟨(by simp only [own_le, if_pos c4_3, if_neg c12_5]; first | rfl | done), N0, e0⟩ (by decide) (by decide)
  ·
    refine own_st (fun t k => XS.icmpYes X0.here hx rfl (pc0 := 4) (pc' := 34) rfl (hb hby d22_4) rfl (feq c4_3).2 (by decide) (by decide) k) ?_
    show own_Go _ _ _ _ s₁ (mkF m 34 #[.val (.ref r0), .val (.ref r1), .unset] [])
    refine own_st (fun t k => XS.iconst X0.here hx rfl (hb hby d22_34) k) ?_
    show own_Go _ _ _ _ s₁ (mkF m 35 #[.val (.ref r0), .val (.ref r1), .unset] [(.int (0 : Int32))])
    exact own_retN X0 hx hlk (t := .boolean) hrt (by simp) (hb hby d22_35) ⟨(by simp only [own_le, if_neg c4_3]; first | rfl | done), N0, e0⟩ (by decide) (by decide)
theorem pd__28_5bB_5bB_29Z : parseMethodDescriptor "([B[B)Z" = some ⟨[(.array .byte), (.array .byte)], some .boolean⟩ := by decide +kernel
/-! body 16: String.equals -/
theorem d16_0 : decode jdk_42_method_66_code 0 = .ok (.aload_n 0, 1) := by decide +kernel
theorem d16_1 : decode jdk_42_method_66_code 1 = .ok (.aload_n 1, 1) := by decide +kernel
theorem d16_2 : decode jdk_42_method_66_code 2 = .ok (.if_acmp .ne 5, 3) := by decide +kernel
theorem d16_5 : decode jdk_42_method_66_code 5 = .ok (.iconst 1, 1) := by decide +kernel
theorem d16_6 : decode jdk_42_method_66_code 6 = .ok (.ireturn, 1) := by decide +kernel
theorem d16_7 : decode jdk_42_method_66_code 7 = .ok (.aload_n 1, 1) := by decide +kernel
theorem d16_8 : decode jdk_42_method_66_code 8 = .ok (.instanceof 10, 3) := by decide +kernel
theorem d16_11 : decode jdk_42_method_66_code 11 = .ok (.ifCond .eq 43, 3) := by decide +kernel
theorem d16_14 : decode jdk_42_method_66_code 14 = .ok (.aload_n 1, 1) := by decide +kernel
theorem d16_15 : decode jdk_42_method_66_code 15 = .ok (.checkcast 10, 3) := by decide +kernel
theorem d16_18 : decode jdk_42_method_66_code 18 = .ok (.astore_n 2, 1) := by decide +kernel
theorem d16_19 : decode jdk_42_method_66_code 19 = .ok (.getstatic 38, 3) := by decide +kernel
theorem d16_22 : decode jdk_42_method_66_code 22 = .ok (.ifCond .eq 14, 3) := by decide +kernel
theorem d16_25 : decode jdk_42_method_66_code 25 = .ok (.aload_n 0, 1) := by decide +kernel
theorem d16_26 : decode jdk_42_method_66_code 26 = .ok (.getfield 15, 3) := by decide +kernel
theorem d16_29 : decode jdk_42_method_66_code 29 = .ok (.aload_n 2, 1) := by decide +kernel
theorem d16_30 : decode jdk_42_method_66_code 30 = .ok (.getfield 15, 3) := by decide +kernel
theorem d16_33 : decode jdk_42_method_66_code 33 = .ok (.if_icmp .ne 21, 3) := by decide +kernel
theorem d16_36 : decode jdk_42_method_66_code 36 = .ok (.aload_n 0, 1) := by decide +kernel
theorem d16_37 : decode jdk_42_method_66_code 37 = .ok (.getfield 9, 3) := by decide +kernel
theorem d16_40 : decode jdk_42_method_66_code 40 = .ok (.aload_n 2, 1) := by decide +kernel
theorem d16_41 : decode jdk_42_method_66_code 41 = .ok (.getfield 9, 3) := by decide +kernel
theorem d16_44 : decode jdk_42_method_66_code 44 = .ok (.invokestatic 541, 3) := by decide +kernel
theorem d16_47 : decode jdk_42_method_66_code 47 = .ok (.ifCond .eq 7, 3) := by decide +kernel
theorem d16_50 : decode jdk_42_method_66_code 50 = .ok (.iconst 1, 1) := by decide +kernel
theorem d16_51 : decode jdk_42_method_66_code 51 = .ok (.goto 4, 3) := by decide +kernel
theorem d16_54 : decode jdk_42_method_66_code 54 = .ok (.iconst 0, 1) := by decide +kernel
theorem d16_55 : decode jdk_42_method_66_code 55 = .ok (.ireturn, 1) := by decide +kernel
theorem ef_16 (m : MethodId) (x0 : Addr) (x1 : Addr) : entryFrame m #[(.ref x0), (.ref x1)] 3 = mkF m 0 #[.val (.ref x0), .val (.ref x1), .unset] [] := by first | (simp [entryFrame, mkF, argsToLocals, Value.category]; done) | rfl
def own_se (r0 : Addr) (r1 : Addr) (na : Int32) (nb : Int32) (u0 : Int32) (u1 : Int32) (w0 : Int32) (w1 : Int32) : Int32 := (if r0 = r1 then (1 : Int32) else (if (own_le na nb u0 u1 w0 w1) = (0 : Int32) then (0 : Int32) else (1 : Int32)))
def Q16 (Z : State) (r0 : Addr) (r1 : Addr) (ba : Addr) (bc : Addr) (ka : ClassId) (kc : ClassId) (na : Int32) (nb : Int32) (u0 : Int32) (u1 : Int32) (w0 : Int32) (w1 : Int32) (cs : Int32) (ca : Addr) (cc : Cell) (h0 : Heap) (n0 : Nat) (v : Option Value) (h : Heap) (L : List Loc) : Prop := v = some (.int (own_se r0 r1 na nb u0 u1 w0 w1)) ∧ Fr n0 L ∧ h = h0
set_option maxRecDepth 65536 in
set_option maxHeartbeats 40000000 in
theorem rm16 (l : Launch) (Z : State) (a0 : Array Value) (hw : ∀ d ∈ tables_1, d.before a0 Z = true) (ws : List Jvm.Cond) (r0 : Addr) (r1 : Addr) (ba : Addr) (bc : Addr) (ka : ClassId) (kc : ClassId) (na : Int32) (nb : Int32) (u0 : Int32) (u1 : Int32) (w0 : Int32) (w1 : Int32) (cs : Int32) (ca : Addr) (cc : Cell) (h0 : Heap) (n0 : Nat) (Z0 : n0 ≤ h0.size) (E_r0 : Exa Z h0 r0 "java/lang/String") (F_value_r0 : Fld Z h0 r0 "java/lang/String" "value" "[B" (.ref ba)) (F_coder_r0 : Fld Z h0 r0 "java/lang/String" "coder" "B" (.int (0 : Int32))) (E_r1 : Exa Z h0 r1 "java/lang/String") (F_value_r1 : Fld Z h0 r1 "java/lang/String" "value" "[B" (.ref bc)) (F_coder_r1 : Fld Z h0 r1 "java/lang/String" "coder" "B" (.int (0 : Int32))) (Va : Arv Z h0 ba ka .byte na [(.int u0), (.int u1)] (.int (0 : Int32))) (Vc : Arv Z h0 bc kc .byte nb [(.int w0), (.int w1)] (.int (0 : Int32))) (ha : own_012 na) (G : own_G Z cs ca cc) (O0 : Old Z n0 h0) :
    MetFree l (⟨"java/lang/String", "equals", "(Ljava/lang/Object;)Z"⟩ : MethodName) (head1 (Jvm.Cond.code (⟨"java/lang/String", "equals", "(Ljava/lang/Object;)Z"⟩ : MethodName) jdk_42_method_66_code 3 (some .boolean) :: ws) ({ frames := 1, cells := 0, slots := 0, locals := 14 } : Room)) (fun a U => a = #[(.ref r0), (.ref r1)] ∧ Z.Warmed39 U.vm ∧ U.heap = h0) (fun _ _ _ _ _ => True) (fun _ U o U' => ∃ v L, o = .returned v ∧ Q16 Z r0 r1 ba bc ka kc na nb u0 u1 w0 w1 cs ca cc h0 n0 v U'.heap L ∧ FrameEnd U o U' L ({ frames := 1, cells := 0, slots := 0, locals := 14 } : Room).cells ({ frames := 1, cells := 0, slots := 0, locals := 14 } : Room).slots) := by
  refine MetFree.of_bodySF (plainFor_of_name pn_java_lang_String) hisR ?_
  intro p e s m args below meth c s₁ Bd hml0 hP hK
  obtain ⟨rfl, hZ, hh⟩ := hP
  have hx := Bd.exec
  have hby := Bd.bytes
  have hlk := Bd.notSynchronized
  have hrt := Bd.returns
  have hml : c.maxLocals = 3 := hml0
  have hown : s.vm.findClass "java/lang/String" = some m.cls := findClass_of_methodNamed Bd.named
  have hnm := (name_of_methodNamed Bd.named Bd.method).1
  have X0 : Stand p l e ({ frames := 1, cells := 0, slots := 0, locals := 14 } : Room) s m #[(.ref r0), (.ref r1)] below meth c s₁ [] 0 0 := Stand.of_body Bd
  have e0 : s₁.heap = h0 := by rw [← hh, Bd.state]; rfl
  have N0 := Fr.nil n0
  have K0 := Keep.refl h0 []
  refine own_out (Q := Q16 Z r0 r1 ba bc ka kc na nb u0 u1 w0 w1 cs ca cc h0 n0) ?_
  refine own_in (ef_16 m r0 r1) ?_
  show own_Go _ _ _ _ s₁ (mkF m 0 #[.val (.ref r0), .val (.ref r1), .unset] [])
  refine own_st (fun t k => XS.aloadN X0.here hx rfl (hb hby d16_0) rfl rfl k) ?_
  show own_Go _ _ _ _ s₁ (mkF m 1 #[.val (.ref r0), .val (.ref r1), .unset] [(.ref r0)])
  refine own_st (fun t k => XS.aloadN X0.here hx rfl (hb hby d16_1) rfl rfl k) ?_
  show own_Go _ _ _ _ s₁ (mkF m 2 #[.val (.ref r0), .val (.ref r1), .unset] [(.ref r1), (.ref r0)])
  by_cases c2_1 : r0 = r1
  ·
    refine own_st (fun t k => Jvm.RoadKit.acmp (g := (mkF m 2 #[.val (.ref r0), .val (.ref r1), .unset] [(.ref r1), (.ref r0)])) X0 hx rfl rfl rfl (pc0 := 2) (pc' := 5) (same := true) rfl (hb hby d16_2) rfl (decide_eq_true (congrArg Value.ref c2_1)) (by decide) (by decide) k) ?_
    show own_Go _ _ _ _ s₁ (mkF m 5 #[.val (.ref r0), .val (.ref r1), .unset] [])
    refine own_st (fun t k => XS.iconst X0.here hx rfl (hb hby d16_5) k) ?_
    show own_Go _ _ _ _ s₁ (mkF m 6 #[.val (.ref r0), .val (.ref r1), .unset] [(.int (1 : Int32))])
    exact own_retN X0 hx hlk (t := .boolean) hrt (by simp) (hb hby d16_6) ⟨(by simp only [own_se, if_pos c2_1]; first | rfl | done), N0, e0⟩ (by decide) (by decide)
  ·
    refine own_st (fun t k => Jvm.RoadKit.acmp (g := (mkF m 2 #[.val (.ref r0), .val (.ref r1), .unset] [(.ref r1), (.ref r0)])) X0 hx rfl rfl rfl (pc0 := 2) (pc' := 7) (same := false) rfl (hb hby d16_2) rfl (decide_eq_false fun q => c2_1 (Value.ref.inj q)) (by decide) (by decide) k) ?_
    show own_Go _ _ _ _ s₁ (mkF m 7 #[.val (.ref r0), .val (.ref r1), .unset] [])
    refine own_st (fun t k => XS.aloadN X0.here hx rfl (hb hby d16_7) rfl rfl k) ?_
    show own_Go _ _ _ _ s₁ (mkF m 8 #[.val (.ref r0), .val (.ref r1), .unset] [(.ref r1)])
    obtain ⟨T2, X2, e2, st2⟩ := instY X0 hx hZ hown (hw _ (List.mem_of_getElem? (i := 129) rfl)) e0 (Ins.self E_r1) (g := (mkF m 8 #[.val (.ref r0), .val (.ref r1), .unset] [(.ref r1)])) rfl rfl (hb hby d16_8)
    refine own_st st2 ?_
    show own_Go _ _ _ _ T2 (mkF m 11 #[.val (.ref r0), .val (.ref r1), .unset] [(.int (1 : Int32))])
    refine own_st (fun t k => XS.ifNo X2.here hx rfl (hb hby d16_11) rfl ((if0 _ _).trans (feq (by decide : ¬ ((1 : Int32) = (0 : Int32)))).1) k) ?_
    show own_Go _ _ _ _ T2 (mkF m 14 #[.val (.ref r0), .val (.ref r1), .unset] [])
    refine own_st (fun t k => XS.aloadN X2.here hx rfl (hb hby d16_14) rfl rfl k) ?_
    show own_Go _ _ _ _ T2 (mkF m 15 #[.val (.ref r0), .val (.ref r1), .unset] [(.ref r1)])
    obtain ⟨T3, X3, e3, st3⟩ := castY X2 hx hZ hown (hw _ (List.mem_of_getElem? (i := 129) rfl)) e2 (Ins.self E_r1) (g := (mkF m 15 #[.val (.ref r0), .val (.ref r1), .unset] [(.ref r1)])) rfl rfl (hb hby d16_15)
    refine own_st st3 ?_
    show own_Go _ _ _ _ T3 (mkF m 18 #[.val (.ref r0), .val (.ref r1), .unset] [(.ref r1)])
    refine own_st (fun t k => XS.astoreN X3.here hx rfl (hb hby d16_18) rfl rfl (l' := #[.val (.ref r0), .val (.ref r1), .val (.ref r1)]) rfl k) ?_
    show own_Go _ _ _ _ T3 (mkF m 19 #[.val (.ref r0), .val (.ref r1), .val (.ref r1)] [])
    obtain ⟨T4, X4, e4, st4⟩ := getS2 X3 hx hZ hown (host := "") (Or.inl (hw _ (List.mem_of_getElem? (i := 77) rfl))) Via.refl e3 (G.1.ext O0.2) (g := (mkF m 19 #[.val (.ref r0), .val (.ref r1), .val (.ref r1)] [])) rfl (hb hby d16_19)
    refine own_st st4 ?_
    show own_Go _ _ _ _ T4 (mkF m 22 #[.val (.ref r0), .val (.ref r1), .val (.ref r1)] [(.int cs)])
    refine own_st (fun t k => XS.ifNo X4.here hx rfl (hb hby d16_22) rfl ((if0 _ _).trans (feq G.2.1).1) k) ?_
    show own_Go _ _ _ _ T4 (mkF m 25 #[.val (.ref r0), .val (.ref r1), .val (.ref r1)] [])
    refine own_st (fun t k => XS.aloadN X4.here hx rfl (hb hby d16_25) rfl rfl k) ?_
    show own_Go _ _ _ _ T4 (mkF m 26 #[.val (.ref r0), .val (.ref r1), .val (.ref r1)] [(.ref r0)])
    obtain ⟨T5, X5, e5, st5⟩ := getF X4 hx hZ hown (host := "") (Or.inl (hw _ (List.mem_of_getElem? (i := 25) rfl))) Via.refl e4 F_coder_r0 (g := (mkF m 26 #[.val (.ref r0), .val (.ref r1), .val (.ref r1)] [(.ref r0)])) rfl rfl (hb hby d16_26)
    refine own_st st5 ?_
    show own_Go _ _ _ _ T5 (mkF m 29 #[.val (.ref r0), .val (.ref r1), .val (.ref r1)] [(.int (0 : Int32))])
    refine own_st (fun t k => XS.aloadN X5.here hx rfl (hb hby d16_29) rfl rfl k) ?_
    show own_Go _ _ _ _ T5 (mkF m 30 #[.val (.ref r0), .val (.ref r1), .val (.ref r1)] [(.ref r1), (.int (0 : Int32))])
    obtain ⟨T6, X6, e6, st6⟩ := getF X5 hx hZ hown (host := "") (Or.inl (hw _ (List.mem_of_getElem? (i := 25) rfl))) Via.refl e5 F_coder_r1 (g := (mkF m 30 #[.val (.ref r0), .val (.ref r1), .val (.ref r1)] [(.ref r1), (.int (0 : Int32))])) rfl rfl (hb hby d16_30)
    refine own_st st6 ?_
    show own_Go _ _ _ _ T6 (mkF m 33 #[.val (.ref r0), .val (.ref r1), .val (.ref r1)] [(.int (0 : Int32)), (.int (0 : Int32))])
    refine own_st (fun t k => XS.icmpNo X6.here hx rfl (hb hby d16_33) rfl (teq (by decide : (0 : Int32) = (0 : Int32))).2 k) ?_
    show own_Go _ _ _ _ T6 (mkF m 36 #[.val (.ref r0), .val (.ref r1), .val (.ref r1)] [])
    refine own_st (fun t k => XS.aloadN X6.here hx rfl (hb hby d16_36) rfl rfl k) ?_
    show own_Go _ _ _ _ T6 (mkF m 37 #[.val (.ref r0), .val (.ref r1), .val (.ref r1)] [(.ref r0)])
    obtain ⟨T7, X7, e7, st7⟩ := getF X6 hx hZ hown (host := "") (Or.inl (hw _ (List.mem_of_getElem? (i := 24) rfl))) Via.refl e6 F_value_r0 (g := (mkF m 37 #[.val (.ref r0), .val (.ref r1), .val (.ref r1)] [(.ref r0)])) rfl rfl (hb hby d16_37)
    refine own_st st7 ?_
    show own_Go _ _ _ _ T7 (mkF m 40 #[.val (.ref r0), .val (.ref r1), .val (.ref r1)] [(.ref ba)])
    refine own_st (fun t k => XS.aloadN X7.here hx rfl (hb hby d16_40) rfl rfl k) ?_
    show own_Go _ _ _ _ T7 (mkF m 41 #[.val (.ref r0), .val (.ref r1), .val (.ref r1)] [(.ref r1), (.ref ba)])
    obtain ⟨T8, X8, e8, st8⟩ := getF X7 hx hZ hown (host := "") (Or.inl (hw _ (List.mem_of_getElem? (i := 24) rfl))) Via.refl e7 F_value_r1 (g := (mkF m 41 #[.val (.ref r0), .val (.ref r1), .val (.ref r1)] [(.ref r1), (.ref ba)])) rfl rfl (hb hby d16_41)
    refine own_st st8 ?_
    show own_Go _ _ _ _ T8 (mkF m 44 #[.val (.ref r0), .val (.ref r1), .val (.ref r1)] [(.ref bc), (.ref ba)])
    obtain ⟨_, _, ⟨T9, L9, k9, n9⟩, -, X9, ⟨Lc9, hQ9, l9, y9, z9⟩, st9⟩ := Jvm.LawKit.callS X8 hx (y := (⟨"java/lang/StringLatin1", "equals", "([B[B)Z"⟩ : MethodName)) hown (mvT hZ (hw _ (List.mem_of_getElem? (i := 130) rfl))) (mvT hZ (hw _ (List.mem_of_getElem? (i := 131) rfl))) (mvT hZ (hw _ (List.mem_of_getElem? (i := 80) rfl))) (mvT hZ (hw _ (List.mem_of_getElem? (i := 132) rfl))) (by decide) (backOf (W := 0) (rm22 l Z a0 hw [] ba bc ka kc na nb u0 u1 w0 w1  h0 n0 Z0 Va Vc ha) hZ (hw _ (List.mem_of_getElem? (i := 132) rfl)) (hw _ (List.mem_of_getElem? (i := 80) rfl)) (by decide) (by decide)) (g := (mkF m 44 #[.val (.ref r0), .val (.ref r1), .val (.ref r1)] [(.ref bc), (.ref ba)])) rfl (by rw [hml]; rfl) (argsL := [(.ref ba), (.ref bc)]) (rest := []) (lenOf pd__28_5bB_5bB_29Z rfl) rfl (by show 2 * 0 + _ ≤ _; exact Nat.le_of_eq rfl) (hb hby d16_44) (fun _ _ => ⟨rfl, e8, (by decide : 0 + 0 ≤ _), (by decide : 0 + 0 ≤ _)⟩)
    dsimp only [Pt.U, Pt.locs, Pt.cells, Pt.slots] at X9 l9 y9 z9 st9 hQ9
    subst l9 y9 z9
    obtain ⟨rfl, N9q, e9⟩ := hQ9
    obtain ⟨_, X9, N9⟩ := own_hide X9 (Fr.app N0 N9q)
    refine own_st st9 ?_
    show own_Go _ _ _ _ T9 (mkF m 47 #[.val (.ref r0), .val (.ref r1), .val (.ref r1)] [(.int (own_le na nb u0 u1 w0 w1))])
    by_cases c47_10 : (own_le na nb u0 u1 w0 w1) = (0 : Int32)
    ·
      refine own_st (fun t k => XS.ifYes X9.here hx rfl (pc0 := 47) (pc' := 54) rfl (hb hby d16_47) rfl ((if0 _ _).trans (teq c47_10).1) (by decide) (by decide) k) ?_
      show own_Go _ _ _ _ T9 (mkF m 54 #[.val (.ref r0), .val (.ref r1), .val (.ref r1)] [])
      refine own_st (fun t k => XS.iconst X9.here hx rfl (hb hby d16_54) k) ?_
      show own_Go _ _ _ _ T9 (mkF m 55 #[.val (.ref r0), .val (.ref r1), .val (.ref r1)] [(.int (0 : Int32))])
      exact own_retN X9 hx hlk (t := .boolean) hrt (by simp) (hb hby d16_55) ⟨(by simp only [own_se, if_neg c2_1, if_pos c47_10]; first | rfl | done), N9, e9⟩ (by decide) (by decide)
    ·
      refine own_st (fun t k => XS.ifNo X9.here hx rfl (hb hby d16_47) rfl ((if0 _ _).trans (feq c47_10).1) k) ?_
      show own_Go _ _ _ _ T9 (mkF m 50 #[.val (.ref r0), .val (.ref r1), .val (.ref r1)] [])
      refine own_st (fun t k => XS.iconst X9.here hx rfl (hb hby d16_50) k) ?_
      show own_Go _ _ _ _ T9 (mkF m 51 #[.val (.ref r0), .val (.ref r1), .val (.ref r1)] [(.int (1 : Int32))])
      refine own_st (fun t k => XS.goto X9.here hx rfl (pc0 := 51) (pc' := 55) rfl (hb hby d16_51) (by decide) (by decide) k) ?_
      show own_Go _ _ _ _ T9 (mkF m 55 #[.val (.ref r0), .val (.ref r1), .val (.ref r1)] [(.int (1 : Int32))])
      exact own_retN X9 hx hlk (t := .boolean) hrt (by simp) (hb hby d16_55) ⟨(by simp only [own_se, if_neg c2_1, if_neg c47_10]; first | rfl | done), N9, e9⟩ (by decide) (by decide)
/-! body 15: Relation.equals -/
theorem d15_0 : decode prog_20_method_4_code 0 = .ok (.aload_n 1, 1) := by decide +kernel
theorem d15_1 : decode prog_20_method_4_code 1 = .ok (.instanceof 27, 3) := by decide +kernel
theorem d15_4 : decode prog_20_method_4_code 4 = .ok (.ifCond .ne 5, 3) := by decide +kernel
theorem d15_7 : decode prog_20_method_4_code 7 = .ok (.iconst 0, 1) := by decide +kernel
theorem d15_8 : decode prog_20_method_4_code 8 = .ok (.ireturn, 1) := by decide +kernel
theorem ef_15n (m : MethodId) (x0 : Addr) : entryFrame m #[(.ref x0), .null] 3 = mkF m 0 #[.val (.ref x0), .val .null, .unset] [] := by first | (simp [entryFrame, mkF, argsToLocals, Value.category]; done) | rfl
def Q15n (Z : State) (r0 : Addr) (h0 : Heap) (n0 : Nat) (v : Option Value) (h : Heap) (L : List Loc) : Prop := v = some (.int (0 : Int32)) ∧ Fr n0 L ∧ h = h0
set_option maxRecDepth 65536 in
set_option maxHeartbeats 40000000 in
theorem rm15n (l : Launch) (Z : State) (a0 : Array Value) (hw : ∀ d ∈ tables_1, d.before a0 Z = true) (ws : List Jvm.Cond) (r0 : Addr) (h0 : Heap) (n0 : Nat) (Z0 : n0 ≤ h0.size) :
    MetFree l (⟨"com/example/libhorn/libhorn/data/Relation", "equals", "(Ljava/lang/Object;)Z"⟩ : MethodName) (head1 (Jvm.Cond.code (⟨"com/example/libhorn/libhorn/data/Relation", "equals", "(Ljava/lang/Object;)Z"⟩ : MethodName) prog_20_method_4_code 3 (some .boolean) :: ws) ({ frames := 0, cells := 0, slots := 0, locals := 0 } : Room)) (fun a U => a = #[(.ref r0), .null] ∧ Z.Warmed39 U.vm ∧ U.heap = h0) (fun _ _ _ _ _ => True) (fun _ U o U' => ∃ v L, o = .returned v ∧ Q15n Z r0 h0 n0 v U'.heap L ∧ FrameEnd U o U' L ({ frames := 0, cells := 0, slots := 0, locals := 0 } : Room).cells ({ frames := 0, cells := 0, slots := 0, locals := 0 } : Room).slots) := by
  refine MetFree.of_bodySF (plainFor_of_name pn_com_example_libhorn_libhorn_data_Relation) hisR ?_
  intro p e s m args below meth c s₁ Bd hml0 hP hK
  obtain ⟨rfl, hZ, hh⟩ := hP
  have hx := Bd.exec
  have hby := Bd.bytes
  have hlk := Bd.notSynchronized
  have hrt := Bd.returns
  have hml : c.maxLocals = 3 := hml0
  have hown : s.vm.findClass "com/example/libhorn/libhorn/data/Relation" = some m.cls := findClass_of_methodNamed Bd.named
  have hnm := (name_of_methodNamed Bd.named Bd.method).1
  have X0 : Stand p l e ({ frames := 0, cells := 0, slots := 0, locals := 0 } : Room) s m #[(.ref r0), .null] below meth c s₁ [] 0 0 := Stand.of_body Bd
  have e0 : s₁.heap = h0 := by rw [← hh, Bd.state]; rfl
  have N0 := Fr.nil n0
  have K0 := Keep.refl h0 []
  refine own_out (Q := Q15n Z r0 h0 n0) ?_
  refine own_in (ef_15n m r0) ?_
  show own_Go _ _ _ _ s₁ (mkF m 0 #[.val (.ref r0), .val .null, .unset] [])
  refine own_st (fun t k => XS.aloadN X0.here hx rfl (hb hby d15_0) rfl rfl k) ?_
  show own_Go _ _ _ _ s₁ (mkF m 1 #[.val (.ref r0), .val .null, .unset] [.null])
  refine own_st (X0.instanceofNull hx (g := (mkF m 1 #[.val (.ref r0), .val .null, .unset] [.null])) rfl rfl (hb hby d15_1)) ?_
  show own_Go _ _ _ _ s₁ (mkF m 4 #[.val (.ref r0), .val .null, .unset] [(.int (0 : Int32))])
  refine own_st (fun t k => XS.ifNo X0.here hx rfl (hb hby d15_4) rfl ((if0 _ _).trans (teq (by decide : (0 : Int32) = (0 : Int32))).2) k) ?_
  show own_Go _ _ _ _ s₁ (mkF m 7 #[.val (.ref r0), .val .null, .unset] [])
  refine own_st (fun t k => XS.iconst X0.here hx rfl (hb hby d15_7) k) ?_
  show own_Go _ _ _ _ s₁ (mkF m 8 #[.val (.ref r0), .val .null, .unset] [(.int (0 : Int32))])
  exact own_retN X0 hx hlk (t := .boolean) hrt (by simp) (hb hby d15_8) ⟨rfl, N0, e0⟩ (by decide) (by decide)
/-! body 15: Relation.equals -/
theorem ef_15s (m : MethodId) (x0 : Addr) (x1 : Addr) : entryFrame m #[(.ref x0), (.ref x1)] 3 = mkF m 0 #[.val (.ref x0), .val (.ref x1), .unset] [] := by first | (simp [entryFrame, mkF, argsToLocals, Value.category]; done) | rfl
def Q15s (Z : State) (r0 : Addr) (r1 : Addr) (h0 : Heap) (n0 : Nat) (v : Option Value) (h : Heap) (L : List Loc) : Prop := v = some (.int (0 : Int32)) ∧ Fr n0 L ∧ h = h0
set_option maxRecDepth 65536 in
set_option maxHeartbeats 40000000 in
theorem rm15s (l : Launch) (Z : State) (a0 : Array Value) (hw : ∀ d ∈ tables_1, d.before a0 Z = true) (ws : List Jvm.Cond) (r0 : Addr) (r1 : Addr) (h0 : Heap) (n0 : Nat) (Z0 : n0 ≤ h0.size) (E_r1 : Exa Z h0 r1 "java/lang/String") :
    MetFree l (⟨"com/example/libhorn/libhorn/data/Relation", "equals", "(Ljava/lang/Object;)Z"⟩ : MethodName) (head1 (Jvm.Cond.code (⟨"com/example/libhorn/libhorn/data/Relation", "equals", "(Ljava/lang/Object;)Z"⟩ : MethodName) prog_20_method_4_code 3 (some .boolean) :: ws) ({ frames := 0, cells := 0, slots := 0, locals := 0 } : Room)) (fun a U => a = #[(.ref r0), (.ref r1)] ∧ Z.Warmed39 U.vm ∧ U.heap = h0) (fun _ _ _ _ _ => True) (fun _ U o U' => ∃ v L, o = .returned v ∧ Q15s Z r0 r1 h0 n0 v U'.heap L ∧ FrameEnd U o U' L ({ frames := 0, cells := 0, slots := 0, locals := 0 } : Room).cells ({ frames := 0, cells := 0, slots := 0, locals := 0 } : Room).slots) := by
  refine MetFree.of_bodySF (plainFor_of_name pn_com_example_libhorn_libhorn_data_Relation) hisR ?_
  intro p e s m args below meth c s₁ Bd hml0 hP hK
  obtain ⟨rfl, hZ, hh⟩ := hP
  have hx := Bd.exec
  have hby := Bd.bytes
  have hlk := Bd.notSynchronized
  have hrt := Bd.returns
  have hml : c.maxLocals = 3 := hml0
  have hown : s.vm.findClass "com/example/libhorn/libhorn/data/Relation" = some m.cls := findClass_of_methodNamed Bd.named
  have hnm := (name_of_methodNamed Bd.named Bd.method).1
  have X0 : Stand p l e ({ frames := 0, cells := 0, slots := 0, locals := 0 } : Room) s m #[(.ref r0), (.ref r1)] below meth c s₁ [] 0 0 := Stand.of_body Bd
  have e0 : s₁.heap = h0 := by rw [← hh, Bd.state]; rfl
  have N0 := Fr.nil n0
  have K0 := Keep.refl h0 []
  refine own_out (Q := Q15s Z r0 r1 h0 n0) ?_
  refine own_in (ef_15s m r0 r1) ?_
  show own_Go _ _ _ _ s₁ (mkF m 0 #[.val (.ref r0), .val (.ref r1), .unset] [])
  refine own_st (fun t k => XS.aloadN X0.here hx rfl (hb hby d15_0) rfl rfl k) ?_
  show own_Go _ _ _ _ s₁ (mkF m 1 #[.val (.ref r0), .val (.ref r1), .unset] [(.ref r1)])
  obtain ⟨T1, X1, e1, st1⟩ := instNo X0 hx hZ hown (hw _ (List.mem_of_getElem? (i := 97) rfl)) e0 E_r1 (own_noRel hw) (g := (mkF m 1 #[.val (.ref r0), .val (.ref r1), .unset] [(.ref r1)])) rfl rfl (hb hby d15_1)
  refine own_st st1 ?_
  show own_Go _ _ _ _ T1 (mkF m 4 #[.val (.ref r0), .val (.ref r1), .unset] [(.int (0 : Int32))])
  refine own_st (fun t k => XS.ifNo X1.here hx rfl (hb hby d15_4) rfl ((if0 _ _).trans (teq (by decide : (0 : Int32) = (0 : Int32))).2) k) ?_
  show own_Go _ _ _ _ T1 (mkF m 7 #[.val (.ref r0), .val (.ref r1), .unset] [])
  refine own_st (fun t k => XS.iconst X1.here hx rfl (hb hby d15_7) k) ?_
  show own_Go _ _ _ _ T1 (mkF m 8 #[.val (.ref r0), .val (.ref r1), .unset] [(.int (0 : Int32))])
  exact own_retN X1 hx hlk (t := .boolean) hrt (by simp) (hb hby d15_8) ⟨rfl, N0, e1⟩ (by decide) (by decide)
theorem pd__28Ljava_2flang_2fObject_3b_29Z : parseMethodDescriptor "(Ljava/lang/Object;)Z" = some ⟨[(.object "java/lang/Object")], some .boolean⟩ := by decide +kernel
/-! body 15: Relation.equals -/
theorem d15_9 : decode prog_20_method_4_code 9 = .ok (.aload_n 1, 1) := by decide +kernel
theorem d15_10 : decode prog_20_method_4_code 10 = .ok (.checkcast 27, 3) := by decide +kernel
theorem d15_13 : decode prog_20_method_4_code 13 = .ok (.astore_n 2, 1) := by decide +kernel
theorem d15_14 : decode prog_20_method_4_code 14 = .ok (.aload_n 0, 1) := by decide +kernel
theorem d15_15 : decode prog_20_method_4_code 15 = .ok (.getfield 26, 3) := by decide +kernel
theorem d15_18 : decode prog_20_method_4_code 18 = .ok (.aload_n 2, 1) := by decide +kernel
theorem d15_19 : decode prog_20_method_4_code 19 = .ok (.getfield 26, 3) := by decide +kernel
theorem d15_22 : decode prog_20_method_4_code 22 = .ok (.invokevirtual 47, 3) := by decide +kernel
theorem d15_25 : decode prog_20_method_4_code 25 = .ok (.ifCond .eq 18, 3) := by decide +kernel
theorem d15_28 : decode prog_20_method_4_code 28 = .ok (.aload_n 0, 1) := by decide +kernel
theorem d15_29 : decode prog_20_method_4_code 29 = .ok (.getfield 31, 3) := by decide +kernel
theorem d15_32 : decode prog_20_method_4_code 32 = .ok (.aload_n 2, 1) := by decide +kernel
theorem d15_33 : decode prog_20_method_4_code 33 = .ok (.getfield 31, 3) := by decide +kernel
theorem d15_36 : decode prog_20_method_4_code 36 = .ok (.if_icmp .ne 7, 3) := by decide +kernel
theorem d15_39 : decode prog_20_method_4_code 39 = .ok (.iconst 1, 1) := by decide +kernel
theorem d15_40 : decode prog_20_method_4_code 40 = .ok (.goto 4, 3) := by decide +kernel
theorem d15_43 : decode prog_20_method_4_code 43 = .ok (.iconst 0, 1) := by decide +kernel
theorem d15_44 : decode prog_20_method_4_code 44 = .ok (.ireturn, 1) := by decide +kernel
theorem ef_15r (m : MethodId) (x0 : Addr) (x1 : Addr) : entryFrame m #[(.ref x0), (.ref x1)] 3 = mkF m 0 #[.val (.ref x0), .val (.ref x1), .unset] [] := by first | (simp [entryFrame, mkF, argsToLocals, Value.category]; done) | rfl
def own_re (sa : Addr) (aa : Int32) (sb : Addr) (ab : Int32) (na : Int32) (nb : Int32) (u0 : Int32) (u1 : Int32) (w0 : Int32) (w1 : Int32) : Int32 := (if (own_se sa sb na nb u0 u1 w0 w1) = (0 : Int32) then (0 : Int32) else (if aa = ab then (1 : Int32) else (0 : Int32)))
def Q15r (Z : State) (r0 : Addr) (r1 : Addr) (sa : Addr) (aa : Int32) (sb : Addr) (ab : Int32) (ba : Addr) (bc : Addr) (ka : ClassId) (kc : ClassId) (na : Int32) (nb : Int32) (u0 : Int32) (u1 : Int32) (w0 : Int32) (w1 : Int32) (cs : Int32) (ca : Addr) (cc : Cell) (h0 : Heap) (n0 : Nat) (v : Option Value) (h : Heap) (L : List Loc) : Prop := v = some (.int (own_re sa aa sb ab na nb u0 u1 w0 w1)) ∧ Fr n0 L ∧ h = h0
set_option maxRecDepth 65536 in
set_option maxHeartbeats 40000000 in
theorem rm15r (l : Launch) (Z : State) (a0 : Array Value) (hw : ∀ d ∈ tables_1, d.before a0 Z = true) (ws : List Jvm.Cond) (r0 : Addr) (r1 : Addr) (sa : Addr) (aa : Int32) (sb : Addr) (ab : Int32) (ba : Addr) (bc : Addr) (ka : ClassId) (kc : ClassId) (na : Int32) (nb : Int32) (u0 : Int32) (u1 : Int32) (w0 : Int32) (w1 : Int32) (cs : Int32) (ca : Addr) (cc : Cell) (h0 : Heap) (n0 : Nat) (Z0 : n0 ≤ h0.size) (F_name_r0 : Fld Z h0 r0 "com/example/libhorn/libhorn/data/Relation" "name" "Ljava/lang/String;" (.ref sa)) (F_arity_r0 : Fld Z h0 r0 "com/example/libhorn/libhorn/data/Relation" "arity" "I" (.int aa)) (E_r1 : Exa Z h0 r1 "com/example/libhorn/libhorn/data/Relation") (F_name_r1 : Fld Z h0 r1 "com/example/libhorn/libhorn/data/Relation" "name" "Ljava/lang/String;" (.ref sb)) (F_arity_r1 : Fld Z h0 r1 "com/example/libhorn/libhorn/data/Relation" "arity" "I" (.int ab)) (E_sa : Exa Z h0 sa "java/lang/String") (Fv_sa : Fld Z h0 sa "java/lang/String" "value" "[B" (.ref ba)) (Fc_sa : Fld Z h0 sa "java/lang/String" "coder" "B" (.int (0 : Int32))) (E_sb : Exa Z h0 sb "java/lang/String") (Fv_sb : Fld Z h0 sb "java/lang/String" "value" "[B" (.ref bc)) (Fc_sb : Fld Z h0 sb "java/lang/String" "coder" "B" (.int (0 : Int32))) (Va : Arv Z h0 ba ka .byte na [(.int u0), (.int u1)] (.int (0 : Int32))) (Vc : Arv Z h0 bc kc .byte nb [(.int w0), (.int w1)] (.int (0 : Int32))) (ha : own_012 na) (G : own_G Z cs ca cc) (O0 : Old Z n0 h0) :
    MetFree l (⟨"com/example/libhorn/libhorn/data/Relation", "equals", "(Ljava/lang/Object;)Z"⟩ : MethodName) (head1 (Jvm.Cond.code (⟨"com/example/libhorn/libhorn/data/Relation", "equals", "(Ljava/lang/Object;)Z"⟩ : MethodName) prog_20_method_4_code 3 (some .boolean) :: ws) ({ frames := 2, cells := 0, slots := 0, locals := 28 } : Room)) (fun a U => a = #[(.ref r0), (.ref r1)] ∧ Z.Warmed39 U.vm ∧ U.heap = h0) (fun _ _ _ _ _ => True) (fun _ U o U' => ∃ v L, o = .returned v ∧ Q15r Z r0 r1 sa aa sb ab ba bc ka kc na nb u0 u1 w0 w1 cs ca cc h0 n0 v U'.heap L ∧ FrameEnd U o U' L ({ frames := 2, cells := 0, slots := 0, locals := 28 } : Room).cells ({ frames := 2, cells := 0, slots := 0, locals := 28 } : Room).slots) := by
  refine MetFree.of_bodySF (plainFor_of_name pn_com_example_libhorn_libhorn_data_Relation) hisR ?_
  intro p e s m args below meth c s₁ Bd hml0 hP hK
  obtain ⟨rfl, hZ, hh⟩ := hP
  have hx := Bd.exec
  have hby := Bd.bytes
  have hlk := Bd.notSynchronized
  have hrt := Bd.returns
  have hml : c.maxLocals = 3 := hml0
  have hown : s.vm.findClass "com/example/libhorn/libhorn/data/Relation" = some m.cls := findClass_of_methodNamed Bd.named
  have hnm := (name_of_methodNamed Bd.named Bd.method).1
  have X0 : Stand p l e ({ frames := 2, cells := 0, slots := 0, locals := 28 } : Room) s m #[(.ref r0), (.ref r1)] below meth c s₁ [] 0 0 := Stand.of_body Bd
  have e0 : s₁.heap = h0 := by rw [← hh, Bd.state]; rfl
  have N0 := Fr.nil n0
  have K0 := Keep.refl h0 []
  refine own_out (Q := Q15r Z r0 r1 sa aa sb ab ba bc ka kc na nb u0 u1 w0 w1 cs ca cc h0 n0) ?_
  refine own_in (ef_15r m r0 r1) ?_
  show own_Go _ _ _ _ s₁ (mkF m 0 #[.val (.ref r0), .val (.ref r1), .unset] [])
  refine own_st (fun t k => XS.aloadN X0.here hx rfl (hb hby d15_0) rfl rfl k) ?_
  show own_Go _ _ _ _ s₁ (mkF m 1 #[.val (.ref r0), .val (.ref r1), .unset] [(.ref r1)])
  obtain ⟨T1, X1, e1, st1⟩ := instY X0 hx hZ hown (hw _ (List.mem_of_getElem? (i := 97) rfl)) e0 (Ins.self E_r1) (g := (mkF m 1 #[.val (.ref r0), .val (.ref r1), .unset] [(.ref r1)])) rfl rfl (hb hby d15_1)
  refine own_st st1 ?_
  show own_Go _ _ _ _ T1 (mkF m 4 #[.val (.ref r0), .val (.ref r1), .unset] [(.int (1 : Int32))])
  refine own_st (fun t k => XS.ifYes X1.here hx rfl (pc0 := 4) (pc' := 9) rfl (hb hby d15_4) rfl ((if0 _ _).trans (feq (by decide : ¬ ((1 : Int32) = (0 : Int32)))).2) (by decide) (by decide) k) ?_
  show own_Go _ _ _ _ T1 (mkF m 9 #[.val (.ref r0), .val (.ref r1), .unset] [])
  refine own_st (fun t k => XS.aloadN X1.here hx rfl (hb hby d15_9) rfl rfl k) ?_
  show own_Go _ _ _ _ T1 (mkF m 10 #[.val (.ref r0), .val (.ref r1), .unset] [(.ref r1)])
  obtain ⟨T2, X2, e2, st2⟩ := castY X1 hx hZ hown (hw _ (List.mem_of_getElem? (i := 97) rfl)) e1 (Ins.self E_r1) (g := (mkF m 10 #[.val (.ref r0), .val (.ref r1), .unset] [(.ref r1)])) rfl rfl (hb hby d15_10)
  refine own_st st2 ?_
  show own_Go _ _ _ _ T2 (mkF m 13 #[.val (.ref r0), .val (.ref r1), .unset] [(.ref r1)])
  refine own_st (fun t k => XS.astoreN X2.here hx rfl (hb hby d15_13) rfl rfl (l' := #[.val (.ref r0), .val (.ref r1), .val (.ref r1)]) rfl k) ?_
  show own_Go _ _ _ _ T2 (mkF m 14 #[.val (.ref r0), .val (.ref r1), .val (.ref r1)] [])
  refine own_st (fun t k => XS.aloadN X2.here hx rfl (hb hby d15_14) rfl rfl k) ?_
  show own_Go _ _ _ _ T2 (mkF m 15 #[.val (.ref r0), .val (.ref r1), .val (.ref r1)] [(.ref r0)])
  obtain ⟨T3, X3, e3, st3⟩ := getF X2 hx hZ hown (host := "") (Or.inl (hw _ (List.mem_of_getElem? (i := 40) rfl))) Via.refl e2 F_name_r0 (g := (mkF m 15 #[.val (.ref r0), .val (.ref r1), .val (.ref r1)] [(.ref r0)])) rfl rfl (hb hby d15_15)
  refine own_st st3 ?_
  show own_Go _ _ _ _ T3 (mkF m 18 #[.val (.ref r0), .val (.ref r1), .val (.ref r1)] [(.ref sa)])
  refine own_st (fun t k => XS.aloadN X3.here hx rfl (hb hby d15_18) rfl rfl k) ?_
  show own_Go _ _ _ _ T3 (mkF m 19 #[.val (.ref r0), .val (.ref r1), .val (.ref r1)] [(.ref r1), (.ref sa)])
  obtain ⟨T4, X4, e4, st4⟩ := getF X3 hx hZ hown (host := "") (Or.inl (hw _ (List.mem_of_getElem? (i := 40) rfl))) Via.refl e3 F_name_r1 (g := (mkF m 19 #[.val (.ref r0), .val (.ref r1), .val (.ref r1)] [(.ref r1), (.ref sa)])) rfl rfl (hb hby d15_19)
  refine own_st st4 ?_
  show own_Go _ _ _ _ T4 (mkF m 22 #[.val (.ref r0), .val (.ref r1), .val (.ref r1)] [(.ref sb), (.ref sa)])
  obtain ⟨cq5, kq5, q5a, q5b, q5c⟩ := isOf hZ e4 E_sa
  obtain ⟨_, _, ⟨T5, L5, k5, n5⟩, -, X5, ⟨Lc5, hQ5, l5, y5, z5⟩, st5⟩ := X4.virtualBack hx (y := (⟨"java/lang/String", "equals", "(Ljava/lang/Object;)Z"⟩ : MethodName)) (z := (⟨"java/lang/String", "equals", "(Ljava/lang/Object;)Z"⟩ : MethodName)) hown (mvT hZ (hw _ (List.mem_of_getElem? (i := 99) rfl))) (mvT hZ (hw _ (List.mem_of_getElem? (i := 100) rfl))) (notFace_of_selects (args := #[]) (mvT hZ (hw _ (List.mem_of_getElem? (i := 102) rfl)))) (mvT hZ (hw _ (List.mem_of_getElem? (i := 102) rfl))) (mvT hZ (hw _ (List.mem_of_getElem? (i := 101) rfl))) (by decide) (backOf (W := 0) (rm16 l Z a0 hw [] sa sb ba bc ka kc na nb u0 u1 w0 w1 cs ca cc  h0 n0 Z0 E_sa Fv_sa Fc_sa E_sb Fv_sb Fc_sb Va Vc ha G O0) hZ (hw _ (List.mem_of_getElem? (i := 103) rfl)) (hw _ (List.mem_of_getElem? (i := 2) rfl)) (by decide) (by decide)) q5a q5c (g := (mkF m 22 #[.val (.ref r0), .val (.ref r1), .val (.ref r1)] [(.ref sb), (.ref sa)])) rfl (by rw [hml]; rfl) (Steps.refl _) (argsL := [(.ref sb)]) (rest := []) (lenOf pd__28Ljava_2flang_2fObject_3b_29Z rfl) rfl (by show 2 * 0 + _ ≤ _; exact Nat.le_of_eq rfl) (hb hby d15_22) (fun _ _ => ⟨rfl, e4, (by decide : 0 + 0 ≤ _), (by decide : 0 + 0 ≤ _)⟩)
  dsimp only [Pt.U, Pt.locs, Pt.cells, Pt.slots] at X5 l5 y5 z5 st5 hQ5
  subst l5 y5 z5
  obtain ⟨rfl, N5q, e5⟩ := hQ5
  obtain ⟨_, X5, N5⟩ := own_hide X5 (Fr.app N0 N5q)
  refine own_tr st5 ?_
  show own_Go _ _ _ _ T5 (mkF m 25 #[.val (.ref r0), .val (.ref r1), .val (.ref r1)] [(.int (own_se sa sb na nb u0 u1 w0 w1))])
  by_cases c25_6 : (own_se sa sb na nb u0 u1 w0 w1) = (0 : Int32)
  ·
    refine own_st (fun t k => XS.ifYes X5.here hx rfl (pc0 := 25) (pc' := 43) rfl (hb hby d15_25) rfl ((if0 _ _).trans (teq c25_6).1) (by decide) (by decide) k) ?_
    show own_Go _ _ _ _ T5 (mkF m 43 #[.val (.ref r0), .val (.ref r1), .val (.ref r1)] [])
    refine own_st (fun t k => XS.iconst X5.here hx rfl (hb hby d15_43) k) ?_
    show own_Go _ _ _ _ T5 (mkF m 44 #[.val (.ref r0), .val (.ref r1), .val (.ref r1)] [(.int (0 : Int32))])
    exact own_retN X5 hx hlk (t := .boolean) hrt (by simp) (hb hby d15_44) ⟨(by simp only [own_re, if_pos c25_6]; first | rfl | done), N5, e5⟩ (by decide) (by decide)
  ·
    refine own_st (fun t k => XS.ifNo X5.here hx rfl (hb hby d15_25) rfl ((if0 _ _).trans (feq c25_6).1) k) ?_
    show own_Go _ _ _ _ T5 (mkF m 28 #[.val (.ref r0), .val (.ref r1), .val (.ref r1)] [])
    refine own_st (fun t k => XS.aloadN X5.here hx rfl (hb hby d15_28) rfl rfl k) ?_
    show own_Go _ _ _ _ T5 (mkF m 29 #[.val (.ref r0), .val (.ref r1), .val (.ref r1)] [(.ref r0)])
    obtain ⟨T7, X7, e7, st7⟩ := getF X5 hx hZ hown (host := "") (Or.inl (hw _ (List.mem_of_getElem? (i := 42) rfl))) Via.refl e5 F_arity_r0 (g := (mkF m 29 #[.val (.ref r0), .val (.ref r1), .val (.ref r1)] [(.ref r0)])) rfl rfl (hb hby d15_29)
    refine own_st st7 ?_
    show own_Go _ _ _ _ T7 (mkF m 32 #[.val (.ref r0), .val (.ref r1), .val (.ref r1)] [(.int aa)])
    refine own_st (fun t k => XS.aloadN X7.here hx rfl (hb hby d15_32) rfl rfl k) ?_
    show own_Go _ _ _ _ T7 (mkF m 33 #[.val (.ref r0), .val (.ref r1), .val (.ref r1)] [(.ref r1), (.int aa)])
    obtain ⟨T8, X8, e8, st8⟩ := getF X7 hx hZ hown (host := "") (Or.inl (hw _ (List.mem_of_getElem? (i := 42) rfl))) Via.refl e7 F_arity_r1 (g := (mkF m 33 #[.val (.ref r0), .val (.ref r1), .val (.ref r1)] [(.ref r1), (.int aa)])) rfl rfl (hb hby d15_33)
    refine own_st st8 ?_
    show own_Go _ _ _ _ T8 (mkF m 36 #[.val (.ref r0), .val (.ref r1), .val (.ref r1)] [(.int ab), (.int aa)])
    by_cases c36_9 : aa = ab
    ·
      refine own_st (fun t k => XS.icmpNo X8.here hx rfl (hb hby d15_36) rfl (teq c36_9).2 k) ?_
      show own_Go _ _ _ _ T8 (mkF m 39 #[.val (.ref r0), .val (.ref r1), .val (.ref r1)] [])
      refine own_st (fun t k => XS.iconst X8.here hx rfl (hb hby d15_39) k) ?_
      show own_Go _ _ _ _ T8 (mkF m 40 #[.val (.ref r0), .val (.ref r1), .val (.ref r1)] [(.int (1 : Int32))])
      refine own_st (fun t k => XS.goto X8.here hx rfl (pc0 := 40) (pc' := 44) rfl (hb hby d15_40) (by decide) (by decide) k) ?_
      show own_Go _ _ _ _ T8 (mkF m 44 #[.val (.ref r0), .val (.ref r1), .val (.ref r1)] [(.int (1 : Int32))])
      exact own_retN X8 hx hlk (t := .boolean) hrt (by simp) (hb hby d15_44) ⟨(by simp only [own_re, if_neg c25_6, if_pos c36_9]; first | rfl | done), N5, e8⟩ (by decide) (by decide)
    ·
      refine own_st (fun t k => XS.icmpYes X8.here hx rfl (pc0 := 36) (pc' := 43) rfl (hb hby d15_36) rfl (feq c36_9).2 (by decide) (by decide) k) ?_
      show own_Go _ _ _ _ T8 (mkF m 43 #[.val (.ref r0), .val (.ref r1), .val (.ref r1)] [])
      refine own_st (fun t k => XS.iconst X8.here hx rfl (hb hby d15_43) k) ?_
      show own_Go _ _ _ _ T8 (mkF m 44 #[.val (.ref r0), .val (.ref r1), .val (.ref r1)] [(.int (0 : Int32))])
      exact own_retN X8 hx hlk (t := .boolean) hrt (by simp) (hb hby d15_44) ⟨(by simp only [own_re, if_neg c25_6, if_neg c36_9]; first | rfl | done), N5, e8⟩ (by decide) (by decide)
def own_EL : List (String × Nat) := [("java/lang/String", 7)]
theorem own_ew {Z : State} {a0 : Array Value} (hw : ∀ d ∈ tables_1, d.before a0 Z = true) : EW Z a0 own_EL := EW.cons (text := "") (hw _ (List.mem_of_getElem? (i := 18) rfl)) (by simp) EW.nil
section OwnHeld
variable {p : Program} {l : Launch} {e : Env} {R : Room} {s : State} {m : MethodId} {args : Array Value} {below : List Frame} {meth : Method} {c : Code} {T : State} {locs : List Loc} {cells slots : Nat}
variable {g : JFrame} {tb : Tables} {Q : Option Value → Heap → List Loc → Prop} {k n : Nat} {Z : State} {EL : List (String × Nat)} {a0 : Array Value}
def own_FinH (below : List Frame) (s : State) (Z : State) (EL : List (String × Nat)) (Q : Option Value → Heap → List Loc → Prop) (k n : Nat) (t : State) : Prop := ∃ o, t.status = .running ∧ Ended t below o ∧ ∃ v L, o = .returned v ∧ Q v t.heap L ∧ CHr Z EL s.vm s.heap t.vm t.heap ∧ ReturnedEndW s o t L k n
theorem own_outH (q : own_Go tb e below (own_FinH below s Z EL Q k n) T g) : ∃ s₂ o, Steps tb e below (T.setTop g) s₂ ∧ s₂.status = .running ∧ Ended s₂ below o ∧ ∃ v L, o = .returned v ∧ Q v s₂.heap L ∧ CHr Z EL s.vm s.heap s₂.vm s₂.heap ∧ ReturnedEndW s o s₂ L k n := by
  obtain ⟨t, h1, o, h2, h3, h4⟩ := q
  exact ⟨t, o, h1, h2, h3, h4⟩
theorem own_retVH {pc : Nat} {Ls : Array Slot} {vm0 : Vm} {k0 : Nat} (X : Stand p l e R (s.setVm vm0) m args below meth c T locs cells slots) (hS : s.Since vm0 k0) (hk0 : k0 ≤ T.heap.size) (hx : p.tables.exec = Jvm.exec) (hlk : meth.locks = false) (hret : meth.sig.returnType = none) (hd : decode c.code pc = .ok (.return_, 1)) (hq : Q none T.heap locs) (hk : cells ≤ k) (hn : slots ≤ n)
    (hZ : Z.Warmed39 vm0) (w : EW Z a0 EL) (C : CHr Z EL s.vm s.heap vm0 T.heap) : own_Go p.tables e below (own_FinH below s Z EL Q k n) T (mkF m pc Ls []) := by
  obtain ⟨fs, hr, hrun, hended, h1, h2, h3, h4⟩ := X.leaveW hS hk0 (v := none) (fun _ => rfl) hlk
  exact ⟨_, X.returnOut hx hret hd hr, _, hrun, hended, _, _, rfl, hq, (show CHr Z EL s.vm s.heap T.vm T.heap from C.trans (CHv.at X hZ w C.1)), h1, h2, h3, h4.mono hk hn⟩
theorem own_safe {vm : Vm} {h : Heap} {x : Addr} (hal : Z.vm.Alike vm) (E : Exa Z h x "java/lang/String") (F : Fld Z h x "java/lang/String" "value" "[B" .null) : Safe Z EL vm h x := fun B => by
  obtain ⟨p, -, u, a, -, q, -, S, e⟩ := B
  have ha := S.ha
  have hd := S.hd
  obtain ⟨cS, ⟨⟨s1, s2, s3, ⟨cv, kv, iv, s4, s4'⟩, -, -, -, s8, -⟩, hfS, hcS⟩, -, hB, -⟩ := S
  rcases e with e | e
  · obtain ⟨kv', z4⟩ := ff_back (U := Wst Z vm h) hal s4
    obtain ⟨cell, c', k', i', f', f1, f2, -, -, -, -, f7⟩ := F
    rw [e] at f1
    cases f1.symm.trans ha
    have e2 := z4.symm.trans f2
    simp only [Option.some.injEq, Prod.mk.injEq] at e2
    rw [← e2.2.2.2] at f7
    have := s8.symm.trans f7
    cases this
  · obtain ⟨cell, kk, e1, e2, -⟩ := E
    rw [e] at e1
    cases e1.symm.trans hd
    have f : Z.vm.findClass "[B" = some q.SA.cls := by rw [← hal.findClass]; exact hB
    exact ids_ne e2 f (by decide) rfl
end OwnHeld

theorem pd__28_5bCII_29_5bB : parseMethodDescriptor "([CII)[B" = some ⟨[(.array .char), .int, .int], some (.array .byte)⟩ := by decide +kernel
theorem pd__28_5bBI_29B : parseMethodDescriptor "([BI)B" = some ⟨[(.array .byte), .int], some .byte⟩ := by decide +kernel
/-! body 3: String.<init> -/
theorem d3_0 : decode jdk_42_method_149_code 0 = .ok (.aload_n 0, 1) := by decide +kernel
theorem d3_1 : decode jdk_42_method_149_code 1 = .ok (.invokespecial 1, 3) := by decide +kernel
theorem d3_4 : decode jdk_42_method_149_code 4 = .ok (.iload_n 3, 1) := by decide +kernel
theorem d3_5 : decode jdk_42_method_149_code 5 = .ok (.ifCond .ne 22, 3) := by decide +kernel
theorem d3_8 : decode jdk_42_method_149_code 8 = .ok (.aload_n 0, 1) := by decide +kernel
theorem d3_9 : decode jdk_42_method_149_code 9 = .ok (.ldc 7, 2) := by decide +kernel
theorem d3_11 : decode jdk_42_method_149_code 11 = .ok (.getfield 9, 3) := by decide +kernel
theorem d3_14 : decode jdk_42_method_149_code 14 = .ok (.putfield 9, 3) := by decide +kernel
theorem d3_17 : decode jdk_42_method_149_code 17 = .ok (.aload_n 0, 1) := by decide +kernel
theorem d3_18 : decode jdk_42_method_149_code 18 = .ok (.ldc 7, 2) := by decide +kernel
theorem d3_20 : decode jdk_42_method_149_code 20 = .ok (.getfield 15, 3) := by decide +kernel
theorem d3_23 : decode jdk_42_method_149_code 23 = .ok (.putfield 15, 3) := by decide +kernel
theorem d3_26 : decode jdk_42_method_149_code 26 = .ok (.return_, 1) := by decide +kernel
theorem d3_27 : decode jdk_42_method_149_code 27 = .ok (.getstatic 38, 3) := by decide +kernel
theorem d3_30 : decode jdk_42_method_149_code 30 = .ok (.ifCond .eq 28, 3) := by decide +kernel
theorem d3_33 : decode jdk_42_method_149_code 33 = .ok (.aload_n 1, 1) := by decide +kernel
theorem d3_34 : decode jdk_42_method_149_code 34 = .ok (.iload_n 2, 1) := by decide +kernel
theorem d3_35 : decode jdk_42_method_149_code 35 = .ok (.iload_n 3, 1) := by decide +kernel
theorem d3_36 : decode jdk_42_method_149_code 36 = .ok (.invokestatic 177, 3) := by decide +kernel
theorem d3_39 : decode jdk_42_method_149_code 39 = .ok (.astore 5, 2) := by decide +kernel
theorem d3_41 : decode jdk_42_method_149_code 41 = .ok (.aload_n 0, 1) := by decide +kernel
theorem d3_42 : decode jdk_42_method_149_code 42 = .ok (.aload 5, 2) := by decide +kernel
theorem d3_44 : decode jdk_42_method_149_code 44 = .ok (.iload_n 3, 1) := by decide +kernel
theorem d3_45 : decode jdk_42_method_149_code 45 = .ok (.invokestatic 47, 3) := by decide +kernel
theorem d3_48 : decode jdk_42_method_149_code 48 = .ok (.putfield 15, 3) := by decide +kernel
theorem d3_51 : decode jdk_42_method_149_code 51 = .ok (.aload_n 0, 1) := by decide +kernel
theorem d3_52 : decode jdk_42_method_149_code 52 = .ok (.aload 5, 2) := by decide +kernel
theorem d3_54 : decode jdk_42_method_149_code 54 = .ok (.putfield 9, 3) := by decide +kernel
theorem d3_57 : decode jdk_42_method_149_code 57 = .ok (.return_, 1) := by decide +kernel
theorem ef_3 (m : MethodId) (x0 : Addr) (x1 : Addr) (x2 : Int32) (x3 : Int32) : entryFrame m #[(.ref x0), (.ref x1), (.int x2), (.int x3), .null] 6 = mkF m 0 #[.val (.ref x0), .val (.ref x1), .val (.int x2), .val (.int x3), .val .null, .unset] [] := by first | (simp [entryFrame, mkF, argsToLocals, Value.category]; done) | rfl
def Q3 (Z : State) (r0 : Addr) (r1 : Addr) (nn : Int32) (kr : ClassId) (c0 : Int32) (c1 : Int32) (cs : Int32) (ca : Addr) (cc : Cell) (h0 : Heap) (n0 : Nat) (v : Option Value) (h : Heap) (L : List Loc) : Prop := v = none ∧ Fr n0 L ∧ Keep h0 h [r0] ∧ ∃ (b : Addr) (k : ClassId), Fld Z h r0 "java/lang/String" "hash" "I" (.int (0 : Int32)) ∧ Fld Z h r0 "java/lang/String" "hashIsZero" "Z" (.int (0 : Int32)) ∧ Fld Z h r0 "java/lang/String" "value" "[B" (.ref b) ∧ Fld Z h r0 "java/lang/String" "coder" "B" (.int (0 : Int32)) ∧ Arv Z h b k .byte nn [(.int (nar .byte (c0.toInt8.toInt32))), (.int (nar .byte (c1.toInt8.toInt32)))] (.int (0 : Int32)) ∧ (nn = (2 : Int32) → Exa Z h b "[B") ∧ b ≠ r0
set_option maxRecDepth 65536 in
set_option maxHeartbeats 40000000 in
theorem rm3 (l : Launch) (Z : State) (a0 : Array Value) (hw : ∀ d ∈ tables_1, d.before a0 Z = true) (ws : List Jvm.Cond) (r0 : Addr) (r1 : Addr) (nn : Int32) (kr : ClassId) (c0 : Int32) (c1 : Int32) (cs : Int32) (ca : Addr) (cc : Cell) (h0 : Heap) (n0 : Nat) (Z0 : n0 ≤ h0.size) (E_r0 : Exa Z h0 r0 "java/lang/String") (F_hash_r0 : Fld Z h0 r0 "java/lang/String" "hash" "I" (.int (0 : Int32))) (F_hashIsZero_r0 : Fld Z h0 r0 "java/lang/String" "hashIsZero" "Z" (.int (0 : Int32))) (F_value_r0 : Fld Z h0 r0 "java/lang/String" "value" "[B" .null) (F_coder_r0 : Fld Z h0 r0 "java/lang/String" "coder" "B" (.int (0 : Int32))) (g_r0 : n0 ≤ r0) (Vr : Arv Z h0 r1 kr .char nn [(.int c0), (.int c1)] (.int (0 : Int32))) (hn : own_012 nn) (hc0 : ¬ (255 : Int32) < c0) (hc1 : ¬ (255 : Int32) < c1) (G : own_G Z cs ca cc) (O0 : Old Z n0 h0) (nr10 : r1 ≠ r0) :
    MetFree l (⟨"java/lang/String", "<init>", "([CIILjava/lang/Void;)V"⟩ : MethodName) (head1 (Jvm.Cond.code (⟨"java/lang/String", "<init>", "([CIILjava/lang/Void;)V"⟩ : MethodName) jdk_42_method_149_code 6 none :: ws) ({ frames := 2, cells := 4, slots := 8, locals := 35 } : Room)) (fun a U => a = #[(.ref r0), (.ref r1), (.int (0 : Int32)), (.int nn), .null] ∧ Z.Warmed39 U.vm ∧ U.heap = h0 ∧ CHv Z own_EL U.vm h0) (fun _ _ _ _ _ => True) (fun _ U o U' => ∃ v L, o = .returned v ∧ Q3 Z r0 r1 nn kr c0 c1 cs ca cc h0 n0 v U'.heap L ∧ CHr Z own_EL U.vm U.heap U'.vm U'.heap ∧ ReturnedEndW U o U' L ({ frames := 2, cells := 4, slots := 8, locals := 35 } : Room).cells ({ frames := 2, cells := 4, slots := 8, locals := 35 } : Room).slots) := by
  refine MetFree.of_bodySF (plainFor_of_name pn_java_lang_String) hisR ?_
  intro p e s m args below meth c s₁ Bd hml0 hP hK
  obtain ⟨rfl, hZ, hh, hC⟩ := hP
  have hx := Bd.exec
  have hby := Bd.bytes
  have hlk := Bd.notSynchronized
  have hrt := Bd.returns
  have hml : c.maxLocals = 6 := hml0
  have hown : s.vm.findClass "java/lang/String" = some m.cls := findClass_of_methodNamed Bd.named
  have hnm := (name_of_methodNamed Bd.named Bd.method).1
  have X0 : Stand p l e ({ frames := 2, cells := 4, slots := 8, locals := 35 } : Room) (s.setVm s.vm) m #[(.ref r0), (.ref r1), (.int (0 : Int32)), (.int nn), .null] below meth c s₁ [] 0 0 := Stand.of_body Bd
  have e0 : s₁.heap = h0 := by rw [← hh, Bd.state]; rfl
  have N0 := Fr.nil n0
  have K0 := Keep.refl h0 [r0]
  have hS0 : s.Since s.vm 0 := (State.WarmedH.refl s).since 0
  have hk0 : 0 ≤ h0.size := Nat.zero_le _
  have C0 : CHr Z own_EL s.vm h0 s.vm h0 := CHr.refl hC
  have S0 : Safe Z own_EL s.vm h0 r0 := own_safe hZ.alike E_r0 F_value_r0
  refine own_outH (Q := Q3 Z r0 r1 nn kr c0 c1 cs ca cc h0 n0) ?_
  refine own_in (ef_3 m r0 r1 (0 : Int32) nn) ?_
  show own_Go _ _ _ _ s₁ (mkF m 0 #[.val (.ref r0), .val (.ref r1), .val (.int (0 : Int32)), .val (.int nn), .val .null, .unset] [])
  refine own_st (fun t k => XS.aloadN X0.here hx rfl (hb hby d3_0) rfl rfl k) ?_
  show own_Go _ _ _ _ s₁ (mkF m 1 #[.val (.ref r0), .val (.ref r1), .val (.int (0 : Int32)), .val (.int nn), .val .null, .unset] [(.ref r0)])
  obtain ⟨T1, X1, e1, st1⟩ := initO X0 hx hZ hown (hw _ (List.mem_of_getElem? (i := 15) rfl)) (hw _ (List.mem_of_getElem? (i := 16) rfl)) (hw _ (List.mem_of_getElem? (i := 17) rfl)) e0 (g := (mkF m 1 #[.val (.ref r0), .val (.ref r1), .val (.int (0 : Int32)), .val (.int nn), .val .null, .unset] [(.ref r0)])) rfl (by rw [hml]; rfl) rfl (hb hby d3_1) (by decide) (W := 0) (by show 2 * 0 + _ ≤ _; exact Nat.le_of_eq rfl) (by decide)
  refine own_st st1 ?_
  show own_Go _ _ _ _ T1 (mkF m 4 #[.val (.ref r0), .val (.ref r1), .val (.int (0 : Int32)), .val (.int nn), .val .null, .unset] [])
  refine own_st (fun t k => XS.iloadN X1.here hx rfl (hb hby d3_4) rfl k) ?_
  show own_Go _ _ _ _ T1 (mkF m 5 #[.val (.ref r0), .val (.ref r1), .val (.int (0 : Int32)), .val (.int nn), .val .null, .unset] [(.int nn)])
  by_cases c5_2 : nn = (0 : Int32)
  ·
    refine own_st (fun t k => XS.ifNo X1.here hx rfl (hb hby d3_5) rfl ((if0 _ _).trans (teq c5_2).2) k) ?_
    show own_Go _ _ _ _ T1 (mkF m 8 #[.val (.ref r0), .val (.ref r1), .val (.int (0 : Int32)), .val (.int nn), .val .null, .unset] [])
    refine own_st (fun t k => XS.aloadN X1.here hx rfl (hb hby d3_8) rfl rfl k) ?_
    show own_Go _ _ _ _ T1 (mkF m 9 #[.val (.ref r0), .val (.ref r1), .val (.int (0 : Int32)), .val (.int nn), .val .null, .unset] [(.ref r0)])
    obtain ⟨b3, T3, h3, kk3, d3, k3, X3, e3, E3, hS3, hk3, hZ3, hown3, Ex3, Fc3, Fv3, V3, -, -, hC3, -, hne3, st3⟩ := ldcCH X1 hx hZ hown (hw _ (List.mem_of_getElem? (i := 18) rfl)) (own_sA hw) e1 hS0 hk0 (own_ew hw) (List.mem_of_getElem? (i := 0) rfl) C0.1 (vs := []) (z := (0 : Int32)) ⟨by simp, by simp⟩ (by decide) (by decide) (g := (mkF m 9 #[.val (.ref r0), .val (.ref r1), .val (.int (0 : Int32)), .val (.int nn), .val .null, .unset] [(.ref r0)])) rfl (hb hby d3_9) (n := 0) (by simp) (by decide) (by decide) (by decide)
    have Ch_3 := CHr.trans C0 hC3
    have ns_b3 := hne3 r0 (Ch_3.safe E_r0.lt S0)
    refine own_st st3 ?_
    show own_Go _ _ _ _ T3 (mkF m 11 #[.val (.ref r0), .val (.ref r1), .val (.int (0 : Int32)), .val (.int nn), .val .null, .unset] [(.ref b3), (.ref r0)])
    obtain ⟨T4, X4, e4, st4⟩ := getF X3 hx hZ3 hown3 (host := "") (Or.inl (hw _ (List.mem_of_getElem? (i := 24) rfl))) Via.refl e3 Fv3 (g := (mkF m 11 #[.val (.ref r0), .val (.ref r1), .val (.int (0 : Int32)), .val (.int nn), .val .null, .unset] [(.ref b3), (.ref r0)])) rfl rfl (hb hby d3_11)
    refine own_st st4 ?_
    show own_Go _ _ _ _ T4 (mkF m 14 #[.val (.ref r0), .val (.ref r1), .val (.int (0 : Int32)), .val (.int nn), .val .null, .unset] [(.ref d3), (.ref r0)])
    have F_value_r0_5 := (F_value_r0.ext E3)
    have E_r0_6 := (E_r0.ext E3)
    have K0_7 := (K0.ext E3)
    obtain ⟨T8, h8, X8, e8, W8, st8⟩ := putF X4 hx hZ3 hown3 (host := "") (Or.inl (hw _ (List.mem_of_getElem? (i := 24) rfl))) Via.refl e4 F_value_r0_5 E_r0_6 (Or.inr ⟨(hw _ (List.mem_of_getElem? (i := 20) rfl)), rfl, hnm⟩) (hw _ (List.mem_of_getElem? (i := 1) rfl)) (ty := (.array .byte)) (by decide) rfl rfl (g := (mkF m 14 #[.val (.ref r0), .val (.ref r1), .val (.int (0 : Int32)), .val (.int nn), .val .null, .unset] [(.ref d3), (.ref r0)])) rfl rfl (hb hby d3_14)
    have F8 := F_value_r0_5.same W8
    obtain ⟨_, X8, N8⟩ := own_hide X8 (Fr.snoc X8 N0 g_r0)
    refine own_st st8 ?_
    show own_Go _ _ _ _ T8 (mkF m 17 #[.val (.ref r0), .val (.ref r1), .val (.int (0 : Int32)), .val (.int nn), .val .null, .unset] [])
    refine own_st (fun t k => XS.aloadN X8.here hx rfl (hb hby d3_17) rfl rfl k) ?_
    show own_Go _ _ _ _ T8 (mkF m 18 #[.val (.ref r0), .val (.ref r1), .val (.int (0 : Int32)), .val (.int nn), .val .null, .unset] [(.ref r0)])
    have hk3_9 := (Nat.le_trans hk3 (Nat.le_of_eq W8.size.symm))
    have K0_10 := (K0_7.wr W8 (Or.inl (List.mem_of_getElem? (i := 0) rfl)))
    have Ch_11 := (Ch_3.trans (CHr.wr W8 (Ch_3.safe E_r0.lt S0) Ch_3.1))
    have Ch_12 := Ch_11
    obtain ⟨b13, T13, h13, kk13, d13, k13, X13, e13, E13, hS13, hk13, hZ13, hown13, Ex13, Fc13, Fv13, V13, -, -, hC13, -, hne13, st13⟩ := ldcCH X8 hx hZ3 hown3 (hw _ (List.mem_of_getElem? (i := 18) rfl)) (own_sA hw) e8 hS3 hk3_9 (own_ew hw) (List.mem_of_getElem? (i := 0) rfl) Ch_12.1 (vs := []) (z := (0 : Int32)) ⟨by simp, by simp⟩ (by decide) (by decide) (g := (mkF m 18 #[.val (.ref r0), .val (.ref r1), .val (.int (0 : Int32)), .val (.int nn), .val .null, .unset] [(.ref r0)])) rfl (hb hby d3_18) (n := 0) (by simp) (by decide) (by decide) (by decide)
    have Ch_13 := CHr.trans Ch_12 hC13
    have ns_b13 := hne13 r0 (Ch_13.safe E_r0.lt S0)
    refine own_st st13 ?_
    show own_Go _ _ _ _ T13 (mkF m 20 #[.val (.ref r0), .val (.ref r1), .val (.int (0 : Int32)), .val (.int nn), .val .null, .unset] [(.ref b13), (.ref r0)])
    obtain ⟨T14, X14, e14, st14⟩ := getF X13 hx hZ13 hown13 (host := "") (Or.inl (hw _ (List.mem_of_getElem? (i := 25) rfl))) Via.refl e13 Fc13 (g := (mkF m 20 #[.val (.ref r0), .val (.ref r1), .val (.int (0 : Int32)), .val (.int nn), .val .null, .unset] [(.ref b13), (.ref r0)])) rfl rfl (hb hby d3_20)
    refine own_st st14 ?_
    show own_Go _ _ _ _ T14 (mkF m 23 #[.val (.ref r0), .val (.ref r1), .val (.int (0 : Int32)), .val (.int nn), .val .null, .unset] [(.int (0 : Int32)), (.ref r0)])
    have F_coder_r0_15 := (((F_coder_r0.ext E3).other W8 (Or.inr (slot_ne (Or.inr (hw _ (List.mem_of_getElem? (i := 21) rfl))) (Or.inr (hw _ (List.mem_of_getElem? (i := 20) rfl))) (by decide) (t := .byte) (t' := (.array .byte)) (by decide) (by decide)))).ext E13)
    have E_r0_16 := ((E_r0_6.wr W8).ext E13)
    have K0_17 := (K0_10.ext E13)
    obtain ⟨T18, h18, X18, e18, W18, st18⟩ := putFN X14 hx hZ13 hown13 (hw _ (List.mem_of_getElem? (i := 25) rfl)) Via.refl e14 F_coder_r0_15 E_r0_16 (Or.inr ⟨(hw _ (List.mem_of_getElem? (i := 21) rfl)), rfl, hnm⟩) (hw _ (List.mem_of_getElem? (i := 1) rfl)) (ty := .byte) (v' := (.int (nar .byte (0 : Int32)))) (by decide) rfl (fits_nar_byte _) (g := (mkF m 23 #[.val (.ref r0), .val (.ref r1), .val (.int (0 : Int32)), .val (.int nn), .val .null, .unset] [(.int (0 : Int32)), (.ref r0)])) rfl rfl (hb hby d3_23)
    have F18 := F_coder_r0_15.same W18
    obtain ⟨_, X18, N18⟩ := own_hide X18 (Fr.snoc X18 N8 g_r0)
    refine own_st st18 ?_
    show own_Go _ _ _ _ T18 (mkF m 26 #[.val (.ref r0), .val (.ref r1), .val (.int (0 : Int32)), .val (.int nn), .val .null, .unset] [])
    have V3_19 := (((V3.other W8 (Ne.symm ns_b3.2)).ext E13).other W18 (Ne.symm ns_b3.2))
    have K0_20 := (K0_17.wr W18 (Or.inl (List.mem_of_getElem? (i := 0) rfl)))
    have F_hash_r0_21 := ((((F_hash_r0.ext E3).other W8 (Or.inr (slot_ne (Or.inl (hw _ (List.mem_of_getElem? (i := 69) rfl))) (Or.inr (hw _ (List.mem_of_getElem? (i := 20) rfl))) (by decide) (t := .int) (t' := (.array .byte)) (by decide) (by decide)))).ext E13).other W18 (Or.inr (slot_ne (Or.inl (hw _ (List.mem_of_getElem? (i := 69) rfl))) (Or.inr (hw _ (List.mem_of_getElem? (i := 21) rfl))) (by decide) (t := .int) (t' := .byte) (by decide) (by decide))))
    have F_hashIsZero_r0_22 := ((((F_hashIsZero_r0.ext E3).other W8 (Or.inr (slot_ne (Or.inl (hw _ (List.mem_of_getElem? (i := 71) rfl))) (Or.inr (hw _ (List.mem_of_getElem? (i := 20) rfl))) (by decide) (t := .boolean) (t' := (.array .byte)) (by decide) (by decide)))).ext E13).other W18 (Or.inr (slot_ne (Or.inl (hw _ (List.mem_of_getElem? (i := 71) rfl))) (Or.inr (hw _ (List.mem_of_getElem? (i := 21) rfl))) (by decide) (t := .boolean) (t' := .byte) (by decide) (by decide))))
    have F8_value_23 := ((F8.ext E13).other W18 (Or.inr (slot_ne (Or.inr (hw _ (List.mem_of_getElem? (i := 20) rfl))) (Or.inr (hw _ (List.mem_of_getElem? (i := 21) rfl))) (by decide) (t := (.array .byte)) (t' := .byte) (by decide) (by decide))))
    have hk13_24 := (Nat.le_trans hk13 (Nat.le_of_eq W18.size.symm))
    have Ch_25 := (Ch_13.trans (CHr.wr W18 (Ch_13.safe E_r0.lt S0) Ch_13.1))
    have Ch_26 := Ch_25
    exact own_retVH X18 hS13 (by rw [e18]; exact hk13_24) hx hlk hrt (hb hby d3_26) (by rw [e18]; exact ⟨rfl, N18, K0_20, d3, k3, F_hash_r0_21, F_hashIsZero_r0_22, F8_value_23, F18, (own_cut0 V3_19 c5_2), (fun q => absurd (q.symm.trans c5_2) (by decide)), (Ne.symm ns_b3.2)⟩) (by decide) (by decide) hZ13 (own_ew hw) (by rw [e18, hh]; exact Ch_26)
  ·
    refine own_st (fun t k => XS.ifYes X1.here hx rfl (pc0 := 5) (pc' := 27) rfl (hb hby d3_5) rfl ((if0 _ _).trans (feq c5_2).2) (by decide) (by decide) k) ?_
    show own_Go _ _ _ _ T1 (mkF m 27 #[.val (.ref r0), .val (.ref r1), .val (.int (0 : Int32)), .val (.int nn), .val .null, .unset] [])
    obtain ⟨T27, X27, e27, st27⟩ := getS2 X1 hx hZ hown (host := "") (Or.inl (hw _ (List.mem_of_getElem? (i := 77) rfl))) Via.refl e1 (G.1.ext O0.2) (g := (mkF m 27 #[.val (.ref r0), .val (.ref r1), .val (.int (0 : Int32)), .val (.int nn), .val .null, .unset] [])) rfl (hb hby d3_27)
    refine own_st st27 ?_
    show own_Go _ _ _ _ T27 (mkF m 30 #[.val (.ref r0), .val (.ref r1), .val (.int (0 : Int32)), .val (.int nn), .val .null, .unset] [(.int cs)])
    refine own_st (fun t k => XS.ifNo X27.here hx rfl (hb hby d3_30) rfl ((if0 _ _).trans (feq G.2.1).1) k) ?_
    show own_Go _ _ _ _ T27 (mkF m 33 #[.val (.ref r0), .val (.ref r1), .val (.int (0 : Int32)), .val (.int nn), .val .null, .unset] [])
    refine own_st (fun t k => XS.aloadN X27.here hx rfl (hb hby d3_33) rfl rfl k) ?_
    show own_Go _ _ _ _ T27 (mkF m 34 #[.val (.ref r0), .val (.ref r1), .val (.int (0 : Int32)), .val (.int nn), .val .null, .unset] [(.ref r1)])
    refine own_st (fun t k => XS.iloadN X27.here hx rfl (hb hby d3_34) rfl k) ?_
    show own_Go _ _ _ _ T27 (mkF m 35 #[.val (.ref r0), .val (.ref r1), .val (.int (0 : Int32)), .val (.int nn), .val .null, .unset] [(.int (0 : Int32)), (.ref r1)])
    refine own_st (fun t k => XS.iloadN X27.here hx rfl (hb hby d3_35) rfl k) ?_
    show own_Go _ _ _ _ T27 (mkF m 36 #[.val (.ref r0), .val (.ref r1), .val (.int (0 : Int32)), .val (.int nn), .val .null, .unset] [(.int nn), (.int (0 : Int32)), (.ref r1)])
    obtain ⟨_, _, ⟨T28, L28, k28, n28⟩, -, X28, ⟨Lc28, hQ28, l28, y28, z28⟩, st28⟩ := Jvm.LawKit.callS X27 hx (y := (⟨"java/lang/StringUTF16", "compress", "([CII)[B"⟩ : MethodName)) hown (mvT hZ (hw _ (List.mem_of_getElem? (i := 104) rfl))) (mvT hZ (hw _ (List.mem_of_getElem? (i := 105) rfl))) (mvT hZ (hw _ (List.mem_of_getElem? (i := 106) rfl))) (mvT hZ (hw _ (List.mem_of_getElem? (i := 107) rfl))) (by decide) (backOf (W := 0) (rm17 l Z a0 hw [] r1 nn kr c0 c1  h0 n0 Z0 Vr hn (own_012_p hn c5_2) hc0 hc1) hZ (hw _ (List.mem_of_getElem? (i := 107) rfl)) (hw _ (List.mem_of_getElem? (i := 106) rfl)) (by decide) (by decide)) (g := (mkF m 36 #[.val (.ref r0), .val (.ref r1), .val (.int (0 : Int32)), .val (.int nn), .val .null, .unset] [(.int nn), (.int (0 : Int32)), (.ref r1)])) rfl (by rw [hml]; rfl) (argsL := [(.ref r1), (.int (0 : Int32)), (.int nn)]) (rest := []) (lenOf pd__28_5bCII_29_5bB rfl) rfl (by show 2 * 0 + _ ≤ _; exact Nat.le_of_eq rfl) (hb hby d3_36) (fun _ _ => ⟨rfl, e27, (by decide : 0 + 1 ≤ _), (by decide : 0 + 2 ≤ _)⟩)
    dsimp only [Pt.U, Pt.locs, Pt.cells, Pt.slots] at X28 l28 y28 z28 st28 hQ28
    subst l28 y28 z28
    obtain ⟨b28, k28v, rfl, N28q, K28, sy28, E28v, V28⟩ := hQ28
    have sz_b28 : h0.size ≤ b28 := Nat.le_trans K0.1 sy28
    have g_b28 : n0 ≤ b28 := Nat.le_trans Z0 sz_b28
    have ne_r0_b28 : r0 ≠ b28 := Nat.ne_of_lt (Nat.lt_of_lt_of_le E_r0.lt sy28)
    have ne_r1_b28 : r1 ≠ b28 := Nat.ne_of_lt (Nat.lt_of_lt_of_le Vr.lt sy28)
    obtain ⟨_, X28, N28⟩ := own_hide X28 (Fr.app N0 N28q)
    refine own_st st28 ?_
    show own_Go _ _ _ _ T28 (mkF m 39 #[.val (.ref r0), .val (.ref r1), .val (.int (0 : Int32)), .val (.int nn), .val .null, .unset] [(.ref b28)])
    refine own_st (fun t k => XS.astore X28.here hx rfl (hb hby d3_39) rfl rfl (l' := #[.val (.ref r0), .val (.ref r1), .val (.int (0 : Int32)), .val (.int nn), .val .null, .val (.ref b28)]) rfl k) ?_
    show own_Go _ _ _ _ T28 (mkF m 41 #[.val (.ref r0), .val (.ref r1), .val (.int (0 : Int32)), .val (.int nn), .val .null, .val (.ref b28)] [])
    refine own_st (fun t k => XS.aloadN X28.here hx rfl (hb hby d3_41) rfl rfl k) ?_
    show own_Go _ _ _ _ T28 (mkF m 42 #[.val (.ref r0), .val (.ref r1), .val (.int (0 : Int32)), .val (.int nn), .val .null, .val (.ref b28)] [(.ref r0)])
    refine own_st (fun t k => XS.aload X28.here hx rfl (hb hby d3_42) rfl rfl k) ?_
    show own_Go _ _ _ _ T28 (mkF m 44 #[.val (.ref r0), .val (.ref r1), .val (.int (0 : Int32)), .val (.int nn), .val .null, .val (.ref b28)] [(.ref b28), (.ref r0)])
    refine own_st (fun t k => XS.iloadN X28.here hx rfl (hb hby d3_44) rfl k) ?_
    show own_Go _ _ _ _ T28 (mkF m 45 #[.val (.ref r0), .val (.ref r1), .val (.int (0 : Int32)), .val (.int nn), .val .null, .val (.ref b28)] [(.int nn), (.ref b28), (.ref r0)])
    have K0_30 := (K0.trans K28 (all0))
    obtain ⟨_, _, ⟨T29, L29, k29, n29⟩, -, X29, ⟨Lc29, hQ29, l29, y29, z29⟩, st29⟩ := Jvm.LawKit.callS X28 hx (y := (⟨"java/lang/StringUTF16", "coderFromArrayLen", "([BI)B"⟩ : MethodName)) hown (mvT hZ (hw _ (List.mem_of_getElem? (i := 111) rfl))) (mvT hZ (hw _ (List.mem_of_getElem? (i := 112) rfl))) (mvT hZ (hw _ (List.mem_of_getElem? (i := 106) rfl))) (mvT hZ (hw _ (List.mem_of_getElem? (i := 113) rfl))) (by decide) (backOf (W := 1) (rm19 l Z a0 hw [] b28 nn k28v (nar .byte (c0.toInt8.toInt32)) (nar .byte (c1.toInt8.toInt32))  T28.heap n0 (Nat.le_trans Z0 K0_30.1) V28) hZ (hw _ (List.mem_of_getElem? (i := 113) rfl)) (hw _ (List.mem_of_getElem? (i := 106) rfl)) (by decide) (by decide)) (g := (mkF m 45 #[.val (.ref r0), .val (.ref r1), .val (.int (0 : Int32)), .val (.int nn), .val .null, .val (.ref b28)] [(.int nn), (.ref b28), (.ref r0)])) rfl (by rw [hml]; rfl) (argsL := [(.ref b28), (.int nn)]) (rest := [(.ref r0)]) (lenOf pd__28_5bBI_29B rfl) rfl (by show 2 * 0 + _ ≤ _; exact Nat.le_of_eq rfl) (hb hby d3_45) (fun _ _ => ⟨rfl, rfl, (by decide : 1 + 0 ≤ _), (by decide : 2 + 0 ≤ _)⟩)
    dsimp only [Pt.U, Pt.locs, Pt.cells, Pt.slots] at X29 l29 y29 z29 st29 hQ29
    subst l29 y29 z29
    obtain ⟨rfl, N29q, e29⟩ := hQ29
    obtain ⟨_, X29, N29⟩ := own_hide X29 (Fr.app N28 N29q)
    refine own_st st29 ?_
    show own_Go _ _ _ _ T29 (mkF m 48 #[.val (.ref r0), .val (.ref r1), .val (.int (0 : Int32)), .val (.int nn), .val .null, .val (.ref b28)] [(.int (0 : Int32)), (.ref r0)])
    have F_coder_r0_31 := (F_coder_r0.keep K28 nin0)
    have E_r0_32 := (E_r0.keep K28)
    obtain ⟨T33, h33, X33, e33, W33, st33⟩ := putFN X29 hx hZ hown (hw _ (List.mem_of_getElem? (i := 25) rfl)) Via.refl e29 F_coder_r0_31 E_r0_32 (Or.inr ⟨(hw _ (List.mem_of_getElem? (i := 21) rfl)), rfl, hnm⟩) (hw _ (List.mem_of_getElem? (i := 1) rfl)) (ty := .byte) (v' := (.int (nar .byte (0 : Int32)))) (by decide) rfl (fits_nar_byte _) (g := (mkF m 48 #[.val (.ref r0), .val (.ref r1), .val (.int (0 : Int32)), .val (.int nn), .val .null, .val (.ref b28)] [(.int (0 : Int32)), (.ref r0)])) rfl rfl (hb hby d3_48)
    have F33 := F_coder_r0_31.same W33
    obtain ⟨_, X33, N33⟩ := own_hide X33 (Fr.snoc X33 N29 g_r0)
    refine own_st st33 ?_
    show own_Go _ _ _ _ T33 (mkF m 51 #[.val (.ref r0), .val (.ref r1), .val (.int (0 : Int32)), .val (.int nn), .val .null, .val (.ref b28)] [])
    refine own_st (fun t k => XS.aloadN X33.here hx rfl (hb hby d3_51) rfl rfl k) ?_
    show own_Go _ _ _ _ T33 (mkF m 52 #[.val (.ref r0), .val (.ref r1), .val (.int (0 : Int32)), .val (.int nn), .val .null, .val (.ref b28)] [(.ref r0)])
    refine own_st (fun t k => XS.aload X33.here hx rfl (hb hby d3_52) rfl rfl k) ?_
    show own_Go _ _ _ _ T33 (mkF m 54 #[.val (.ref r0), .val (.ref r1), .val (.int (0 : Int32)), .val (.int nn), .val .null, .val (.ref b28)] [(.ref b28), (.ref r0)])
    have F_value_r0_34 := ((F_value_r0.keep K28 nin0).other W33 (Or.inr (slot_ne (Or.inr (hw _ (List.mem_of_getElem? (i := 20) rfl))) (Or.inr (hw _ (List.mem_of_getElem? (i := 21) rfl))) (by decide) (t := (.array .byte)) (t' := .byte) (by decide) (by decide))))
    have E_r0_35 := (E_r0_32.wr W33)
    have K0_36 := (K0_30.wr W33 (Or.inl (List.mem_of_getElem? (i := 0) rfl)))
    obtain ⟨T37, h37, X37, e37, W37, st37⟩ := putF X33 hx hZ hown (host := "") (Or.inl (hw _ (List.mem_of_getElem? (i := 24) rfl))) Via.refl e33 F_value_r0_34 E_r0_35 (Or.inr ⟨(hw _ (List.mem_of_getElem? (i := 20) rfl)), rfl, hnm⟩) (hw _ (List.mem_of_getElem? (i := 1) rfl)) (ty := (.array .byte)) (by decide) rfl rfl (g := (mkF m 54 #[.val (.ref r0), .val (.ref r1), .val (.int (0 : Int32)), .val (.int nn), .val .null, .val (.ref b28)] [(.ref b28), (.ref r0)])) rfl rfl (hb hby d3_54)
    have F37 := F_value_r0_34.same W37
    obtain ⟨_, X37, N37⟩ := own_hide X37 (Fr.snoc X37 N33 g_r0)
    refine own_st st37 ?_
    show own_Go _ _ _ _ T37 (mkF m 57 #[.val (.ref r0), .val (.ref r1), .val (.int (0 : Int32)), .val (.int nn), .val .null, .val (.ref b28)] [])
    have V28_38 := ((V28.other W33 (Ne.symm ne_r0_b28)).other W37 (Ne.symm ne_r0_b28))
    have E28v_39 := ((E28v.wr W33).wr W37)
    have K0_40 := (K0_36.wr W37 (Or.inl (List.mem_of_getElem? (i := 0) rfl)))
    have F_hash_r0_41 := (((F_hash_r0.keep K28 nin0).other W33 (Or.inr (slot_ne (Or.inl (hw _ (List.mem_of_getElem? (i := 69) rfl))) (Or.inr (hw _ (List.mem_of_getElem? (i := 21) rfl))) (by decide) (t := .int) (t' := .byte) (by decide) (by decide)))).other W37 (Or.inr (slot_ne (Or.inl (hw _ (List.mem_of_getElem? (i := 69) rfl))) (Or.inr (hw _ (List.mem_of_getElem? (i := 20) rfl))) (by decide) (t := .int) (t' := (.array .byte)) (by decide) (by decide))))
    have F_hashIsZero_r0_42 := (((F_hashIsZero_r0.keep K28 nin0).other W33 (Or.inr (slot_ne (Or.inl (hw _ (List.mem_of_getElem? (i := 71) rfl))) (Or.inr (hw _ (List.mem_of_getElem? (i := 21) rfl))) (by decide) (t := .boolean) (t' := .byte) (by decide) (by decide)))).other W37 (Or.inr (slot_ne (Or.inl (hw _ (List.mem_of_getElem? (i := 71) rfl))) (Or.inr (hw _ (List.mem_of_getElem? (i := 20) rfl))) (by decide) (t := .boolean) (t' := (.array .byte)) (by decide) (by decide))))
    have F33_coder_43 := (F33.other W37 (Or.inr (slot_ne (Or.inr (hw _ (List.mem_of_getElem? (i := 21) rfl))) (Or.inr (hw _ (List.mem_of_getElem? (i := 20) rfl))) (by decide) (t := .byte) (t' := (.array .byte)) (by decide) (by decide))))
    have hk0_44 := (Nat.le_trans (Nat.le_trans (Nat.le_trans hk0 K28.1) (Nat.le_of_eq W33.size.symm)) (Nat.le_of_eq W37.size.symm))
    have Ch_45 := (C0.trans (CHr.keep K28 (all0) C0.1))
    have Ch_46 := (Ch_45.trans (CHr.wr W33 (Ch_45.safe E_r0.lt S0) Ch_45.1))
    have Ch_47 := (Ch_46.trans (CHr.wr W37 (Ch_46.safe E_r0.lt S0) Ch_46.1))
    have Ch_48 := Ch_47
    exact own_retVH X37 hS0 (by rw [e37]; exact hk0_44) hx hlk hrt (hb hby d3_57) (by rw [e37]; exact ⟨rfl, N37, K0_40, b28, k28v, F_hash_r0_41, F_hashIsZero_r0_42, F37, F33_coder_43, V28_38, (fun _ => E28v_39), (Ne.symm ne_r0_b28)⟩) (by decide) (by decide) hZ (own_ew hw) (by rw [e37, hh]; exact Ch_48)
theorem pd__28_5bCIILjava_2flang_2fVoid_3b_29V : parseMethodDescriptor "([CIILjava/lang/Void;)V" = some ⟨[(.array .char), .int, .int, (.object "java/lang/Void")], none⟩ := by decide +kernel
/-! body 2: String.<init> -/
theorem d2_0 : decode jdk_42_method_3_code 0 = .ok (.aload_n 0, 1) := by decide +kernel
theorem d2_1 : decode jdk_42_method_3_code 1 = .ok (.aload_n 1, 1) := by decide +kernel
theorem d2_2 : decode jdk_42_method_3_code 2 = .ok (.iconst 0, 1) := by decide +kernel
theorem d2_3 : decode jdk_42_method_3_code 3 = .ok (.aload_n 1, 1) := by decide +kernel
theorem d2_4 : decode jdk_42_method_3_code 4 = .ok (.arraylength, 1) := by decide +kernel
theorem d2_5 : decode jdk_42_method_3_code 5 = .ok (.aconst_null, 1) := by decide +kernel
theorem d2_6 : decode jdk_42_method_3_code 6 = .ok (.invokespecial 27, 3) := by decide +kernel
theorem d2_9 : decode jdk_42_method_3_code 9 = .ok (.return_, 1) := by decide +kernel
theorem ef_2 (m : MethodId) (x0 : Addr) (x1 : Addr) : entryFrame m #[(.ref x0), (.ref x1)] 2 = mkF m 0 #[.val (.ref x0), .val (.ref x1)] [] := by first | (simp [entryFrame, mkF, argsToLocals, Value.category]; done) | rfl
def Q2 (Z : State) (r0 : Addr) (r1 : Addr) (nn : Int32) (kr : ClassId) (c0 : Int32) (c1 : Int32) (cs : Int32) (ca : Addr) (cc : Cell) (h0 : Heap) (n0 : Nat) (v : Option Value) (h : Heap) (L : List Loc) : Prop := v = none ∧ Fr n0 L ∧ Keep h0 h [r0] ∧ ∃ (b : Addr) (k : ClassId), Fld Z h r0 "java/lang/String" "hash" "I" (.int (0 : Int32)) ∧ Fld Z h r0 "java/lang/String" "hashIsZero" "Z" (.int (0 : Int32)) ∧ Fld Z h r0 "java/lang/String" "value" "[B" (.ref b) ∧ Fld Z h r0 "java/lang/String" "coder" "B" (.int (0 : Int32)) ∧ Arv Z h b k .byte nn [(.int (nar .byte (c0.toInt8.toInt32))), (.int (nar .byte (c1.toInt8.toInt32)))] (.int (0 : Int32)) ∧ (nn = (2 : Int32) → Exa Z h b "[B") ∧ b ≠ r0
set_option maxRecDepth 65536 in
set_option maxHeartbeats 40000000 in
theorem rm2 (l : Launch) (Z : State) (a0 : Array Value) (hw : ∀ d ∈ tables_1, d.before a0 Z = true) (ws : List Jvm.Cond) (r0 : Addr) (r1 : Addr) (nn : Int32) (kr : ClassId) (c0 : Int32) (c1 : Int32) (cs : Int32) (ca : Addr) (cc : Cell) (h0 : Heap) (n0 : Nat) (Z0 : n0 ≤ h0.size) (E_r0 : Exa Z h0 r0 "java/lang/String") (F_hash_r0 : Fld Z h0 r0 "java/lang/String" "hash" "I" (.int (0 : Int32))) (F_hashIsZero_r0 : Fld Z h0 r0 "java/lang/String" "hashIsZero" "Z" (.int (0 : Int32))) (F_value_r0 : Fld Z h0 r0 "java/lang/String" "value" "[B" .null) (F_coder_r0 : Fld Z h0 r0 "java/lang/String" "coder" "B" (.int (0 : Int32))) (g_r0 : n0 ≤ r0) (Vr : Arv Z h0 r1 kr .char nn [(.int c0), (.int c1)] (.int (0 : Int32))) (hn : own_012 nn) (hc0 : ¬ (255 : Int32) < c0) (hc1 : ¬ (255 : Int32) < c1) (G : own_G Z cs ca cc) (O0 : Old Z n0 h0) (nr10 : r1 ≠ r0) :
    MetFree l (⟨"java/lang/String", "<init>", "([C)V"⟩ : MethodName) (head1 (Jvm.Cond.code (⟨"java/lang/String", "<init>", "([C)V"⟩ : MethodName) jdk_42_method_3_code 2 none :: ws) ({ frames := 3, cells := 4, slots := 8, locals := 52 } : Room)) (fun a U => a = #[(.ref r0), (.ref r1)] ∧ Z.Warmed39 U.vm ∧ U.heap = h0 ∧ CHv Z own_EL U.vm h0) (fun _ _ _ _ _ => True) (fun _ U o U' => ∃ v L, o = .returned v ∧ Q2 Z r0 r1 nn kr c0 c1 cs ca cc h0 n0 v U'.heap L ∧ CHr Z own_EL U.vm U.heap U'.vm U'.heap ∧ ReturnedEndW U o U' L ({ frames := 3, cells := 4, slots := 8, locals := 52 } : Room).cells ({ frames := 3, cells := 4, slots := 8, locals := 52 } : Room).slots) := by
  refine MetFree.of_bodySF (plainFor_of_name pn_java_lang_String) hisR ?_
  intro p e s m args below meth c s₁ Bd hml0 hP hK
  obtain ⟨rfl, hZ, hh, hC⟩ := hP
  have hx := Bd.exec
  have hby := Bd.bytes
  have hlk := Bd.notSynchronized
  have hrt := Bd.returns
  have hml : c.maxLocals = 2 := hml0
  have hown : s.vm.findClass "java/lang/String" = some m.cls := findClass_of_methodNamed Bd.named
  have hnm := (name_of_methodNamed Bd.named Bd.method).1
  have X0 : Stand p l e ({ frames := 3, cells := 4, slots := 8, locals := 52 } : Room) (s.setVm s.vm) m #[(.ref r0), (.ref r1)] below meth c s₁ [] 0 0 := Stand.of_body Bd
  have e0 : s₁.heap = h0 := by rw [← hh, Bd.state]; rfl
  have N0 := Fr.nil n0
  have K0 := Keep.refl h0 [r0]
  have hS0 : s.Since s.vm 0 := (State.WarmedH.refl s).since 0
  have hk0 : 0 ≤ h0.size := Nat.zero_le _
  have C0 : CHr Z own_EL s.vm h0 s.vm h0 := CHr.refl hC
  have S0 : Safe Z own_EL s.vm h0 r0 := own_safe hZ.alike E_r0 F_value_r0
  refine own_outH (Q := Q2 Z r0 r1 nn kr c0 c1 cs ca cc h0 n0) ?_
  refine own_in (ef_2 m r0 r1) ?_
  show own_Go _ _ _ _ s₁ (mkF m 0 #[.val (.ref r0), .val (.ref r1)] [])
  refine own_st (fun t k => XS.aloadN X0.here hx rfl (hb hby d2_0) rfl rfl k) ?_
  show own_Go _ _ _ _ s₁ (mkF m 1 #[.val (.ref r0), .val (.ref r1)] [(.ref r0)])
  refine own_st (fun t k => XS.aloadN X0.here hx rfl (hb hby d2_1) rfl rfl k) ?_
  show own_Go _ _ _ _ s₁ (mkF m 2 #[.val (.ref r0), .val (.ref r1)] [(.ref r1), (.ref r0)])
  refine own_st (fun t k => XS.iconst X0.here hx rfl (hb hby d2_2) k) ?_
  show own_Go _ _ _ _ s₁ (mkF m 3 #[.val (.ref r0), .val (.ref r1)] [(.int (0 : Int32)), (.ref r1), (.ref r0)])
  refine own_st (fun t k => XS.aloadN X0.here hx rfl (hb hby d2_3) rfl rfl k) ?_
  show own_Go _ _ _ _ s₁ (mkF m 4 #[.val (.ref r0), .val (.ref r1)] [(.ref r1), (.int (0 : Int32)), (.ref r1), (.ref r0)])
  obtain ⟨cl1, Ar1, qk1, Sz1, Nn1, Hs1, Gf1⟩ := id Vr
  refine own_st (X0.arraylength hx (by rw [e0]; exact Ar1.1) (State.isArrayOf_alike hZ.alike Ar1.2.1) (g := (mkF m 4 #[.val (.ref r0), .val (.ref r1)] [(.ref r1), (.int (0 : Int32)), (.ref r1), (.ref r0)])) rfl rfl (hb hby d2_4)) ?_
  rw [len_of Sz1 Nn1]
  show own_Go _ _ _ _ s₁ (mkF m 5 #[.val (.ref r0), .val (.ref r1)] [(.int nn), (.int (0 : Int32)), (.ref r1), (.ref r0)])
  refine own_st (fun t k => XS.aconstNull X0.here hx rfl (hb hby d2_5) k) ?_
  show own_Go _ _ _ _ s₁ (mkF m 6 #[.val (.ref r0), .val (.ref r1)] [.null, (.int nn), (.int (0 : Int32)), (.ref r1), (.ref r0)])
  obtain ⟨_, _, ⟨T2, L2, k2, n2⟩, -, X2, hs2, hg2, ⟨Lc2, hQ2, l2, y2, z2, hC2⟩, st2⟩ := X0.specialBackS hx (y := (⟨"java/lang/String", "<init>", "([CIILjava/lang/Void;)V"⟩ : MethodName)) rfl hown (mvT hZ (hw _ (List.mem_of_getElem? (i := 11) rfl))) (mvT hZ (hw _ (List.mem_of_getElem? (i := 12) rfl))) (mvT hZ (hw _ (List.mem_of_getElem? (i := 14) rfl))) (by decide) (backOfSH (W := 0) (rm3 l Z a0 hw [] r0 r1 nn kr c0 c1 cs ca cc  h0 n0 Z0 E_r0 F_hash_r0 F_hashIsZero_r0 F_value_r0 F_coder_r0 g_r0 Vr hn hc0 hc1 G O0 nr10) hZ (hw _ (List.mem_of_getElem? (i := 14) rfl)) (hw _ (List.mem_of_getElem? (i := 2) rfl)) (by decide) (by decide) (own_ew hw) C0.1) (g := (mkF m 6 #[.val (.ref r0), .val (.ref r1)] [.null, (.int nn), (.int (0 : Int32)), (.ref r1), (.ref r0)])) rfl (by rw [hml]; rfl) (Steps.refl _) (a := r0) (argsL := [(.ref r1), (.int (0 : Int32)), (.int nn), .null]) (rest := []) (lenOf pd__28_5bCIILjava_2flang_2fVoid_3b_29V rfl) rfl (by show 2 * 0 + _ ≤ _; exact Nat.le_of_eq rfl) (hb hby d2_6) (fun _ _ => ⟨rfl, e0, (by decide : 0 + 4 ≤ _), (by decide : 0 + 8 ≤ _)⟩)
  dsimp only [Pt.U, Pt.locs, Pt.cells, Pt.slots] at X2 l2 y2 z2 st2 hQ2 hs2 hg2
  subst l2 y2 z2
  obtain ⟨rfl, N2q, K2, b2, k2v, S2a, S2b, S2c, S2d, V2, P2, nb2⟩ := hQ2
  obtain ⟨_, X2, N2⟩ := own_hide X2 (Fr.app N0 N2q)
  have X2 := own_fold X2
  have hS2 := foldS hS0 (by rw [e0]; exact hk0) hs2 hg2
  have hZ2 : Z.Warmed39 (s.setVm T2.vm).vm := own_wz hZ hs2
  have hown2 : (s.setVm T2.vm).vm.findClass "java/lang/String" = some m.cls := own_wo hown hs2
  have Ch_2 := CHr.trans C0 hC2
  refine own_tr st2 ?_
  show own_Go _ _ _ _ T2 (mkF m 9 #[.val (.ref r0), .val (.ref r1)] [])
  have K0_3 := (K0.trans K2 (allS ((Or.inl (List.mem_of_getElem? (i := 0) rfl))) all0))
  exact own_retVH X2 hS2 (Nat.le_refl T2.heap.size) hx hlk hrt (hb hby d2_9) ⟨rfl, N2, K0_3, b2, k2v, S2a, S2b, S2c, S2d, V2, P2, nb2⟩ (by decide) (by decide) hZ2 (own_ew hw) (by rw [hh]; exact Ch_2)
def own_ch (x : Int32) : Prop := ∃ i : Fin 256, x = Int32.ofNat i.val
theorem own_and255 (x : Int32) : ∃ i : Fin 256, (x &&& (255 : Int32)) = Int32.ofNat i.val := by
  have h := c_and x (255 : Int32) (by decide)
  simp only [Int32.reduceToInt] at h
  refine ⟨⟨(x &&& (255 : Int32)).toInt.toNat, by omega⟩, Int32.toInt_inj.mp ?_⟩
  rw [Int32.toInt_ofNat_small (by show (x &&& (255 : Int32)).toInt.toNat < 2 ^ 31; omega)]
  show _ = ((x &&& (255 : Int32)).toInt.toNat : Int)
  omega
theorem own_ch_of (x : Int32) : own_ch ((x &&& (255 : Int32)).toUInt32.toUInt16.toUInt32.toInt32) := by
  obtain ⟨i, h⟩ := own_and255 x
  exact ⟨i, by rw [h]; exact (by decide +kernel : ∀ i : Fin 256, (Int32.ofNat i.val).toUInt32.toUInt16.toUInt32.toInt32 = Int32.ofNat i.val) i⟩
theorem own_c255 {x : Int32} (h : own_ch x) : ¬ (255 : Int32) < (nar .char x) := by
  obtain ⟨i, rfl⟩ := h
  exact (by decide +kernel : ∀ i : Fin 256, ¬ (255 : Int32) < (nar .char (Int32.ofNat i.val))) i
theorem own_back {x : Int32} (h : own_ch x) : (nar .byte ((nar .char x).toInt8.toInt32)) &&& (255 : Int32) = x := by
  obtain ⟨i, rfl⟩ := h
  exact (by decide +kernel : ∀ i : Fin 256, (nar .byte ((nar .char (Int32.ofNat i.val)).toInt8.toInt32)) &&& (255 : Int32) = Int32.ofNat i.val) i
theorem own_inj {x y : Int32} (hx : own_ch x) (hy : own_ch y) : ((nar .byte ((nar .char x).toInt8.toInt32)) = (nar .byte ((nar .char y).toInt8.toInt32))) ↔ x = y :=
  ⟨fun q => by rw [← own_back hx, ← own_back hy, q], fun q => by rw [q]⟩
theorem own_len (x : Int32) : own_012 ((x &&& (3 : Int32)) % (3 : Int32)) := by
  have h := c_and x (3 : Int32) (by decide)
  have q := (c_irem (x &&& (3 : Int32)) (3 : Int32) 3 rfl).1 h.1
  simp only [Int32.reduceToInt] at h
  have r : ((x &&& (3 : Int32)) % (3 : Int32)).toInt = 0 ∨ ((x &&& (3 : Int32)) % (3 : Int32)).toInt = 1 ∨ ((x &&& (3 : Int32)) % (3 : Int32)).toInt = 2 := by omega
  rcases r with r | r | r
  · exact Or.inl (Int32.toInt_inj.mp r)
  · exact Or.inr (Or.inl (Int32.toInt_inj.mp r))
  · exact Or.inr (Or.inr (Int32.toInt_inj.mp r))
theorem own_nn (x : Int32) : ¬ ((x &&& (2147483647 : Int32)) < (0 : Int32)) := by
  have h := c_and x (2147483647 : Int32) (by decide)
  rw [Int32.lt_iff_toInt_lt]
  simp only [Int32.reduceToInt]
  omega
theorem own_nn2 (x y : Int32) (P : Prop) [Decidable P] : ¬ ((if P then (x &&& (2147483647 : Int32)) else (y &&& (2147483647 : Int32))) < (0 : Int32)) := by
  split
  · exact own_nn x
  · exact own_nn y
theorem own_lt12 {z : Int32} (h : z < (1 : Int32)) : z < (2 : Int32) := by
  rw [Int32.lt_iff_toInt_lt] at *
  simp only [Int32.reduceToInt] at *
  omega
theorem own_self (sa : Addr) (aa na nb u0 u1 w0 w1 : Int32) : own_re sa aa sa aa na nb u0 u1 w0 w1 = 1 := by simp [own_re, own_se]
theorem own_sym (sa sb : Addr) (aa ab na nb u0 u1 w0 w1 : Int32) : own_re sb ab sa aa nb na w0 w1 u0 u1 = own_re sa aa sb ab na nb u0 u1 w0 w1 := by
  have e0 : (w0 = u0) = (u0 = w0) := propext eq_comm
  have e1 : (w1 = u1) = (u1 = w1) := propext eq_comm
  have e2 : (sb = sa) = (sa = sb) := propext eq_comm
  have e3 : (ab = aa) = (aa = ab) := propext eq_comm
  by_cases h : na = nb
  · subst h
    simp only [own_re, own_se, own_le, e0, e1, e2, e3]
  · have h' : ¬ nb = na := fun q => h q.symm
    simp only [own_re, own_se, own_le, if_neg h, if_neg h', e2, e3]
theorem own_lt0 {z : Int32} (h : own_012 z) : (0 : Int32) < z ↔ ¬ z < (1 : Int32) := by rcases h with rfl | rfl | rfl <;> decide
theorem own_lt1 {z : Int32} (h : own_012 z) : (1 : Int32) < z ↔ ¬ z < (2 : Int32) := by rcases h with rfl | rfl | rfl <;> decide
theorem own_key {sa sb : Addr} {aa ab na nb x0 x1 y0 y1 : Int32} (ne : sa ≠ sb) (hn : own_012 na) (hx0 : own_ch x0) (hx1 : own_ch x1) (hy0 : own_ch y0) (hy1 : own_ch y1) :
    own_re sa aa sb ab na nb (nar .byte ((nar .char x0).toInt8.toInt32)) (nar .byte ((nar .char x1).toInt8.toInt32)) (nar .byte ((nar .char y0).toInt8.toInt32)) (nar .byte ((nar .char y1).toInt8.toInt32)) = if (na = nb ∧ (na < (1 : Int32) ∨ x0 = y0) ∧ (na < (2 : Int32) ∨ x1 = y1)) ∧ aa = ab then 1 else 0 := by
  simp only [own_re, own_se, own_le, if_neg ne, own_inj hx0 hy0, own_inj hx1 hy1, own_lt0 hn, own_lt1 hn]
  by_cases h1 : na = nb
  · subst h1
    by_cases h2 : na < (1 : Int32)
    · simp [h2, own_lt12 h2]
    · by_cases h3 : x0 = y0
      · by_cases h4 : na < (2 : Int32)
        · simp [h2, h3, h4]
        · by_cases h5 : x1 = y1
          · simp [h2, h3, h4, h5]
          · simp [h2, h3, h4, h5]
      · simp [h2, h3]
  · simp [h1]

theorem pd__28ICC_29_5bC : parseMethodDescriptor "(ICC)[C" = some ⟨[.int, .char, .char], some (.array .char)⟩ := by decide +kernel
theorem pd__28_5bC_29V : parseMethodDescriptor "([C)V" = some ⟨[(.array .char)], none⟩ := by decide +kernel
theorem pd__28Ljava_2flang_2fString_3bI_29V : parseMethodDescriptor "(Ljava/lang/String;I)V" = some ⟨[(.object "java/lang/String"), .int], none⟩ := by decide +kernel
/-! body 0: RelationEqualsPinLaw.law -/
theorem ef_0 (m : MethodId) (x0 : Int32) (x1 : Int32) (x2 : Int32) (x3 : Int32) (x4 : Int32) (x5 : Int32) : entryFrame m #[(.int x0), (.int x1), (.int x2), (.int x3), (.int x4), (.int x5)] maxLocals = mkF m 0 #[.val (.int x0), .val (.int x1), .val (.int x2), .val (.int x3), .val (.int x4), .val (.int x5), .unset, .unset, .unset, .unset, .unset, .unset, .unset, .unset, .unset, .unset, .unset, .unset, .unset, .unset, .unset, .unset, .unset] [] := by first | (simp [entryFrame, mkF, argsToLocals, Value.category, maxLocals]; done) | rfl
def Q0 (Z : State) (p0 : Int32) (p1 : Int32) (p2 : Int32) (p3 : Int32) (p4 : Int32) (p5 : Int32) (cs : Int32) (ca : Addr) (cc : Cell) (h0 : Heap) (n0 : Nat) (v : Option Value) (h : Heap) (L : List Loc) : Prop := v = some (.int (1 : Int32)) ∧ Fr n0 L
set_option maxRecDepth 65536 in
set_option maxHeartbeats 40000000 in
theorem rm0 (l : Launch) (Z : State) (a0 : Array Value) (hw : ∀ d ∈ tables_1, d.before a0 Z = true) (ws : List Jvm.Cond) (p0 : Int32) (p1 : Int32) (p2 : Int32) (p3 : Int32) (p4 : Int32) (p5 : Int32) (cs : Int32) (ca : Addr) (cc : Cell) (h0 : Heap) (n0 : Nat) (Z0 : n0 ≤ h0.size) (G : own_G Z cs ca cc) (O0 : Old Z n0 h0) :
    MetFree l x (head1 (Jvm.Cond.code x code maxLocals ret :: ws) room_1) (fun a U => a = #[(.int p0), (.int p1), (.int p2), (.int p3), (.int p4), (.int p5)] ∧ Z.Warmed39 U.vm ∧ U.heap = h0 ∧ CHv Z own_EL U.vm h0) (fun _ _ _ _ _ => True) (fun _ U o U' => ∃ v L, o = .returned v ∧ Q0 Z p0 p1 p2 p3 p4 p5 cs ca cc h0 n0 v U'.heap L ∧ ReturnedEndW U o U' L 22 80) := by
  refine MetFree.of_bodySF (plainFor_of_name pn_com_example_libhorn_libhorn_data_RelationEqualsPinLaw) hisR ?_
  intro p e s m args below meth c s₁ Bd hml0 hP hK
  obtain ⟨rfl, hZ, hh, hC⟩ := hP
  have hx := Bd.exec
  have hby := Bd.bytes
  have hlk := Bd.notSynchronized
  have hrt := Bd.returns
  have hml : c.maxLocals = 23 := hml0
  have hown : s.vm.findClass "com/example/libhorn/libhorn/data/RelationEqualsPinLaw" = some m.cls := findClass_of_methodNamed Bd.named
  have hnm := (name_of_methodNamed Bd.named Bd.method).1
  have X0 : Stand p l e room_1 (s.setVm s.vm) m #[(.int p0), (.int p1), (.int p2), (.int p3), (.int p4), (.int p5)] below meth c s₁ [] 0 0 := Stand.of_body Bd
  have e0 : s₁.heap = h0 := by rw [← hh, Bd.state]; rfl
  have N0 := Fr.nil n0
  have K0 := Keep.refl h0 []
  have hS0 : s.Since s.vm 0 := (State.WarmedH.refl s).since 0
  have hk0 : 0 ≤ h0.size := Nat.zero_le _
  have C0 : CHr Z own_EL s.vm h0 s.vm h0 := CHr.refl hC
  refine own_outW (Q := Q0 Z p0 p1 p2 p3 p4 p5 cs ca cc h0 n0) ?_
  refine own_in (ef_0 m p0 p1 p2 p3 p4 p5) ?_
  have JG115 : ∀ (sn : Int32) (sy : Int32) (la : Int32) (xa : Int32) (xb : Int32) (lb : Int32) (ya : Int32) (yb : Int32) (TJ : State) (XJ : Stand p l e room_1 (s.setVm s.vm) m #[(.int p0), (.int p1), (.int p2), (.int p3), (.int p4), (.int p5)] below meth c TJ [] 0 0) (eJ : TJ.heap = h0), (own_012 la) → (own_012 lb) → (own_ch xa) → (own_ch xb) → (own_ch ya) → (own_ch yb) → own_Go p.tables e below (own_FinW below s (Q0 Z p0 p1 p2 p3 p4 p5 cs ca cc h0 n0) 22 80) TJ (mkF m 115 #[.val (.int p0), .val (.int p1), .val (.int p2), .val (.int p3), .val (.int p4), .val (.int p5), .val (.int sn), .val (.int sy), .val (.int la), .val (.int xa), .val (.int xb), .val (.int lb), .val (.int ya), .val (.int yb), .unset, .unset, .unset, .unset, .unset, .unset, .unset, .unset, .unset] []) := by
    intro sn sy la xa xb lb ya yb TJ XJ eJ hla hlb hxa hxb hya hyb
    show own_Go _ _ _ _ TJ (mkF m 115 #[.val (.int p0), .val (.int p1), .val (.int p2), .val (.int p3), .val (.int p4), .val (.int p5), .val (.int sn), .val (.int sy), .val (.int la), .val (.int xa), .val (.int xb), .val (.int lb), .val (.int ya), .val (.int yb), .unset, .unset, .unset, .unset, .unset, .unset, .unset, .unset, .unset] [])
    obtain ⟨T1, h1, X1, e1, E1, A1, D1, -, st1⟩ := newO XJ hx hZ hown (hw _ (List.mem_of_getElem? (i := 0) rfl)) (hw _ (List.mem_of_getElem? (i := 1) rfl)) (hw _ (List.mem_of_getElem? (i := 2) rfl)) eJ (g := (mkF m 115 #[.val (.int p0), .val (.int p1), .val (.int p2), .val (.int p3), .val (.int p4), .val (.int p5), .val (.int sn), .val (.int sy), .val (.int la), .val (.int xa), .val (.int xb), .val (.int lb), .val (.int ya), .val (.int yb), .unset, .unset, .unset, .unset, .unset, .unset, .unset, .unset, .unset] [])) rfl (hb hby at_115) (by decide) (by decide)
    obtain ⟨b1, g1⟩ : ∃ z, z = h0.size := ⟨_, rfl⟩
    rw [← g1] at A1 D1 st1
    have sz_b1 : h0.size ≤ b1 := Nat.le_trans K0.1 (Nat.le_of_eq g1.symm)
    have g_b1 : n0 ≤ b1 := Nat.le_trans Z0 sz_b1
    have F1_value : Fld Z h1 b1 "java/lang/String" "value" "[B" .null := D1 (Or.inr (hw _ (List.mem_of_getElem? (i := 20) rfl))) (ty := (.array .byte)) (by decide)
    have F1_coder : Fld Z h1 b1 "java/lang/String" "coder" "B" (.int (0 : Int32)) := D1 (Or.inr (hw _ (List.mem_of_getElem? (i := 21) rfl))) (ty := .byte) (by decide)
    have F1_hash : Fld Z h1 b1 "java/lang/String" "hash" "I" (.int (0 : Int32)) := D1 (Or.inl (hw _ (List.mem_of_getElem? (i := 69) rfl))) (ty := .int) (by decide)
    have F1_hashIsZero : Fld Z h1 b1 "java/lang/String" "hashIsZero" "Z" (.int (0 : Int32)) := D1 (Or.inl (hw _ (List.mem_of_getElem? (i := 71) rfl))) (ty := .boolean) (by decide)
    refine own_st st1 ?_
    show own_Go _ _ _ _ T1 (mkF m 118 #[.val (.int p0), .val (.int p1), .val (.int p2), .val (.int p3), .val (.int p4), .val (.int p5), .val (.int sn), .val (.int sy), .val (.int la), .val (.int xa), .val (.int xb), .val (.int lb), .val (.int ya), .val (.int yb), .unset, .unset, .unset, .unset, .unset, .unset, .unset, .unset, .unset] [(.ref b1)])
    refine own_st (fun t k => XS.dup X1.here hx rfl (hb hby at_118) rfl rfl k) ?_
    show own_Go _ _ _ _ T1 (mkF m 119 #[.val (.int p0), .val (.int p1), .val (.int p2), .val (.int p3), .val (.int p4), .val (.int p5), .val (.int sn), .val (.int sy), .val (.int la), .val (.int xa), .val (.int xb), .val (.int lb), .val (.int ya), .val (.int yb), .unset, .unset, .unset, .unset, .unset, .unset, .unset, .unset, .unset] [(.ref b1), (.ref b1)])
    refine own_st (fun t k => XS.iload X1.here hx rfl (hb hby at_119) rfl k) ?_
    refine own_st (fun t k => XS.iload X1.here hx rfl (hb hby at_121) rfl k) ?_
    refine own_st (fun t k => XS.iload X1.here hx rfl (hb hby at_123) rfl k) ?_
    show own_Go _ _ _ _ T1 (mkF m 125 #[.val (.int p0), .val (.int p1), .val (.int p2), .val (.int p3), .val (.int p4), .val (.int p5), .val (.int sn), .val (.int sy), .val (.int la), .val (.int xa), .val (.int xb), .val (.int lb), .val (.int ya), .val (.int yb), .unset, .unset, .unset, .unset, .unset, .unset, .unset, .unset, .unset] [(.int xb), (.int xa), (.int la), (.ref b1), (.ref b1)])
    have K0_3 := (K0.ext E1)
    obtain ⟨_, _, ⟨T2, L2, k2, n2⟩, -, X2, ⟨Lc2, hQ2, l2, y2, z2⟩, st2⟩ := Jvm.LawKit.callS X1 hx (y := (⟨"com/example/libhorn/libhorn/data/RelationEqualsPinLaw", "mk", "(ICC)[C"⟩ : MethodName)) hown (mvT hZ (hw _ (List.mem_of_getElem? (i := 3) rfl))) (mvT hZ (hw _ (List.mem_of_getElem? (i := 4) rfl))) (mvT hZ (hw _ (List.mem_of_getElem? (i := 5) rfl))) (mvT hZ (hw _ (List.mem_of_getElem? (i := 6) rfl))) (by decide) (backOf (W := 2) (rm1 l Z a0 hw [] la xa xb  h1 n0 (Nat.le_trans Z0 K0_3.1) hla) hZ (hw _ (List.mem_of_getElem? (i := 6) rfl)) (hw _ (List.mem_of_getElem? (i := 5) rfl)) (by decide) (by decide)) (g := (mkF m 125 #[.val (.int p0), .val (.int p1), .val (.int p2), .val (.int p3), .val (.int p4), .val (.int p5), .val (.int sn), .val (.int sy), .val (.int la), .val (.int xa), .val (.int xb), .val (.int lb), .val (.int ya), .val (.int yb), .unset, .unset, .unset, .unset, .unset, .unset, .unset, .unset, .unset] [(.int xb), (.int xa), (.int la), (.ref b1), (.ref b1)])) rfl (by rw [hml]; rfl) (argsL := [(.int la), (.int xa), (.int xb)]) (rest := [(.ref b1), (.ref b1)]) (lenOf pd__28ICC_29_5bC rfl) rfl (by show 2 * 0 + _ ≤ _; exact Nat.le_of_eq rfl) (hb hby at_125) (fun _ _ => ⟨rfl, e1, (by decide : 1 + 1 ≤ _), (by decide : 4 + 2 ≤ _)⟩)
    dsimp only [Pt.U, Pt.locs, Pt.cells, Pt.slots] at X2 l2 y2 z2 st2 hQ2
    subst l2 y2 z2
    obtain ⟨b2, k2v, rfl, N2q, K2, sy2, V2⟩ := hQ2
    have sz_b2 : h0.size ≤ b2 := Nat.le_trans K0_3.1 sy2
    have g_b2 : n0 ≤ b2 := Nat.le_trans Z0 sz_b2
    have ne_b1_b2 : b1 ≠ b2 := Nat.ne_of_lt (Nat.lt_of_lt_of_le A1.lt sy2)
    obtain ⟨_, X2, N2⟩ := own_hide X2 (Fr.app N0 N2q)
    refine own_st st2 ?_
    show own_Go _ _ _ _ T2 (mkF m 128 #[.val (.int p0), .val (.int p1), .val (.int p2), .val (.int p3), .val (.int p4), .val (.int p5), .val (.int sn), .val (.int sy), .val (.int la), .val (.int xa), .val (.int xb), .val (.int lb), .val (.int ya), .val (.int yb), .unset, .unset, .unset, .unset, .unset, .unset, .unset, .unset, .unset] [(.ref b2), (.ref b1), (.ref b1)])
    have A1_4 := (A1.keep K2)
    have F1_hash_5 := (F1_hash.keep K2 nin0)
    have F1_hashIsZero_6 := (F1_hashIsZero.keep K2 nin0)
    have F1_value_7 := (F1_value.keep K2 nin0)
    have F1_coder_8 := (F1_coder.keep K2 nin0)
    have O0_9 := ((O0.ext E1).keep K2 (all0))
    have K0_11 := (K0_3.trans K2 (all0))
    have hk0_12 := (Nat.le_trans (Nat.le_trans hk0 E1.1) K2.1)
    have Ch_13 := (C0.trans (CHr.ext E1 C0.1))
    have Ch_14 := (Ch_13.trans (CHr.keep K2 (all0) Ch_13.1))
    have Ch_15 := Ch_14
    obtain ⟨_, _, ⟨T10, L10, k10, n10⟩, -, X10, hs10, hg10, ⟨Lc10, hQ10, l10, y10, z10, hC10⟩, st10⟩ := X2.specialBackS hx (y := (⟨"java/lang/String", "<init>", "([C)V"⟩ : MethodName)) rfl hown (mvT hZ (hw _ (List.mem_of_getElem? (i := 8) rfl))) (mvT hZ (hw _ (List.mem_of_getElem? (i := 9) rfl))) (mvT hZ (hw _ (List.mem_of_getElem? (i := 10) rfl))) (by decide) (backOfSH (W := 1) (rm2 l Z a0 hw [] b1 b2 la k2v (nar .char xa) (nar .char xb) cs ca cc  T2.heap n0 (Nat.le_trans Z0 K0_11.1) A1_4 F1_hash_5 F1_hashIsZero_6 F1_value_7 F1_coder_8 g_b1 V2 hla (own_c255 hxa) (own_c255 hxb) G O0_9 (Ne.symm ne_b1_b2)) hZ (hw _ (List.mem_of_getElem? (i := 10) rfl)) (hw _ (List.mem_of_getElem? (i := 2) rfl)) (by decide) (by decide) (own_ew hw) Ch_15.1) (g := (mkF m 128 #[.val (.int p0), .val (.int p1), .val (.int p2), .val (.int p3), .val (.int p4), .val (.int p5), .val (.int sn), .val (.int sy), .val (.int la), .val (.int xa), .val (.int xb), .val (.int lb), .val (.int ya), .val (.int yb), .unset, .unset, .unset, .unset, .unset, .unset, .unset, .unset, .unset] [(.ref b2), (.ref b1), (.ref b1)])) rfl (by rw [hml]; rfl) (Steps.refl _) (a := b1) (argsL := [(.ref b2)]) (rest := [(.ref b1)]) (lenOf pd__28_5bC_29V rfl) rfl (by show 2 * 0 + _ ≤ _; exact Nat.le_of_eq rfl) (hb hby at_128) (fun _ _ => ⟨rfl, rfl, (by decide : 2 + 4 ≤ _), (by decide : 6 + 8 ≤ _)⟩)
    dsimp only [Pt.U, Pt.locs, Pt.cells, Pt.slots] at X10 l10 y10 z10 st10 hQ10 hs10 hg10
    subst l10 y10 z10
    obtain ⟨rfl, N10q, K10, b10, k10v, S10a, S10b, S10c, S10d, V10, P10, nb10⟩ := hQ10
    obtain ⟨_, X10, N10⟩ := own_hide X10 (Fr.app N2 N10q)
    have X10 := own_fold X10
    have hS10 := foldS hS0 hk0_12 hs10 hg10
    have hZ10 : Z.Warmed39 (s.setVm T10.vm).vm := own_wz hZ hs10
    have hown10 : (s.setVm T10.vm).vm.findClass "com/example/libhorn/libhorn/data/RelationEqualsPinLaw" = some m.cls := own_wo hown hs10
    have Ch_10 := CHr.trans Ch_15 hC10
    refine own_tr st10 ?_
    show own_Go _ _ _ _ T10 (mkF m 131 #[.val (.int p0), .val (.int p1), .val (.int p2), .val (.int p3), .val (.int p4), .val (.int p5), .val (.int sn), .val (.int sy), .val (.int la), .val (.int xa), .val (.int xb), .val (.int lb), .val (.int ya), .val (.int yb), .unset, .unset, .unset, .unset, .unset, .unset, .unset, .unset, .unset] [(.ref b1)])
    refine own_st (fun t k => XS.astore X10.here hx rfl (hb hby at_131) rfl rfl (l' := #[.val (.int p0), .val (.int p1), .val (.int p2), .val (.int p3), .val (.int p4), .val (.int p5), .val (.int sn), .val (.int sy), .val (.int la), .val (.int xa), .val (.int xb), .val (.int lb), .val (.int ya), .val (.int yb), .val (.ref b1), .unset, .unset, .unset, .unset, .unset, .unset, .unset, .unset]) rfl k) ?_
    show own_Go _ _ _ _ T10 (mkF m 133 #[.val (.int p0), .val (.int p1), .val (.int p2), .val (.int p3), .val (.int p4), .val (.int p5), .val (.int sn), .val (.int sy), .val (.int la), .val (.int xa), .val (.int xb), .val (.int lb), .val (.int ya), .val (.int yb), .val (.ref b1), .unset, .unset, .unset, .unset, .unset, .unset, .unset, .unset] [])
    have K0_16 := (K0_11.trans K10 (allS ((Or.inr sz_b1)) all0))
    obtain ⟨T17, h17, X17, e17, E17, A17, D17, -, st17⟩ := newO X10 hx hZ10 hown10 (hw _ (List.mem_of_getElem? (i := 0) rfl)) (hw _ (List.mem_of_getElem? (i := 1) rfl)) (hw _ (List.mem_of_getElem? (i := 2) rfl)) rfl (g := (mkF m 133 #[.val (.int p0), .val (.int p1), .val (.int p2), .val (.int p3), .val (.int p4), .val (.int p5), .val (.int sn), .val (.int sy), .val (.int la), .val (.int xa), .val (.int xb), .val (.int lb), .val (.int ya), .val (.int yb), .val (.ref b1), .unset, .unset, .unset, .unset, .unset, .unset, .unset, .unset] [])) rfl (hb hby at_133) (by decide) (by decide)
    obtain ⟨b17, g17⟩ : ∃ z, z = T10.heap.size := ⟨_, rfl⟩
    rw [← g17] at A17 D17 st17
    have sz_b17 : h0.size ≤ b17 := Nat.le_trans K0_16.1 (Nat.le_of_eq g17.symm)
    have g_b17 : n0 ≤ b17 := Nat.le_trans Z0 sz_b17
    have A1_18 := (A1_4.keep K10)
    have ne_b1_b17 : b1 ≠ b17 := Nat.ne_of_lt (Nat.lt_of_lt_of_le A1_18.lt (Nat.le_of_eq g17.symm))
    have V2_19 := (V2.keep K10 (ninS (Ne.symm ne_b1_b2) nin0))
    have ne_b2_b17 : b2 ≠ b17 := Nat.ne_of_lt (Nat.lt_of_lt_of_le V2_19.lt (Nat.le_of_eq g17.symm))
    have ne_b10_b17 : b10 ≠ b17 := Nat.ne_of_lt (Nat.lt_of_lt_of_le V10.lt (Nat.le_of_eq g17.symm))
    have F17_value : Fld Z h17 b17 "java/lang/String" "value" "[B" .null := D17 (Or.inr (hw _ (List.mem_of_getElem? (i := 20) rfl))) (ty := (.array .byte)) (by decide)
    have F17_coder : Fld Z h17 b17 "java/lang/String" "coder" "B" (.int (0 : Int32)) := D17 (Or.inr (hw _ (List.mem_of_getElem? (i := 21) rfl))) (ty := .byte) (by decide)
    have F17_hash : Fld Z h17 b17 "java/lang/String" "hash" "I" (.int (0 : Int32)) := D17 (Or.inl (hw _ (List.mem_of_getElem? (i := 69) rfl))) (ty := .int) (by decide)
    have F17_hashIsZero : Fld Z h17 b17 "java/lang/String" "hashIsZero" "Z" (.int (0 : Int32)) := D17 (Or.inl (hw _ (List.mem_of_getElem? (i := 71) rfl))) (ty := .boolean) (by decide)
    refine own_st st17 ?_
    show own_Go _ _ _ _ T17 (mkF m 136 #[.val (.int p0), .val (.int p1), .val (.int p2), .val (.int p3), .val (.int p4), .val (.int p5), .val (.int sn), .val (.int sy), .val (.int la), .val (.int xa), .val (.int xb), .val (.int lb), .val (.int ya), .val (.int yb), .val (.ref b1), .unset, .unset, .unset, .unset, .unset, .unset, .unset, .unset] [(.ref b17)])
    refine own_st (fun t k => XS.dup X17.here hx rfl (hb hby at_136) rfl rfl k) ?_
    show own_Go _ _ _ _ T17 (mkF m 137 #[.val (.int p0), .val (.int p1), .val (.int p2), .val (.int p3), .val (.int p4), .val (.int p5), .val (.int sn), .val (.int sy), .val (.int la), .val (.int xa), .val (.int xb), .val (.int lb), .val (.int ya), .val (.int yb), .val (.ref b1), .unset, .unset, .unset, .unset, .unset, .unset, .unset, .unset] [(.ref b17), (.ref b17)])
    refine own_st (fun t k => XS.iload X17.here hx rfl (hb hby at_137) rfl k) ?_
    refine own_st (fun t k => XS.iload X17.here hx rfl (hb hby at_139) rfl k) ?_
    refine own_st (fun t k => XS.iload X17.here hx rfl (hb hby at_141) rfl k) ?_
    show own_Go _ _ _ _ T17 (mkF m 143 #[.val (.int p0), .val (.int p1), .val (.int p2), .val (.int p3), .val (.int p4), .val (.int p5), .val (.int sn), .val (.int sy), .val (.int la), .val (.int xa), .val (.int xb), .val (.int lb), .val (.int ya), .val (.int yb), .val (.ref b1), .unset, .unset, .unset, .unset, .unset, .unset, .unset, .unset] [(.int yb), (.int ya), (.int lb), (.ref b17), (.ref b17)])
    have K0_21 := (K0_16.ext E17)
    obtain ⟨_, _, ⟨T20, L20, k20, n20⟩, -, X20, ⟨Lc20, hQ20, l20, y20, z20⟩, st20⟩ := Jvm.LawKit.callS X17 hx (y := (⟨"com/example/libhorn/libhorn/data/RelationEqualsPinLaw", "mk", "(ICC)[C"⟩ : MethodName)) hown10 (mvT hZ10 (hw _ (List.mem_of_getElem? (i := 3) rfl))) (mvT hZ10 (hw _ (List.mem_of_getElem? (i := 4) rfl))) (mvT hZ10 (hw _ (List.mem_of_getElem? (i := 5) rfl))) (mvT hZ10 (hw _ (List.mem_of_getElem? (i := 6) rfl))) (by decide) (backOf (W := 2) (rm1 l Z a0 hw [] lb ya yb  h17 n0 (Nat.le_trans Z0 K0_21.1) hlb) hZ10 (hw _ (List.mem_of_getElem? (i := 6) rfl)) (hw _ (List.mem_of_getElem? (i := 5) rfl)) (by decide) (by decide)) (g := (mkF m 143 #[.val (.int p0), .val (.int p1), .val (.int p2), .val (.int p3), .val (.int p4), .val (.int p5), .val (.int sn), .val (.int sy), .val (.int la), .val (.int xa), .val (.int xb), .val (.int lb), .val (.int ya), .val (.int yb), .val (.ref b1), .unset, .unset, .unset, .unset, .unset, .unset, .unset, .unset] [(.int yb), (.int ya), (.int lb), (.ref b17), (.ref b17)])) rfl (by rw [hml]; rfl) (argsL := [(.int lb), (.int ya), (.int yb)]) (rest := [(.ref b17), (.ref b17)]) (lenOf pd__28ICC_29_5bC rfl) rfl (by show 2 * 0 + _ ≤ _; exact Nat.le_of_eq rfl) (hb hby at_143) (fun _ _ => ⟨rfl, e17, (by decide : 7 + 1 ≤ _), (by decide : 18 + 2 ≤ _)⟩)
    dsimp only [Pt.U, Pt.locs, Pt.cells, Pt.slots] at X20 l20 y20 z20 st20 hQ20
    subst l20 y20 z20
    have A1_22 := (A1_18.ext E17)
    have V2_23 := (V2_19.ext E17)
    have V10_24 := (V10.ext E17)
    obtain ⟨b20, k20v, rfl, N20q, K20, sy20, V20⟩ := hQ20
    have sz_b20 : h0.size ≤ b20 := Nat.le_trans K0_21.1 sy20
    have g_b20 : n0 ≤ b20 := Nat.le_trans Z0 sz_b20
    have ne_b1_b20 : b1 ≠ b20 := Nat.ne_of_lt (Nat.lt_of_lt_of_le A1_22.lt sy20)
    have ne_b2_b20 : b2 ≠ b20 := Nat.ne_of_lt (Nat.lt_of_lt_of_le V2_23.lt sy20)
    have ne_b10_b20 : b10 ≠ b20 := Nat.ne_of_lt (Nat.lt_of_lt_of_le V10_24.lt sy20)
    have ne_b17_b20 : b17 ≠ b20 := Nat.ne_of_lt (Nat.lt_of_lt_of_le A17.lt sy20)
    obtain ⟨_, X20, N20⟩ := own_hide X20 (Fr.app N10 N20q)
    refine own_st st20 ?_
    show own_Go _ _ _ _ T20 (mkF m 146 #[.val (.int p0), .val (.int p1), .val (.int p2), .val (.int p3), .val (.int p4), .val (.int p5), .val (.int sn), .val (.int sy), .val (.int la), .val (.int xa), .val (.int xb), .val (.int lb), .val (.int ya), .val (.int yb), .val (.ref b1), .unset, .unset, .unset, .unset, .unset, .unset, .unset, .unset] [(.ref b20), (.ref b17), (.ref b17)])
    have A17_25 := (A17.keep K20)
    have F17_hash_26 := (F17_hash.keep K20 nin0)
    have F17_hashIsZero_27 := (F17_hashIsZero.keep K20 nin0)
    have F17_value_28 := (F17_value.keep K20 nin0)
    have F17_coder_29 := (F17_coder.keep K20 nin0)
    have O0_30 := (((O0_9.keep K10 (allS g_b1 all0)).ext E17).keep K20 (all0))
    have K0_32 := (K0_21.trans K20 (all0))
    have hkz10_33 := (Nat.le_trans (Nat.le_trans (Nat.le_refl T10.heap.size) E17.1) K20.1)
    have Ch_34 := (Ch_10.trans (CHr.ext E17 Ch_10.1))
    have Ch_35 := (Ch_34.trans (CHr.keep K20 (all0) Ch_34.1))
    have Ch_36 := Ch_35
    obtain ⟨_, _, ⟨T31, L31, k31, n31⟩, -, X31, hs31, hg31, ⟨Lc31, hQ31, l31, y31, z31, hC31⟩, st31⟩ := X20.specialBackS hx (y := (⟨"java/lang/String", "<init>", "([C)V"⟩ : MethodName)) rfl hown10 (mvT hZ10 (hw _ (List.mem_of_getElem? (i := 8) rfl))) (mvT hZ10 (hw _ (List.mem_of_getElem? (i := 9) rfl))) (mvT hZ10 (hw _ (List.mem_of_getElem? (i := 10) rfl))) (by decide) (backOfSH (W := 1) (rm2 l Z a0 hw [] b17 b20 lb k20v (nar .char ya) (nar .char yb) cs ca cc  T20.heap n0 (Nat.le_trans Z0 K0_32.1) A17_25 F17_hash_26 F17_hashIsZero_27 F17_value_28 F17_coder_29 g_b17 V20 hlb (own_c255 hya) (own_c255 hyb) G O0_30 (Ne.symm ne_b17_b20)) hZ10 (hw _ (List.mem_of_getElem? (i := 10) rfl)) (hw _ (List.mem_of_getElem? (i := 2) rfl)) (by decide) (by decide) (own_ew hw) Ch_36.1) (g := (mkF m 146 #[.val (.int p0), .val (.int p1), .val (.int p2), .val (.int p3), .val (.int p4), .val (.int p5), .val (.int sn), .val (.int sy), .val (.int la), .val (.int xa), .val (.int xb), .val (.int lb), .val (.int ya), .val (.int yb), .val (.ref b1), .unset, .unset, .unset, .unset, .unset, .unset, .unset, .unset] [(.ref b20), (.ref b17), (.ref b17)])) rfl (by rw [hml]; rfl) (Steps.refl _) (a := b17) (argsL := [(.ref b20)]) (rest := [(.ref b17)]) (lenOf pd__28_5bC_29V rfl) rfl (by show 2 * 0 + _ ≤ _; exact Nat.le_of_eq rfl) (hb hby at_146) (fun _ _ => ⟨rfl, rfl, (by decide : 8 + 4 ≤ _), (by decide : 20 + 8 ≤ _)⟩)
    dsimp only [Pt.U, Pt.locs, Pt.cells, Pt.slots] at X31 l31 y31 z31 st31 hQ31 hs31 hg31
    subst l31 y31 z31
    obtain ⟨rfl, N31q, K31, b31, k31v, S31a, S31b, S31c, S31d, V31, P31, nb31⟩ := hQ31
    have A1_37 := ((A1_22.keep K20).keep K31)
    have ne_b1_b31 : b1 ≠ b31 := Exa.neArv A1_37 V31 (hw _ (List.mem_of_getElem? (i := 1) rfl))
    obtain ⟨_, X31, N31⟩ := own_hide X31 (Fr.app N20 N31q)
    have X31 := own_fold X31
    have hS31 := foldS hS10 hkz10_33 hs31 hg31
    have hZ31 : Z.Warmed39 (s.setVm T31.vm).vm := own_wz hZ10 hs31
    have hown31 : (s.setVm T31.vm).vm.findClass "com/example/libhorn/libhorn/data/RelationEqualsPinLaw" = some m.cls := own_wo hown10 hs31
    have Ch_31 := CHr.trans Ch_36 hC31
    refine own_tr st31 ?_
    show own_Go _ _ _ _ T31 (mkF m 149 #[.val (.int p0), .val (.int p1), .val (.int p2), .val (.int p3), .val (.int p4), .val (.int p5), .val (.int sn), .val (.int sy), .val (.int la), .val (.int xa), .val (.int xb), .val (.int lb), .val (.int ya), .val (.int yb), .val (.ref b1), .unset, .unset, .unset, .unset, .unset, .unset, .unset, .unset] [(.ref b17)])
    refine own_st (fun t k => XS.astore X31.here hx rfl (hb hby at_149) rfl rfl (l' := #[.val (.int p0), .val (.int p1), .val (.int p2), .val (.int p3), .val (.int p4), .val (.int p5), .val (.int sn), .val (.int sy), .val (.int la), .val (.int xa), .val (.int xb), .val (.int lb), .val (.int ya), .val (.int yb), .val (.ref b1), .val (.ref b17), .unset, .unset, .unset, .unset, .unset, .unset, .unset]) rfl k) ?_
    show own_Go _ _ _ _ T31 (mkF m 151 #[.val (.int p0), .val (.int p1), .val (.int p2), .val (.int p3), .val (.int p4), .val (.int p5), .val (.int sn), .val (.int sy), .val (.int la), .val (.int xa), .val (.int xb), .val (.int lb), .val (.int ya), .val (.int yb), .val (.ref b1), .val (.ref b17), .unset, .unset, .unset, .unset, .unset, .unset, .unset] [])
    refine own_st (fun t k => XS.iloadN X31.here hx rfl (hb hby at_151) rfl k) ?_
    show own_Go _ _ _ _ T31 (mkF m 152 #[.val (.int p0), .val (.int p1), .val (.int p2), .val (.int p3), .val (.int p4), .val (.int p5), .val (.int sn), .val (.int sy), .val (.int la), .val (.int xa), .val (.int xb), .val (.int lb), .val (.int ya), .val (.int yb), .val (.ref b1), .val (.ref b17), .unset, .unset, .unset, .unset, .unset, .unset, .unset] [(.int p2)])
    refine own_st (X31.ldcInt hx hown31 (mvT hZ31 (hw _ (List.mem_of_getElem? (i := 26) rfl))) (g := (mkF m 152 #[.val (.int p0), .val (.int p1), .val (.int p2), .val (.int p3), .val (.int p4), .val (.int p5), .val (.int sn), .val (.int sy), .val (.int la), .val (.int xa), .val (.int xb), .val (.int lb), .val (.int ya), .val (.int yb), .val (.ref b1), .val (.ref b17), .unset, .unset, .unset, .unset, .unset, .unset, .unset] [(.int p2)])) rfl (hb hby at_152)) ?_
    show own_Go _ _ _ _ T31 (mkF m 154 #[.val (.int p0), .val (.int p1), .val (.int p2), .val (.int p3), .val (.int p4), .val (.int p5), .val (.int sn), .val (.int sy), .val (.int la), .val (.int xa), .val (.int xb), .val (.int lb), .val (.int ya), .val (.int yb), .val (.ref b1), .val (.ref b17), .unset, .unset, .unset, .unset, .unset, .unset, .unset] [(.int (2147483647 : Int32)), (.int p2)])
    refine own_st (fun t k => XS.iand X31.here hx rfl (hb hby at_154) rfl k) ?_
    show own_Go _ _ _ _ T31 (mkF m 155 #[.val (.int p0), .val (.int p1), .val (.int p2), .val (.int p3), .val (.int p4), .val (.int p5), .val (.int sn), .val (.int sy), .val (.int la), .val (.int xa), .val (.int xb), .val (.int lb), .val (.int ya), .val (.int yb), .val (.ref b1), .val (.ref b17), .unset, .unset, .unset, .unset, .unset, .unset, .unset] [(.int (p2 &&& (2147483647 : Int32)))])
    refine own_st (fun t k => XS.istore X31.here hx rfl (hb hby at_155) rfl (l' := #[.val (.int p0), .val (.int p1), .val (.int p2), .val (.int p3), .val (.int p4), .val (.int p5), .val (.int sn), .val (.int sy), .val (.int la), .val (.int xa), .val (.int xb), .val (.int lb), .val (.int ya), .val (.int yb), .val (.ref b1), .val (.ref b17), .val (.int (p2 &&& (2147483647 : Int32))), .unset, .unset, .unset, .unset, .unset, .unset]) rfl k) ?_
    show own_Go _ _ _ _ T31 (mkF m 157 #[.val (.int p0), .val (.int p1), .val (.int p2), .val (.int p3), .val (.int p4), .val (.int p5), .val (.int sn), .val (.int sy), .val (.int la), .val (.int xa), .val (.int xb), .val (.int lb), .val (.int ya), .val (.int yb), .val (.ref b1), .val (.ref b17), .val (.int (p2 &&& (2147483647 : Int32))), .unset, .unset, .unset, .unset, .unset, .unset] [])
    refine own_st (fun t k => XS.iload X31.here hx rfl (hb hby at_157) rfl k) ?_
    suffices hj38 : own_Go p.tables e below (own_FinW below s (Q0 Z p0 p1 p2 p3 p4 p5 cs ca cc h0 n0) 22 80) T31 (mkF m 171 #[.val (.int p0), .val (.int p1), .val (.int p2), .val (.int p3), .val (.int p4), .val (.int p5), .val (.int sn), .val (.int sy), .val (.int la), .val (.int xa), .val (.int xb), .val (.int lb), .val (.int ya), .val (.int yb), .val (.ref b1), .val (.ref b17), .val (.int (p2 &&& (2147483647 : Int32))), .unset, .unset, .unset, .unset, .unset, .unset] [(.int (if sy = (0 : Int32) then (p3 &&& (2147483647 : Int32)) else (p2 &&& (2147483647 : Int32))))]) by
      by_cases c159_38 : sy = (0 : Int32)
      · rw [if_pos c159_38] at hj38
        refine own_st (fun t k => XS.ifYes X31.here hx rfl (pc0 := 159) (pc' := 167) rfl (hb hby at_159) rfl ((if0 _ _).trans (teq c159_38).1) (by decide) (by decide) k) ?_
        show own_Go _ _ _ _ T31 (mkF m 167 #[.val (.int p0), .val (.int p1), .val (.int p2), .val (.int p3), .val (.int p4), .val (.int p5), .val (.int sn), .val (.int sy), .val (.int la), .val (.int xa), .val (.int xb), .val (.int lb), .val (.int ya), .val (.int yb), .val (.ref b1), .val (.ref b17), .val (.int (p2 &&& (2147483647 : Int32))), .unset, .unset, .unset, .unset, .unset, .unset] [])
        refine own_st (fun t k => XS.iloadN X31.here hx rfl (hb hby at_167) rfl k) ?_
        show own_Go _ _ _ _ T31 (mkF m 168 #[.val (.int p0), .val (.int p1), .val (.int p2), .val (.int p3), .val (.int p4), .val (.int p5), .val (.int sn), .val (.int sy), .val (.int la), .val (.int xa), .val (.int xb), .val (.int lb), .val (.int ya), .val (.int yb), .val (.ref b1), .val (.ref b17), .val (.int (p2 &&& (2147483647 : Int32))), .unset, .unset, .unset, .unset, .unset, .unset] [(.int p3)])
        refine own_st (X31.ldcInt hx hown31 (mvT hZ31 (hw _ (List.mem_of_getElem? (i := 26) rfl))) (g := (mkF m 168 #[.val (.int p0), .val (.int p1), .val (.int p2), .val (.int p3), .val (.int p4), .val (.int p5), .val (.int sn), .val (.int sy), .val (.int la), .val (.int xa), .val (.int xb), .val (.int lb), .val (.int ya), .val (.int yb), .val (.ref b1), .val (.ref b17), .val (.int (p2 &&& (2147483647 : Int32))), .unset, .unset, .unset, .unset, .unset, .unset] [(.int p3)])) rfl (hb hby at_168)) ?_
        show own_Go _ _ _ _ T31 (mkF m 170 #[.val (.int p0), .val (.int p1), .val (.int p2), .val (.int p3), .val (.int p4), .val (.int p5), .val (.int sn), .val (.int sy), .val (.int la), .val (.int xa), .val (.int xb), .val (.int lb), .val (.int ya), .val (.int yb), .val (.ref b1), .val (.ref b17), .val (.int (p2 &&& (2147483647 : Int32))), .unset, .unset, .unset, .unset, .unset, .unset] [(.int (2147483647 : Int32)), (.int p3)])
        refine own_st (fun t k => XS.iand X31.here hx rfl (hb hby at_170) rfl k) ?_
        show own_Go _ _ _ _ T31 (mkF m 171 #[.val (.int p0), .val (.int p1), .val (.int p2), .val (.int p3), .val (.int p4), .val (.int p5), .val (.int sn), .val (.int sy), .val (.int la), .val (.int xa), .val (.int xb), .val (.int lb), .val (.int ya), .val (.int yb), .val (.ref b1), .val (.ref b17), .val (.int (p2 &&& (2147483647 : Int32))), .unset, .unset, .unset, .unset, .unset, .unset] [(.int (p3 &&& (2147483647 : Int32)))])
        exact hj38
      · rw [if_neg c159_38] at hj38
        refine own_st (fun t k => XS.ifNo X31.here hx rfl (hb hby at_159) rfl ((if0 _ _).trans (feq c159_38).1) k) ?_
        show own_Go _ _ _ _ T31 (mkF m 162 #[.val (.int p0), .val (.int p1), .val (.int p2), .val (.int p3), .val (.int p4), .val (.int p5), .val (.int sn), .val (.int sy), .val (.int la), .val (.int xa), .val (.int xb), .val (.int lb), .val (.int ya), .val (.int yb), .val (.ref b1), .val (.ref b17), .val (.int (p2 &&& (2147483647 : Int32))), .unset, .unset, .unset, .unset, .unset, .unset] [])
        refine own_st (fun t k => XS.iload X31.here hx rfl (hb hby at_162) rfl k) ?_
        show own_Go _ _ _ _ T31 (mkF m 164 #[.val (.int p0), .val (.int p1), .val (.int p2), .val (.int p3), .val (.int p4), .val (.int p5), .val (.int sn), .val (.int sy), .val (.int la), .val (.int xa), .val (.int xb), .val (.int lb), .val (.int ya), .val (.int yb), .val (.ref b1), .val (.ref b17), .val (.int (p2 &&& (2147483647 : Int32))), .unset, .unset, .unset, .unset, .unset, .unset] [(.int (p2 &&& (2147483647 : Int32)))])
        refine own_st (fun t k => XS.goto X31.here hx rfl (pc0 := 164) (pc' := 171) rfl (hb hby at_164) (by decide) (by decide) k) ?_
        show own_Go _ _ _ _ T31 (mkF m 171 #[.val (.int p0), .val (.int p1), .val (.int p2), .val (.int p3), .val (.int p4), .val (.int p5), .val (.int sn), .val (.int sy), .val (.int la), .val (.int xa), .val (.int xb), .val (.int lb), .val (.int ya), .val (.int yb), .val (.ref b1), .val (.ref b17), .val (.int (p2 &&& (2147483647 : Int32))), .unset, .unset, .unset, .unset, .unset, .unset] [(.int (p2 &&& (2147483647 : Int32)))])
        exact hj38
    show own_Go _ _ _ _ T31 (mkF m 171 #[.val (.int p0), .val (.int p1), .val (.int p2), .val (.int p3), .val (.int p4), .val (.int p5), .val (.int sn), .val (.int sy), .val (.int la), .val (.int xa), .val (.int xb), .val (.int lb), .val (.int ya), .val (.int yb), .val (.ref b1), .val (.ref b17), .val (.int (p2 &&& (2147483647 : Int32))), .unset, .unset, .unset, .unset, .unset, .unset] [(.int (if sy = (0 : Int32) then (p3 &&& (2147483647 : Int32)) else (p2 &&& (2147483647 : Int32))))])
    refine own_st (fun t k => XS.istore X31.here hx rfl (hb hby at_171) rfl (l' := #[.val (.int p0), .val (.int p1), .val (.int p2), .val (.int p3), .val (.int p4), .val (.int p5), .val (.int sn), .val (.int sy), .val (.int la), .val (.int xa), .val (.int xb), .val (.int lb), .val (.int ya), .val (.int yb), .val (.ref b1), .val (.ref b17), .val (.int (p2 &&& (2147483647 : Int32))), .val (.int (if sy = (0 : Int32) then (p3 &&& (2147483647 : Int32)) else (p2 &&& (2147483647 : Int32)))), .unset, .unset, .unset, .unset, .unset]) rfl k) ?_
    show own_Go _ _ _ _ T31 (mkF m 173 #[.val (.int p0), .val (.int p1), .val (.int p2), .val (.int p3), .val (.int p4), .val (.int p5), .val (.int sn), .val (.int sy), .val (.int la), .val (.int xa), .val (.int xb), .val (.int lb), .val (.int ya), .val (.int yb), .val (.ref b1), .val (.ref b17), .val (.int (p2 &&& (2147483647 : Int32))), .val (.int (if sy = (0 : Int32) then (p3 &&& (2147483647 : Int32)) else (p2 &&& (2147483647 : Int32)))), .unset, .unset, .unset, .unset, .unset] [])
    have K0_39 := (K0_32.trans K31 (allS ((Or.inr sz_b17)) all0))
    obtain ⟨T40, h40, X40, e40, E40, A40, D40, -, st40⟩ := newO X31 hx hZ31 hown31 (hw _ (List.mem_of_getElem? (i := 27) rfl)) (hw _ (List.mem_of_getElem? (i := 28) rfl)) (hw _ (List.mem_of_getElem? (i := 29) rfl)) rfl (g := (mkF m 173 #[.val (.int p0), .val (.int p1), .val (.int p2), .val (.int p3), .val (.int p4), .val (.int p5), .val (.int sn), .val (.int sy), .val (.int la), .val (.int xa), .val (.int xb), .val (.int lb), .val (.int ya), .val (.int yb), .val (.ref b1), .val (.ref b17), .val (.int (p2 &&& (2147483647 : Int32))), .val (.int (if sy = (0 : Int32) then (p3 &&& (2147483647 : Int32)) else (p2 &&& (2147483647 : Int32)))), .unset, .unset, .unset, .unset, .unset] [])) rfl (hb hby at_173) (by decide) (by decide)
    obtain ⟨b40, g40⟩ : ∃ z, z = T31.heap.size := ⟨_, rfl⟩
    rw [← g40] at A40 D40 st40
    have sz_b40 : h0.size ≤ b40 := Nat.le_trans K0_39.1 (Nat.le_of_eq g40.symm)
    have g_b40 : n0 ≤ b40 := Nat.le_trans Z0 sz_b40
    have ne_b1_b40 : b1 ≠ b40 := Nat.ne_of_lt (Nat.lt_of_lt_of_le A1_37.lt (Nat.le_of_eq g40.symm))
    have V2_41 := ((V2_23.keep K20 nin0).keep K31 (ninS ne_b2_b17 nin0))
    have ne_b2_b40 : b2 ≠ b40 := Nat.ne_of_lt (Nat.lt_of_lt_of_le V2_41.lt (Nat.le_of_eq g40.symm))
    have V10_42 := ((V10_24.keep K20 nin0).keep K31 (ninS ne_b10_b17 nin0))
    have ne_b10_b40 : b10 ≠ b40 := Nat.ne_of_lt (Nat.lt_of_lt_of_le V10_42.lt (Nat.le_of_eq g40.symm))
    have A17_43 := (A17_25.keep K31)
    have ne_b17_b40 : b17 ≠ b40 := Nat.ne_of_lt (Nat.lt_of_lt_of_le A17_43.lt (Nat.le_of_eq g40.symm))
    have V20_44 := (V20.keep K31 (ninS (Ne.symm ne_b17_b20) nin0))
    have ne_b20_b40 : b20 ≠ b40 := Nat.ne_of_lt (Nat.lt_of_lt_of_le V20_44.lt (Nat.le_of_eq g40.symm))
    have ne_b31_b40 : b31 ≠ b40 := Nat.ne_of_lt (Nat.lt_of_lt_of_le V31.lt (Nat.le_of_eq g40.symm))
    have F40_name : Fld Z h40 b40 "com/example/libhorn/libhorn/data/Relation" "name" "Ljava/lang/String;" .null := D40 (Or.inr (hw _ (List.mem_of_getElem? (i := 41) rfl))) (ty := (.object "java/lang/String")) (by decide)
    have F40_arity : Fld Z h40 b40 "com/example/libhorn/libhorn/data/Relation" "arity" "I" (.int (0 : Int32)) := D40 (Or.inr (hw _ (List.mem_of_getElem? (i := 43) rfl))) (ty := .int) (by decide)
    have F40_hash : Fld Z h40 b40 "com/example/libhorn/libhorn/data/Relation" "hash" "I" (.int (0 : Int32)) := D40 (Or.inr (hw _ (List.mem_of_getElem? (i := 91) rfl))) (ty := .int) (by decide)
    refine own_st st40 ?_
    show own_Go _ _ _ _ T40 (mkF m 176 #[.val (.int p0), .val (.int p1), .val (.int p2), .val (.int p3), .val (.int p4), .val (.int p5), .val (.int sn), .val (.int sy), .val (.int la), .val (.int xa), .val (.int xb), .val (.int lb), .val (.int ya), .val (.int yb), .val (.ref b1), .val (.ref b17), .val (.int (p2 &&& (2147483647 : Int32))), .val (.int (if sy = (0 : Int32) then (p3 &&& (2147483647 : Int32)) else (p2 &&& (2147483647 : Int32)))), .unset, .unset, .unset, .unset, .unset] [(.ref b40)])
    refine own_st (fun t k => XS.dup X40.here hx rfl (hb hby at_176) rfl rfl k) ?_
    show own_Go _ _ _ _ T40 (mkF m 177 #[.val (.int p0), .val (.int p1), .val (.int p2), .val (.int p3), .val (.int p4), .val (.int p5), .val (.int sn), .val (.int sy), .val (.int la), .val (.int xa), .val (.int xb), .val (.int lb), .val (.int ya), .val (.int yb), .val (.ref b1), .val (.ref b17), .val (.int (p2 &&& (2147483647 : Int32))), .val (.int (if sy = (0 : Int32) then (p3 &&& (2147483647 : Int32)) else (p2 &&& (2147483647 : Int32)))), .unset, .unset, .unset, .unset, .unset] [(.ref b40), (.ref b40)])
    refine own_st (fun t k => XS.aload X40.here hx rfl (hb hby at_177) rfl rfl k) ?_
    refine own_st (fun t k => XS.iload X40.here hx rfl (hb hby at_179) rfl k) ?_
    show own_Go _ _ _ _ T40 (mkF m 181 #[.val (.int p0), .val (.int p1), .val (.int p2), .val (.int p3), .val (.int p4), .val (.int p5), .val (.int sn), .val (.int sy), .val (.int la), .val (.int xa), .val (.int xb), .val (.int lb), .val (.int ya), .val (.int yb), .val (.ref b1), .val (.ref b17), .val (.int (p2 &&& (2147483647 : Int32))), .val (.int (if sy = (0 : Int32) then (p3 &&& (2147483647 : Int32)) else (p2 &&& (2147483647 : Int32)))), .unset, .unset, .unset, .unset, .unset] [(.int (p2 &&& (2147483647 : Int32))), (.ref b1), (.ref b40), (.ref b40)])
    have A1_45 := (A1_37.ext E40)
    have S10a_46 := ((((S10a.ext E17).keep K20 nin0).keep K31 (ninS ne_b1_b17 nin0)).ext E40)
    have S10b_47 := ((((S10b.ext E17).keep K20 nin0).keep K31 (ninS ne_b1_b17 nin0)).ext E40)
    have S10c_48 := ((((S10c.ext E17).keep K20 nin0).keep K31 (ninS ne_b1_b17 nin0)).ext E40)
    have S10d_49 := ((((S10d.ext E17).keep K20 nin0).keep K31 (ninS ne_b1_b17 nin0)).ext E40)
    have V10_50 := (V10_42.ext E40)
    have P10_51 := (fun (q : la = (2 : Int32)) => ((fun (q : la = (2 : Int32)) => ((fun (q : la = (2 : Int32)) => ((fun (q : la = (2 : Int32)) => (P10 q).ext E17) q).keep K20) q).keep K31) q).ext E40)
    have O0_52 := ((O0_30.keep K31 (allS g_b17 all0)).ext E40)
    have K0_54 := (K0_39.ext E40)
    have hkz31_55 := (Nat.le_trans (Nat.le_refl T31.heap.size) E40.1)
    obtain ⟨_, _, ⟨T53, L53, k53, n53⟩, -, X53, hs53, hg53, ⟨Lc53, hQ53, l53, y53, z53⟩, st53⟩ := X40.specialBackS hx (y := (⟨"com/example/libhorn/libhorn/data/Relation", "<init>", "(Ljava/lang/String;I)V"⟩ : MethodName)) rfl hown31 (mvT hZ31 (hw _ (List.mem_of_getElem? (i := 30) rfl))) (mvT hZ31 (hw _ (List.mem_of_getElem? (i := 31) rfl))) (mvT hZ31 (hw _ (List.mem_of_getElem? (i := 32) rfl))) (by decide) (backOfS (W := 1) (rm5 l Z a0 hw [] b40 b1 (p2 &&& (2147483647 : Int32)) b10 la k10v (nar .byte ((nar .char xa).toInt8.toInt32)) (nar .byte ((nar .char xb).toInt8.toInt32)) cs ca cc  h40 n0 (Nat.le_trans Z0 K0_54.1) A40 F40_name F40_arity F40_hash g_b40 A1_45 S10a_46 S10b_47 S10c_48 S10d_49 g_b1 V10_50 hla P10_51 nb10 G O0_52 (own_nn _) (Ne.symm ne_b1_b40) ne_b10_b40) hZ31 (hw _ (List.mem_of_getElem? (i := 32) rfl)) (hw _ (List.mem_of_getElem? (i := 29) rfl)) (by decide) (by decide)) (g := (mkF m 181 #[.val (.int p0), .val (.int p1), .val (.int p2), .val (.int p3), .val (.int p4), .val (.int p5), .val (.int sn), .val (.int sy), .val (.int la), .val (.int xa), .val (.int xb), .val (.int lb), .val (.int ya), .val (.int yb), .val (.ref b1), .val (.ref b17), .val (.int (p2 &&& (2147483647 : Int32))), .val (.int (if sy = (0 : Int32) then (p3 &&& (2147483647 : Int32)) else (p2 &&& (2147483647 : Int32)))), .unset, .unset, .unset, .unset, .unset] [(.int (p2 &&& (2147483647 : Int32))), (.ref b1), (.ref b40), (.ref b40)])) rfl (by rw [hml]; rfl) (Steps.refl _) (a := b40) (argsL := [(.ref b1), (.int (p2 &&& (2147483647 : Int32)))]) (rest := [(.ref b40)]) (lenOf pd__28Ljava_2flang_2fString_3bI_29V rfl) rfl (by show 2 * 0 + _ ≤ _; exact Nat.le_of_eq rfl) (hb hby at_181) (fun _ _ => ⟨rfl, e40, (by decide : 13 + 4 ≤ _), (by decide : 31 + 23 ≤ _)⟩)
    dsimp only [Pt.U, Pt.locs, Pt.cells, Pt.slots] at X53 l53 y53 z53 st53 hQ53 hs53 hg53
    subst l53 y53 z53
    obtain ⟨rfl, N53q, K53, R53a, R53b, R53c, R53d⟩ := hQ53
    obtain ⟨_, X53, N53⟩ := own_hide X53 (Fr.app N31 N53q)
    have X53 := own_fold X53
    have hS53 := foldS hS31 (by rw [e40]; exact hkz31_55) hs53 hg53
    have hZ53 : Z.Warmed39 (s.setVm T53.vm).vm := own_wz hZ31 hs53
    have hown53 : (s.setVm T53.vm).vm.findClass "com/example/libhorn/libhorn/data/RelationEqualsPinLaw" = some m.cls := own_wo hown31 hs53
    refine own_tr st53 ?_
    show own_Go _ _ _ _ T53 (mkF m 184 #[.val (.int p0), .val (.int p1), .val (.int p2), .val (.int p3), .val (.int p4), .val (.int p5), .val (.int sn), .val (.int sy), .val (.int la), .val (.int xa), .val (.int xb), .val (.int lb), .val (.int ya), .val (.int yb), .val (.ref b1), .val (.ref b17), .val (.int (p2 &&& (2147483647 : Int32))), .val (.int (if sy = (0 : Int32) then (p3 &&& (2147483647 : Int32)) else (p2 &&& (2147483647 : Int32)))), .unset, .unset, .unset, .unset, .unset] [(.ref b40)])
    refine own_st (fun t k => XS.astore X53.here hx rfl (hb hby at_184) rfl rfl (l' := #[.val (.int p0), .val (.int p1), .val (.int p2), .val (.int p3), .val (.int p4), .val (.int p5), .val (.int sn), .val (.int sy), .val (.int la), .val (.int xa), .val (.int xb), .val (.int lb), .val (.int ya), .val (.int yb), .val (.ref b1), .val (.ref b17), .val (.int (p2 &&& (2147483647 : Int32))), .val (.int (if sy = (0 : Int32) then (p3 &&& (2147483647 : Int32)) else (p2 &&& (2147483647 : Int32)))), .val (.ref b40), .unset, .unset, .unset, .unset]) rfl k) ?_
    show own_Go _ _ _ _ T53 (mkF m 186 #[.val (.int p0), .val (.int p1), .val (.int p2), .val (.int p3), .val (.int p4), .val (.int p5), .val (.int sn), .val (.int sy), .val (.int la), .val (.int xa), .val (.int xb), .val (.int lb), .val (.int ya), .val (.int yb), .val (.ref b1), .val (.ref b17), .val (.int (p2 &&& (2147483647 : Int32))), .val (.int (if sy = (0 : Int32) then (p3 &&& (2147483647 : Int32)) else (p2 &&& (2147483647 : Int32)))), .val (.ref b40), .unset, .unset, .unset, .unset] [])
    refine own_st (fun t k => XS.iload X53.here hx rfl (hb hby at_186) rfl k) ?_
    refine own_st (fun t k => XS.iconst X53.here hx rfl (hb hby at_188) k) ?_
    refine own_st (fun t k => XS.iand X53.here hx rfl (hb hby at_189) rfl k) ?_
    show own_Go _ _ _ _ T53 (mkF m 190 #[.val (.int p0), .val (.int p1), .val (.int p2), .val (.int p3), .val (.int p4), .val (.int p5), .val (.int sn), .val (.int sy), .val (.int la), .val (.int xa), .val (.int xb), .val (.int lb), .val (.int ya), .val (.int yb), .val (.ref b1), .val (.ref b17), .val (.int (p2 &&& (2147483647 : Int32))), .val (.int (if sy = (0 : Int32) then (p3 &&& (2147483647 : Int32)) else (p2 &&& (2147483647 : Int32)))), .val (.ref b40), .unset, .unset, .unset, .unset] [(.int (p5 &&& (3 : Int32)))])
    refine own_st (fun t k => XS.istore X53.here hx rfl (hb hby at_190) rfl (l' := #[.val (.int p0), .val (.int p1), .val (.int p2), .val (.int p3), .val (.int p4), .val (.int p5), .val (.int sn), .val (.int sy), .val (.int la), .val (.int xa), .val (.int xb), .val (.int lb), .val (.int ya), .val (.int yb), .val (.ref b1), .val (.ref b17), .val (.int (p2 &&& (2147483647 : Int32))), .val (.int (if sy = (0 : Int32) then (p3 &&& (2147483647 : Int32)) else (p2 &&& (2147483647 : Int32)))), .val (.ref b40), .val (.int (p5 &&& (3 : Int32))), .unset, .unset, .unset]) rfl k) ?_
    show own_Go _ _ _ _ T53 (mkF m 192 #[.val (.int p0), .val (.int p1), .val (.int p2), .val (.int p3), .val (.int p4), .val (.int p5), .val (.int sn), .val (.int sy), .val (.int la), .val (.int xa), .val (.int xb), .val (.int lb), .val (.int ya), .val (.int yb), .val (.ref b1), .val (.ref b17), .val (.int (p2 &&& (2147483647 : Int32))), .val (.int (if sy = (0 : Int32) then (p3 &&& (2147483647 : Int32)) else (p2 &&& (2147483647 : Int32)))), .val (.ref b40), .val (.int (p5 &&& (3 : Int32))), .unset, .unset, .unset] [])
    refine own_st (fun t k => XS.iload X53.here hx rfl (hb hby at_192) rfl k) ?_
    refine own_st (fun t k => XS.iconst X53.here hx rfl (hb hby at_194) k) ?_
    by_cases c195_56 : (p5 &&& (3 : Int32)) = (1 : Int32)
    ·
      refine own_st (fun t k => XS.icmpNo X53.here hx rfl (hb hby at_195) rfl (teq c195_56).2 k) ?_
      show own_Go _ _ _ _ T53 (mkF m 198 #[.val (.int p0), .val (.int p1), .val (.int p2), .val (.int p3), .val (.int p4), .val (.int p5), .val (.int sn), .val (.int sy), .val (.int la), .val (.int xa), .val (.int xb), .val (.int lb), .val (.int ya), .val (.int yb), .val (.ref b1), .val (.ref b17), .val (.int (p2 &&& (2147483647 : Int32))), .val (.int (if sy = (0 : Int32) then (p3 &&& (2147483647 : Int32)) else (p2 &&& (2147483647 : Int32)))), .val (.ref b40), .val (.int (p5 &&& (3 : Int32))), .unset, .unset, .unset] [])
      refine own_st (fun t k => XS.aload X53.here hx rfl (hb hby at_198) rfl rfl k) ?_
      show own_Go _ _ _ _ T53 (mkF m 200 #[.val (.int p0), .val (.int p1), .val (.int p2), .val (.int p3), .val (.int p4), .val (.int p5), .val (.int sn), .val (.int sy), .val (.int la), .val (.int xa), .val (.int xb), .val (.int lb), .val (.int ya), .val (.int yb), .val (.ref b1), .val (.ref b17), .val (.int (p2 &&& (2147483647 : Int32))), .val (.int (if sy = (0 : Int32) then (p3 &&& (2147483647 : Int32)) else (p2 &&& (2147483647 : Int32)))), .val (.ref b40), .val (.int (p5 &&& (3 : Int32))), .unset, .unset, .unset] [(.ref b40)])
      refine own_st (fun t k => XS.aconstNull X53.here hx rfl (hb hby at_200) k) ?_
      show own_Go _ _ _ _ T53 (mkF m 201 #[.val (.int p0), .val (.int p1), .val (.int p2), .val (.int p3), .val (.int p4), .val (.int p5), .val (.int sn), .val (.int sy), .val (.int la), .val (.int xa), .val (.int xb), .val (.int lb), .val (.int ya), .val (.int yb), .val (.ref b1), .val (.ref b17), .val (.int (p2 &&& (2147483647 : Int32))), .val (.int (if sy = (0 : Int32) then (p3 &&& (2147483647 : Int32)) else (p2 &&& (2147483647 : Int32)))), .val (.ref b40), .val (.int (p5 &&& (3 : Int32))), .unset, .unset, .unset] [.null, (.ref b40)])
      have K0_58 := (K0_54.trans K53 (allS ((Or.inr sz_b40)) (allS ((Or.inr sz_b1)) all0)))
      have A40_59 := (A40.keep K53)
      obtain ⟨cq57, kq57, q57a, q57b, q57c⟩ := isOf hZ53 rfl A40_59
      obtain ⟨_, _, ⟨T57, L57, k57, n57⟩, -, X57, ⟨Lc57, hQ57, l57, y57, z57⟩, st57⟩ := X53.virtualBack hx (y := (⟨"com/example/libhorn/libhorn/data/Relation", "equals", "(Ljava/lang/Object;)Z"⟩ : MethodName)) (z := (⟨"com/example/libhorn/libhorn/data/Relation", "equals", "(Ljava/lang/Object;)Z"⟩ : MethodName)) hown53 (mvT hZ53 (hw _ (List.mem_of_getElem? (i := 92) rfl))) (mvT hZ53 (hw _ (List.mem_of_getElem? (i := 93) rfl))) (notFace_of_selects (args := #[]) (mvT hZ53 (hw _ (List.mem_of_getElem? (i := 95) rfl)))) (mvT hZ53 (hw _ (List.mem_of_getElem? (i := 95) rfl))) (mvT hZ53 (hw _ (List.mem_of_getElem? (i := 94) rfl))) (by decide) (backOf (W := 0) (rm15n l Z a0 hw [] b40  T53.heap n0 (Nat.le_trans Z0 K0_58.1) ) hZ53 (hw _ (List.mem_of_getElem? (i := 96) rfl)) (hw _ (List.mem_of_getElem? (i := 29) rfl)) (by decide) (by decide)) q57a q57c (g := (mkF m 201 #[.val (.int p0), .val (.int p1), .val (.int p2), .val (.int p3), .val (.int p4), .val (.int p5), .val (.int sn), .val (.int sy), .val (.int la), .val (.int xa), .val (.int xb), .val (.int lb), .val (.int ya), .val (.int yb), .val (.ref b1), .val (.ref b17), .val (.int (p2 &&& (2147483647 : Int32))), .val (.int (if sy = (0 : Int32) then (p3 &&& (2147483647 : Int32)) else (p2 &&& (2147483647 : Int32)))), .val (.ref b40), .val (.int (p5 &&& (3 : Int32))), .unset, .unset, .unset] [.null, (.ref b40)])) rfl (by rw [hml]; rfl) (Steps.refl _) (argsL := [.null]) (rest := []) (lenOf pd__28Ljava_2flang_2fObject_3b_29Z rfl) rfl (by show 2 * 0 + _ ≤ _; exact Nat.le_of_eq rfl) (hb hby at_201) (fun _ _ => ⟨rfl, rfl, (by decide : 17 + 0 ≤ _), (by decide : 54 + 0 ≤ _)⟩)
      dsimp only [Pt.U, Pt.locs, Pt.cells, Pt.slots] at X57 l57 y57 z57 st57 hQ57
      subst l57 y57 z57
      obtain ⟨rfl, N57q, e57⟩ := hQ57
      obtain ⟨_, X57, N57⟩ := own_hide X57 (Fr.app N53 N57q)
      refine own_tr st57 ?_
      show own_Go _ _ _ _ T57 (mkF m 204 #[.val (.int p0), .val (.int p1), .val (.int p2), .val (.int p3), .val (.int p4), .val (.int p5), .val (.int sn), .val (.int sy), .val (.int la), .val (.int xa), .val (.int xb), .val (.int lb), .val (.int ya), .val (.int yb), .val (.ref b1), .val (.ref b17), .val (.int (p2 &&& (2147483647 : Int32))), .val (.int (if sy = (0 : Int32) then (p3 &&& (2147483647 : Int32)) else (p2 &&& (2147483647 : Int32)))), .val (.ref b40), .val (.int (p5 &&& (3 : Int32))), .unset, .unset, .unset] [(.int (0 : Int32))])
      refine own_st (fun t k => XS.ifNo X57.here hx rfl (hb hby at_204) rfl ((if0 _ _).trans (teq (by decide : (0 : Int32) = (0 : Int32))).2) k) ?_
      show own_Go _ _ _ _ T57 (mkF m 207 #[.val (.int p0), .val (.int p1), .val (.int p2), .val (.int p3), .val (.int p4), .val (.int p5), .val (.int sn), .val (.int sy), .val (.int la), .val (.int xa), .val (.int xb), .val (.int lb), .val (.int ya), .val (.int yb), .val (.ref b1), .val (.ref b17), .val (.int (p2 &&& (2147483647 : Int32))), .val (.int (if sy = (0 : Int32) then (p3 &&& (2147483647 : Int32)) else (p2 &&& (2147483647 : Int32)))), .val (.ref b40), .val (.int (p5 &&& (3 : Int32))), .unset, .unset, .unset] [])
      refine own_st (fun t k => XS.iconst X57.here hx rfl (hb hby at_207) k) ?_
      refine own_st (fun t k => XS.goto X57.here hx rfl (pc0 := 208) (pc' := 212) rfl (hb hby at_208) (by decide) (by decide) k) ?_
      show own_Go _ _ _ _ T57 (mkF m 212 #[.val (.int p0), .val (.int p1), .val (.int p2), .val (.int p3), .val (.int p4), .val (.int p5), .val (.int sn), .val (.int sy), .val (.int la), .val (.int xa), .val (.int xb), .val (.int lb), .val (.int ya), .val (.int yb), .val (.ref b1), .val (.ref b17), .val (.int (p2 &&& (2147483647 : Int32))), .val (.int (if sy = (0 : Int32) then (p3 &&& (2147483647 : Int32)) else (p2 &&& (2147483647 : Int32)))), .val (.ref b40), .val (.int (p5 &&& (3 : Int32))), .unset, .unset, .unset] [(.int (1 : Int32))])
      exact own_retNW X57 hS53 (by rw [e57]; exact (Nat.le_refl T53.heap.size)) hx hlk (t := .boolean) hrt (by simp) (hb hby at_212) ⟨rfl, N57⟩ (by decide) (by decide)
    ·
      refine own_st (fun t k => XS.icmpYes X53.here hx rfl (pc0 := 195) (pc' := 213) rfl (hb hby at_195) rfl (feq c195_56).2 (by decide) (by decide) k) ?_
      show own_Go _ _ _ _ T53 (mkF m 213 #[.val (.int p0), .val (.int p1), .val (.int p2), .val (.int p3), .val (.int p4), .val (.int p5), .val (.int sn), .val (.int sy), .val (.int la), .val (.int xa), .val (.int xb), .val (.int lb), .val (.int ya), .val (.int yb), .val (.ref b1), .val (.ref b17), .val (.int (p2 &&& (2147483647 : Int32))), .val (.int (if sy = (0 : Int32) then (p3 &&& (2147483647 : Int32)) else (p2 &&& (2147483647 : Int32)))), .val (.ref b40), .val (.int (p5 &&& (3 : Int32))), .unset, .unset, .unset] [])
      refine own_st (fun t k => XS.iload X53.here hx rfl (hb hby at_213) rfl k) ?_
      refine own_st (fun t k => XS.iconst X53.here hx rfl (hb hby at_215) k) ?_
      show own_Go _ _ _ _ T53 (mkF m 216 #[.val (.int p0), .val (.int p1), .val (.int p2), .val (.int p3), .val (.int p4), .val (.int p5), .val (.int sn), .val (.int sy), .val (.int la), .val (.int xa), .val (.int xb), .val (.int lb), .val (.int ya), .val (.int yb), .val (.ref b1), .val (.ref b17), .val (.int (p2 &&& (2147483647 : Int32))), .val (.int (if sy = (0 : Int32) then (p3 &&& (2147483647 : Int32)) else (p2 &&& (2147483647 : Int32)))), .val (.ref b40), .val (.int (p5 &&& (3 : Int32))), .unset, .unset, .unset] [(.int (2 : Int32)), (.int (p5 &&& (3 : Int32)))])
      by_cases c216_60 : (p5 &&& (3 : Int32)) = (2 : Int32)
      ·
        refine own_st (fun t k => XS.icmpNo X53.here hx rfl (hb hby at_216) rfl (teq c216_60).2 k) ?_
        show own_Go _ _ _ _ T53 (mkF m 219 #[.val (.int p0), .val (.int p1), .val (.int p2), .val (.int p3), .val (.int p4), .val (.int p5), .val (.int sn), .val (.int sy), .val (.int la), .val (.int xa), .val (.int xb), .val (.int lb), .val (.int ya), .val (.int yb), .val (.ref b1), .val (.ref b17), .val (.int (p2 &&& (2147483647 : Int32))), .val (.int (if sy = (0 : Int32) then (p3 &&& (2147483647 : Int32)) else (p2 &&& (2147483647 : Int32)))), .val (.ref b40), .val (.int (p5 &&& (3 : Int32))), .unset, .unset, .unset] [])
        refine own_st (fun t k => XS.aload X53.here hx rfl (hb hby at_219) rfl rfl k) ?_
        refine own_st (fun t k => XS.aload X53.here hx rfl (hb hby at_221) rfl rfl k) ?_
        show own_Go _ _ _ _ T53 (mkF m 223 #[.val (.int p0), .val (.int p1), .val (.int p2), .val (.int p3), .val (.int p4), .val (.int p5), .val (.int sn), .val (.int sy), .val (.int la), .val (.int xa), .val (.int xb), .val (.int lb), .val (.int ya), .val (.int yb), .val (.ref b1), .val (.ref b17), .val (.int (p2 &&& (2147483647 : Int32))), .val (.int (if sy = (0 : Int32) then (p3 &&& (2147483647 : Int32)) else (p2 &&& (2147483647 : Int32)))), .val (.ref b40), .val (.int (p5 &&& (3 : Int32))), .unset, .unset, .unset] [(.ref b1), (.ref b40)])
        have A1_61 := (A1_45.keep K53)
        have K0_63 := (K0_54.trans K53 (allS ((Or.inr sz_b40)) (allS ((Or.inr sz_b1)) all0)))
        have A40_64 := (A40.keep K53)
        obtain ⟨cq62, kq62, q62a, q62b, q62c⟩ := isOf hZ53 rfl A40_64
        obtain ⟨_, _, ⟨T62, L62, k62, n62⟩, -, X62, ⟨Lc62, hQ62, l62, y62, z62⟩, st62⟩ := X53.virtualBack hx (y := (⟨"com/example/libhorn/libhorn/data/Relation", "equals", "(Ljava/lang/Object;)Z"⟩ : MethodName)) (z := (⟨"com/example/libhorn/libhorn/data/Relation", "equals", "(Ljava/lang/Object;)Z"⟩ : MethodName)) hown53 (mvT hZ53 (hw _ (List.mem_of_getElem? (i := 92) rfl))) (mvT hZ53 (hw _ (List.mem_of_getElem? (i := 93) rfl))) (notFace_of_selects (args := #[]) (mvT hZ53 (hw _ (List.mem_of_getElem? (i := 95) rfl)))) (mvT hZ53 (hw _ (List.mem_of_getElem? (i := 95) rfl))) (mvT hZ53 (hw _ (List.mem_of_getElem? (i := 94) rfl))) (by decide) (backOf (W := 0) (rm15s l Z a0 hw [] b40 b1  T53.heap n0 (Nat.le_trans Z0 K0_63.1) A1_61) hZ53 (hw _ (List.mem_of_getElem? (i := 96) rfl)) (hw _ (List.mem_of_getElem? (i := 29) rfl)) (by decide) (by decide)) q62a q62c (g := (mkF m 223 #[.val (.int p0), .val (.int p1), .val (.int p2), .val (.int p3), .val (.int p4), .val (.int p5), .val (.int sn), .val (.int sy), .val (.int la), .val (.int xa), .val (.int xb), .val (.int lb), .val (.int ya), .val (.int yb), .val (.ref b1), .val (.ref b17), .val (.int (p2 &&& (2147483647 : Int32))), .val (.int (if sy = (0 : Int32) then (p3 &&& (2147483647 : Int32)) else (p2 &&& (2147483647 : Int32)))), .val (.ref b40), .val (.int (p5 &&& (3 : Int32))), .unset, .unset, .unset] [(.ref b1), (.ref b40)])) rfl (by rw [hml]; rfl) (Steps.refl _) (argsL := [(.ref b1)]) (rest := []) (lenOf pd__28Ljava_2flang_2fObject_3b_29Z rfl) rfl (by show 2 * 0 + _ ≤ _; exact Nat.le_of_eq rfl) (hb hby at_223) (fun _ _ => ⟨rfl, rfl, (by decide : 17 + 0 ≤ _), (by decide : 54 + 0 ≤ _)⟩)
        dsimp only [Pt.U, Pt.locs, Pt.cells, Pt.slots] at X62 l62 y62 z62 st62 hQ62
        subst l62 y62 z62
        obtain ⟨rfl, N62q, e62⟩ := hQ62
        obtain ⟨_, X62, N62⟩ := own_hide X62 (Fr.app N53 N62q)
        refine own_tr st62 ?_
        show own_Go _ _ _ _ T62 (mkF m 226 #[.val (.int p0), .val (.int p1), .val (.int p2), .val (.int p3), .val (.int p4), .val (.int p5), .val (.int sn), .val (.int sy), .val (.int la), .val (.int xa), .val (.int xb), .val (.int lb), .val (.int ya), .val (.int yb), .val (.ref b1), .val (.ref b17), .val (.int (p2 &&& (2147483647 : Int32))), .val (.int (if sy = (0 : Int32) then (p3 &&& (2147483647 : Int32)) else (p2 &&& (2147483647 : Int32)))), .val (.ref b40), .val (.int (p5 &&& (3 : Int32))), .unset, .unset, .unset] [(.int (0 : Int32))])
        refine own_st (fun t k => XS.ifNo X62.here hx rfl (hb hby at_226) rfl ((if0 _ _).trans (teq (by decide : (0 : Int32) = (0 : Int32))).2) k) ?_
        show own_Go _ _ _ _ T62 (mkF m 229 #[.val (.int p0), .val (.int p1), .val (.int p2), .val (.int p3), .val (.int p4), .val (.int p5), .val (.int sn), .val (.int sy), .val (.int la), .val (.int xa), .val (.int xb), .val (.int lb), .val (.int ya), .val (.int yb), .val (.ref b1), .val (.ref b17), .val (.int (p2 &&& (2147483647 : Int32))), .val (.int (if sy = (0 : Int32) then (p3 &&& (2147483647 : Int32)) else (p2 &&& (2147483647 : Int32)))), .val (.ref b40), .val (.int (p5 &&& (3 : Int32))), .unset, .unset, .unset] [])
        refine own_st (fun t k => XS.iconst X62.here hx rfl (hb hby at_229) k) ?_
        refine own_st (fun t k => XS.goto X62.here hx rfl (pc0 := 230) (pc' := 234) rfl (hb hby at_230) (by decide) (by decide) k) ?_
        show own_Go _ _ _ _ T62 (mkF m 234 #[.val (.int p0), .val (.int p1), .val (.int p2), .val (.int p3), .val (.int p4), .val (.int p5), .val (.int sn), .val (.int sy), .val (.int la), .val (.int xa), .val (.int xb), .val (.int lb), .val (.int ya), .val (.int yb), .val (.ref b1), .val (.ref b17), .val (.int (p2 &&& (2147483647 : Int32))), .val (.int (if sy = (0 : Int32) then (p3 &&& (2147483647 : Int32)) else (p2 &&& (2147483647 : Int32)))), .val (.ref b40), .val (.int (p5 &&& (3 : Int32))), .unset, .unset, .unset] [(.int (1 : Int32))])
        exact own_retNW X62 hS53 (by rw [e62]; exact (Nat.le_refl T53.heap.size)) hx hlk (t := .boolean) hrt (by simp) (hb hby at_234) ⟨rfl, N62⟩ (by decide) (by decide)
      ·
        refine own_st (fun t k => XS.icmpYes X53.here hx rfl (pc0 := 216) (pc' := 235) rfl (hb hby at_216) rfl (feq c216_60).2 (by decide) (by decide) k) ?_
        show own_Go _ _ _ _ T53 (mkF m 235 #[.val (.int p0), .val (.int p1), .val (.int p2), .val (.int p3), .val (.int p4), .val (.int p5), .val (.int sn), .val (.int sy), .val (.int la), .val (.int xa), .val (.int xb), .val (.int lb), .val (.int ya), .val (.int yb), .val (.ref b1), .val (.ref b17), .val (.int (p2 &&& (2147483647 : Int32))), .val (.int (if sy = (0 : Int32) then (p3 &&& (2147483647 : Int32)) else (p2 &&& (2147483647 : Int32)))), .val (.ref b40), .val (.int (p5 &&& (3 : Int32))), .unset, .unset, .unset] [])
        refine own_st (fun t k => XS.iload X53.here hx rfl (hb hby at_235) rfl k) ?_
        refine own_st (fun t k => XS.iconst X53.here hx rfl (hb hby at_237) k) ?_
        by_cases c238_65 : (p5 &&& (3 : Int32)) = (3 : Int32)
        ·
          refine own_st (fun t k => XS.icmpNo X53.here hx rfl (hb hby at_238) rfl (teq c238_65).2 k) ?_
          show own_Go _ _ _ _ T53 (mkF m 241 #[.val (.int p0), .val (.int p1), .val (.int p2), .val (.int p3), .val (.int p4), .val (.int p5), .val (.int sn), .val (.int sy), .val (.int la), .val (.int xa), .val (.int xb), .val (.int lb), .val (.int ya), .val (.int yb), .val (.ref b1), .val (.ref b17), .val (.int (p2 &&& (2147483647 : Int32))), .val (.int (if sy = (0 : Int32) then (p3 &&& (2147483647 : Int32)) else (p2 &&& (2147483647 : Int32)))), .val (.ref b40), .val (.int (p5 &&& (3 : Int32))), .unset, .unset, .unset] [])
          refine own_st (fun t k => XS.aload X53.here hx rfl (hb hby at_241) rfl rfl k) ?_
          refine own_st (fun t k => XS.aload X53.here hx rfl (hb hby at_243) rfl rfl k) ?_
          show own_Go _ _ _ _ T53 (mkF m 245 #[.val (.int p0), .val (.int p1), .val (.int p2), .val (.int p3), .val (.int p4), .val (.int p5), .val (.int sn), .val (.int sy), .val (.int la), .val (.int xa), .val (.int xb), .val (.int lb), .val (.int ya), .val (.int yb), .val (.ref b1), .val (.ref b17), .val (.int (p2 &&& (2147483647 : Int32))), .val (.int (if sy = (0 : Int32) then (p3 &&& (2147483647 : Int32)) else (p2 &&& (2147483647 : Int32)))), .val (.ref b40), .val (.int (p5 &&& (3 : Int32))), .unset, .unset, .unset] [(.ref b40), (.ref b40)])
          have A40_66 := (A40.keep K53)
          have V10_67 := (V10_50.keep K53 (ninS ne_b10_b40 (ninS nb10 nin0)))
          have A1_68 := (A1_45.keep K53)
          have O0_69 := (O0_52.keep K53 (allS g_b40 (allS g_b1 all0)))
          have K0_71 := (K0_54.trans K53 (allS ((Or.inr sz_b40)) (allS ((Or.inr sz_b1)) all0)))
          obtain ⟨cq70, kq70, q70a, q70b, q70c⟩ := isOf hZ53 rfl A40_66
          obtain ⟨_, _, ⟨T70, L70, k70, n70⟩, -, X70, ⟨Lc70, hQ70, l70, y70, z70⟩, st70⟩ := X53.virtualBack hx (y := (⟨"com/example/libhorn/libhorn/data/Relation", "equals", "(Ljava/lang/Object;)Z"⟩ : MethodName)) (z := (⟨"com/example/libhorn/libhorn/data/Relation", "equals", "(Ljava/lang/Object;)Z"⟩ : MethodName)) hown53 (mvT hZ53 (hw _ (List.mem_of_getElem? (i := 92) rfl))) (mvT hZ53 (hw _ (List.mem_of_getElem? (i := 93) rfl))) (notFace_of_selects (args := #[]) (mvT hZ53 (hw _ (List.mem_of_getElem? (i := 95) rfl)))) (mvT hZ53 (hw _ (List.mem_of_getElem? (i := 95) rfl))) (mvT hZ53 (hw _ (List.mem_of_getElem? (i := 94) rfl))) (by decide) (backOf (W := 0) (rm15r l Z a0 hw [] b40 b40 b1 (p2 &&& (2147483647 : Int32)) b1 (p2 &&& (2147483647 : Int32)) b10 b10 k10v k10v la la (nar .byte ((nar .char xa).toInt8.toInt32)) (nar .byte ((nar .char xb).toInt8.toInt32)) (nar .byte ((nar .char xa).toInt8.toInt32)) (nar .byte ((nar .char xb).toInt8.toInt32)) cs ca cc  T53.heap n0 (Nat.le_trans Z0 K0_71.1) R53a R53b A40_66 R53a R53b A1_68 R53c R53d A1_68 R53c R53d V10_67 V10_67 hla G O0_69) hZ53 (hw _ (List.mem_of_getElem? (i := 96) rfl)) (hw _ (List.mem_of_getElem? (i := 29) rfl)) (by decide) (by decide)) q70a q70c (g := (mkF m 245 #[.val (.int p0), .val (.int p1), .val (.int p2), .val (.int p3), .val (.int p4), .val (.int p5), .val (.int sn), .val (.int sy), .val (.int la), .val (.int xa), .val (.int xb), .val (.int lb), .val (.int ya), .val (.int yb), .val (.ref b1), .val (.ref b17), .val (.int (p2 &&& (2147483647 : Int32))), .val (.int (if sy = (0 : Int32) then (p3 &&& (2147483647 : Int32)) else (p2 &&& (2147483647 : Int32)))), .val (.ref b40), .val (.int (p5 &&& (3 : Int32))), .unset, .unset, .unset] [(.ref b40), (.ref b40)])) rfl (by rw [hml]; rfl) (Steps.refl _) (argsL := [(.ref b40)]) (rest := []) (lenOf pd__28Ljava_2flang_2fObject_3b_29Z rfl) rfl (by show 2 * 0 + _ ≤ _; exact Nat.le_of_eq rfl) (hb hby at_245) (fun _ _ => ⟨rfl, rfl, (by decide : 17 + 0 ≤ _), (by decide : 54 + 0 ≤ _)⟩)
          dsimp only [Pt.U, Pt.locs, Pt.cells, Pt.slots] at X70 l70 y70 z70 st70 hQ70
          subst l70 y70 z70
          obtain ⟨rfl, N70q, e70⟩ := hQ70
          obtain ⟨_, X70, N70⟩ := own_hide X70 (Fr.app N53 N70q)
          refine own_tr st70 ?_
          show own_Go _ _ _ _ T70 (mkF m 248 #[.val (.int p0), .val (.int p1), .val (.int p2), .val (.int p3), .val (.int p4), .val (.int p5), .val (.int sn), .val (.int sy), .val (.int la), .val (.int xa), .val (.int xb), .val (.int lb), .val (.int ya), .val (.int yb), .val (.ref b1), .val (.ref b17), .val (.int (p2 &&& (2147483647 : Int32))), .val (.int (if sy = (0 : Int32) then (p3 &&& (2147483647 : Int32)) else (p2 &&& (2147483647 : Int32)))), .val (.ref b40), .val (.int (p5 &&& (3 : Int32))), .unset, .unset, .unset] [(.int (own_re b1 (p2 &&& (2147483647 : Int32)) b1 (p2 &&& (2147483647 : Int32)) la la (nar .byte ((nar .char xa).toInt8.toInt32)) (nar .byte ((nar .char xb).toInt8.toInt32)) (nar .byte ((nar .char xa).toInt8.toInt32)) (nar .byte ((nar .char xb).toInt8.toInt32))))])
          exact own_retNW X70 hS53 (by rw [e70]; exact (Nat.le_refl T53.heap.size)) hx hlk (t := .boolean) hrt (by simp) (hb hby at_248) ⟨(by rw [own_self]; rfl), N70⟩ (by decide) (by decide)
        ·
          refine own_st (fun t k => XS.icmpYes X53.here hx rfl (pc0 := 238) (pc' := 249) rfl (hb hby at_238) rfl (feq c238_65).2 (by decide) (by decide) k) ?_
          show own_Go _ _ _ _ T53 (mkF m 249 #[.val (.int p0), .val (.int p1), .val (.int p2), .val (.int p3), .val (.int p4), .val (.int p5), .val (.int sn), .val (.int sy), .val (.int la), .val (.int xa), .val (.int xb), .val (.int lb), .val (.int ya), .val (.int yb), .val (.ref b1), .val (.ref b17), .val (.int (p2 &&& (2147483647 : Int32))), .val (.int (if sy = (0 : Int32) then (p3 &&& (2147483647 : Int32)) else (p2 &&& (2147483647 : Int32)))), .val (.ref b40), .val (.int (p5 &&& (3 : Int32))), .unset, .unset, .unset] [])
          have K0_72 := (K0_54.trans K53 (allS ((Or.inr sz_b40)) (allS ((Or.inr sz_b1)) all0)))
          obtain ⟨T73, h73, X73, e73, E73, A73, D73, -, st73⟩ := newO X53 hx hZ53 hown53 (hw _ (List.mem_of_getElem? (i := 27) rfl)) (hw _ (List.mem_of_getElem? (i := 28) rfl)) (hw _ (List.mem_of_getElem? (i := 29) rfl)) rfl (g := (mkF m 249 #[.val (.int p0), .val (.int p1), .val (.int p2), .val (.int p3), .val (.int p4), .val (.int p5), .val (.int sn), .val (.int sy), .val (.int la), .val (.int xa), .val (.int xb), .val (.int lb), .val (.int ya), .val (.int yb), .val (.ref b1), .val (.ref b17), .val (.int (p2 &&& (2147483647 : Int32))), .val (.int (if sy = (0 : Int32) then (p3 &&& (2147483647 : Int32)) else (p2 &&& (2147483647 : Int32)))), .val (.ref b40), .val (.int (p5 &&& (3 : Int32))), .unset, .unset, .unset] [])) rfl (hb hby at_249) (by decide) (by decide)
          obtain ⟨b73, g73⟩ : ∃ z, z = T53.heap.size := ⟨_, rfl⟩
          rw [← g73] at A73 D73 st73
          have sz_b73 : h0.size ≤ b73 := Nat.le_trans K0_72.1 (Nat.le_of_eq g73.symm)
          have g_b73 : n0 ≤ b73 := Nat.le_trans Z0 sz_b73
          have A1_74 := (A1_45.keep K53)
          have ne_b1_b73 : b1 ≠ b73 := Nat.ne_of_lt (Nat.lt_of_lt_of_le A1_74.lt (Nat.le_of_eq g73.symm))
          have V2_75 := ((V2_41.ext E40).keep K53 (ninS ne_b2_b40 (ninS (Ne.symm ne_b1_b2) nin0)))
          have ne_b2_b73 : b2 ≠ b73 := Nat.ne_of_lt (Nat.lt_of_lt_of_le V2_75.lt (Nat.le_of_eq g73.symm))
          have V10_76 := (V10_50.keep K53 (ninS ne_b10_b40 (ninS nb10 nin0)))
          have ne_b10_b73 : b10 ≠ b73 := Nat.ne_of_lt (Nat.lt_of_lt_of_le V10_76.lt (Nat.le_of_eq g73.symm))
          have A17_77 := ((A17_43.ext E40).keep K53)
          have ne_b17_b73 : b17 ≠ b73 := Nat.ne_of_lt (Nat.lt_of_lt_of_le A17_77.lt (Nat.le_of_eq g73.symm))
          have V20_78 := ((V20_44.ext E40).keep K53 (ninS ne_b20_b40 (ninS (Ne.symm ne_b1_b20) nin0)))
          have ne_b20_b73 : b20 ≠ b73 := Nat.ne_of_lt (Nat.lt_of_lt_of_le V20_78.lt (Nat.le_of_eq g73.symm))
          have V31_79 := ((V31.ext E40).keep K53 (ninS ne_b31_b40 (ninS (Ne.symm ne_b1_b31) nin0)))
          have ne_b31_b73 : b31 ≠ b73 := Nat.ne_of_lt (Nat.lt_of_lt_of_le V31_79.lt (Nat.le_of_eq g73.symm))
          have A40_80 := (A40.keep K53)
          have ne_b40_b73 : b40 ≠ b73 := Nat.ne_of_lt (Nat.lt_of_lt_of_le A40_80.lt (Nat.le_of_eq g73.symm))
          have F73_name : Fld Z h73 b73 "com/example/libhorn/libhorn/data/Relation" "name" "Ljava/lang/String;" .null := D73 (Or.inr (hw _ (List.mem_of_getElem? (i := 41) rfl))) (ty := (.object "java/lang/String")) (by decide)
          have F73_arity : Fld Z h73 b73 "com/example/libhorn/libhorn/data/Relation" "arity" "I" (.int (0 : Int32)) := D73 (Or.inr (hw _ (List.mem_of_getElem? (i := 43) rfl))) (ty := .int) (by decide)
          have F73_hash : Fld Z h73 b73 "com/example/libhorn/libhorn/data/Relation" "hash" "I" (.int (0 : Int32)) := D73 (Or.inr (hw _ (List.mem_of_getElem? (i := 91) rfl))) (ty := .int) (by decide)
          refine own_st st73 ?_
          show own_Go _ _ _ _ T73 (mkF m 252 #[.val (.int p0), .val (.int p1), .val (.int p2), .val (.int p3), .val (.int p4), .val (.int p5), .val (.int sn), .val (.int sy), .val (.int la), .val (.int xa), .val (.int xb), .val (.int lb), .val (.int ya), .val (.int yb), .val (.ref b1), .val (.ref b17), .val (.int (p2 &&& (2147483647 : Int32))), .val (.int (if sy = (0 : Int32) then (p3 &&& (2147483647 : Int32)) else (p2 &&& (2147483647 : Int32)))), .val (.ref b40), .val (.int (p5 &&& (3 : Int32))), .unset, .unset, .unset] [(.ref b73)])
          refine own_st (fun t k => XS.dup X73.here hx rfl (hb hby at_252) rfl rfl k) ?_
          show own_Go _ _ _ _ T73 (mkF m 253 #[.val (.int p0), .val (.int p1), .val (.int p2), .val (.int p3), .val (.int p4), .val (.int p5), .val (.int sn), .val (.int sy), .val (.int la), .val (.int xa), .val (.int xb), .val (.int lb), .val (.int ya), .val (.int yb), .val (.ref b1), .val (.ref b17), .val (.int (p2 &&& (2147483647 : Int32))), .val (.int (if sy = (0 : Int32) then (p3 &&& (2147483647 : Int32)) else (p2 &&& (2147483647 : Int32)))), .val (.ref b40), .val (.int (p5 &&& (3 : Int32))), .unset, .unset, .unset] [(.ref b73), (.ref b73)])
          refine own_st (fun t k => XS.aload X73.here hx rfl (hb hby at_253) rfl rfl k) ?_
          refine own_st (fun t k => XS.iload X73.here hx rfl (hb hby at_255) rfl k) ?_
          show own_Go _ _ _ _ T73 (mkF m 257 #[.val (.int p0), .val (.int p1), .val (.int p2), .val (.int p3), .val (.int p4), .val (.int p5), .val (.int sn), .val (.int sy), .val (.int la), .val (.int xa), .val (.int xb), .val (.int lb), .val (.int ya), .val (.int yb), .val (.ref b1), .val (.ref b17), .val (.int (p2 &&& (2147483647 : Int32))), .val (.int (if sy = (0 : Int32) then (p3 &&& (2147483647 : Int32)) else (p2 &&& (2147483647 : Int32)))), .val (.ref b40), .val (.int (p5 &&& (3 : Int32))), .unset, .unset, .unset] [(.int (if sy = (0 : Int32) then (p3 &&& (2147483647 : Int32)) else (p2 &&& (2147483647 : Int32)))), (.ref b17), (.ref b73), (.ref b73)])
          have A17_81 := (A17_77.ext E73)
          have S31a_82 := (((S31a.ext E40).keep K53 (ninS ne_b17_b40 (ninS (Ne.symm ne_b1_b17) nin0))).ext E73)
          have S31b_83 := (((S31b.ext E40).keep K53 (ninS ne_b17_b40 (ninS (Ne.symm ne_b1_b17) nin0))).ext E73)
          have S31c_84 := (((S31c.ext E40).keep K53 (ninS ne_b17_b40 (ninS (Ne.symm ne_b1_b17) nin0))).ext E73)
          have S31d_85 := (((S31d.ext E40).keep K53 (ninS ne_b17_b40 (ninS (Ne.symm ne_b1_b17) nin0))).ext E73)
          have V31_86 := (V31_79.ext E73)
          have P31_87 := (fun (q : lb = (2 : Int32)) => ((fun (q : lb = (2 : Int32)) => ((fun (q : lb = (2 : Int32)) => (P31 q).ext E40) q).keep K53) q).ext E73)
          have O0_88 := ((O0_52.keep K53 (allS g_b40 (allS g_b1 all0))).ext E73)
          have K0_90 := (K0_72.ext E73)
          have hkz53_91 := (Nat.le_trans (Nat.le_refl T53.heap.size) E73.1)
          obtain ⟨_, _, ⟨T89, L89, k89, n89⟩, -, X89, hs89, hg89, ⟨Lc89, hQ89, l89, y89, z89⟩, st89⟩ := X73.specialBackS hx (y := (⟨"com/example/libhorn/libhorn/data/Relation", "<init>", "(Ljava/lang/String;I)V"⟩ : MethodName)) rfl hown53 (mvT hZ53 (hw _ (List.mem_of_getElem? (i := 30) rfl))) (mvT hZ53 (hw _ (List.mem_of_getElem? (i := 31) rfl))) (mvT hZ53 (hw _ (List.mem_of_getElem? (i := 32) rfl))) (by decide) (backOfS (W := 1) (rm5 l Z a0 hw [] b73 b17 (if sy = (0 : Int32) then (p3 &&& (2147483647 : Int32)) else (p2 &&& (2147483647 : Int32))) b31 lb k31v (nar .byte ((nar .char ya).toInt8.toInt32)) (nar .byte ((nar .char yb).toInt8.toInt32)) cs ca cc  h73 n0 (Nat.le_trans Z0 K0_90.1) A73 F73_name F73_arity F73_hash g_b73 A17_81 S31a_82 S31b_83 S31c_84 S31d_85 g_b17 V31_86 hlb P31_87 nb31 G O0_88 (own_nn2 _ _ _) (Ne.symm ne_b17_b73) ne_b31_b73) hZ53 (hw _ (List.mem_of_getElem? (i := 32) rfl)) (hw _ (List.mem_of_getElem? (i := 29) rfl)) (by decide) (by decide)) (g := (mkF m 257 #[.val (.int p0), .val (.int p1), .val (.int p2), .val (.int p3), .val (.int p4), .val (.int p5), .val (.int sn), .val (.int sy), .val (.int la), .val (.int xa), .val (.int xb), .val (.int lb), .val (.int ya), .val (.int yb), .val (.ref b1), .val (.ref b17), .val (.int (p2 &&& (2147483647 : Int32))), .val (.int (if sy = (0 : Int32) then (p3 &&& (2147483647 : Int32)) else (p2 &&& (2147483647 : Int32)))), .val (.ref b40), .val (.int (p5 &&& (3 : Int32))), .unset, .unset, .unset] [(.int (if sy = (0 : Int32) then (p3 &&& (2147483647 : Int32)) else (p2 &&& (2147483647 : Int32)))), (.ref b17), (.ref b73), (.ref b73)])) rfl (by rw [hml]; rfl) (Steps.refl _) (a := b73) (argsL := [(.ref b17), (.int (if sy = (0 : Int32) then (p3 &&& (2147483647 : Int32)) else (p2 &&& (2147483647 : Int32))))]) (rest := [(.ref b73)]) (lenOf pd__28Ljava_2flang_2fString_3bI_29V rfl) rfl (by show 2 * 0 + _ ≤ _; exact Nat.le_of_eq rfl) (hb hby at_257) (fun _ _ => ⟨rfl, e73, (by decide : 18 + 4 ≤ _), (by decide : 57 + 23 ≤ _)⟩)
          dsimp only [Pt.U, Pt.locs, Pt.cells, Pt.slots] at X89 l89 y89 z89 st89 hQ89 hs89 hg89
          subst l89 y89 z89
          obtain ⟨rfl, N89q, K89, R89a, R89b, R89c, R89d⟩ := hQ89
          obtain ⟨_, X89, N89⟩ := own_hide X89 (Fr.app N53 N89q)
          have X89 := own_fold X89
          have hS89 := foldS hS53 (by rw [e73]; exact hkz53_91) hs89 hg89
          have hZ89 : Z.Warmed39 (s.setVm T89.vm).vm := own_wz hZ53 hs89
          have hown89 : (s.setVm T89.vm).vm.findClass "com/example/libhorn/libhorn/data/RelationEqualsPinLaw" = some m.cls := own_wo hown53 hs89
          refine own_tr st89 ?_
          show own_Go _ _ _ _ T89 (mkF m 260 #[.val (.int p0), .val (.int p1), .val (.int p2), .val (.int p3), .val (.int p4), .val (.int p5), .val (.int sn), .val (.int sy), .val (.int la), .val (.int xa), .val (.int xb), .val (.int lb), .val (.int ya), .val (.int yb), .val (.ref b1), .val (.ref b17), .val (.int (p2 &&& (2147483647 : Int32))), .val (.int (if sy = (0 : Int32) then (p3 &&& (2147483647 : Int32)) else (p2 &&& (2147483647 : Int32)))), .val (.ref b40), .val (.int (p5 &&& (3 : Int32))), .unset, .unset, .unset] [(.ref b73)])
          refine own_st (fun t k => XS.astore X89.here hx rfl (hb hby at_260) rfl rfl (l' := #[.val (.int p0), .val (.int p1), .val (.int p2), .val (.int p3), .val (.int p4), .val (.int p5), .val (.int sn), .val (.int sy), .val (.int la), .val (.int xa), .val (.int xb), .val (.int lb), .val (.int ya), .val (.int yb), .val (.ref b1), .val (.ref b17), .val (.int (p2 &&& (2147483647 : Int32))), .val (.int (if sy = (0 : Int32) then (p3 &&& (2147483647 : Int32)) else (p2 &&& (2147483647 : Int32)))), .val (.ref b40), .val (.int (p5 &&& (3 : Int32))), .val (.ref b73), .unset, .unset]) rfl k) ?_
          show own_Go _ _ _ _ T89 (mkF m 262 #[.val (.int p0), .val (.int p1), .val (.int p2), .val (.int p3), .val (.int p4), .val (.int p5), .val (.int sn), .val (.int sy), .val (.int la), .val (.int xa), .val (.int xb), .val (.int lb), .val (.int ya), .val (.int yb), .val (.ref b1), .val (.ref b17), .val (.int (p2 &&& (2147483647 : Int32))), .val (.int (if sy = (0 : Int32) then (p3 &&& (2147483647 : Int32)) else (p2 &&& (2147483647 : Int32)))), .val (.ref b40), .val (.int (p5 &&& (3 : Int32))), .val (.ref b73), .unset, .unset] [])
          refine own_st (fun t k => XS.iload X89.here hx rfl (hb hby at_262) rfl k) ?_
          refine own_st (fun t k => XS.iload X89.here hx rfl (hb hby at_264) rfl k) ?_
          by_cases c266_92 : la = lb
          ·
            refine own_st (fun t k => XS.icmpNo X89.here hx rfl (hb hby at_266) rfl (teq c266_92).2 k) ?_
            show own_Go _ _ _ _ T89 (mkF m 269 #[.val (.int p0), .val (.int p1), .val (.int p2), .val (.int p3), .val (.int p4), .val (.int p5), .val (.int sn), .val (.int sy), .val (.int la), .val (.int xa), .val (.int xb), .val (.int lb), .val (.int ya), .val (.int yb), .val (.ref b1), .val (.ref b17), .val (.int (p2 &&& (2147483647 : Int32))), .val (.int (if sy = (0 : Int32) then (p3 &&& (2147483647 : Int32)) else (p2 &&& (2147483647 : Int32)))), .val (.ref b40), .val (.int (p5 &&& (3 : Int32))), .val (.ref b73), .unset, .unset] [])
            refine own_st (fun t k => XS.iload X89.here hx rfl (hb hby at_269) rfl k) ?_
            refine own_st (fun t k => XS.iconst X89.here hx rfl (hb hby at_271) k) ?_
            show own_Go _ _ _ _ T89 (mkF m 272 #[.val (.int p0), .val (.int p1), .val (.int p2), .val (.int p3), .val (.int p4), .val (.int p5), .val (.int sn), .val (.int sy), .val (.int la), .val (.int xa), .val (.int xb), .val (.int lb), .val (.int ya), .val (.int yb), .val (.ref b1), .val (.ref b17), .val (.int (p2 &&& (2147483647 : Int32))), .val (.int (if sy = (0 : Int32) then (p3 &&& (2147483647 : Int32)) else (p2 &&& (2147483647 : Int32)))), .val (.ref b40), .val (.int (p5 &&& (3 : Int32))), .val (.ref b73), .unset, .unset] [(.int (1 : Int32)), (.int la)])
            by_cases c272_93 : la < (1 : Int32)
            ·
              refine own_st (fun t k => XS.icmpYes X89.here hx rfl (pc0 := 272) (pc' := 282) rfl (hb hby at_272) rfl (tlt c272_93).1 (by decide) (by decide) k) ?_
              show own_Go _ _ _ _ T89 (mkF m 282 #[.val (.int p0), .val (.int p1), .val (.int p2), .val (.int p3), .val (.int p4), .val (.int p5), .val (.int sn), .val (.int sy), .val (.int la), .val (.int xa), .val (.int xb), .val (.int lb), .val (.int ya), .val (.int yb), .val (.ref b1), .val (.ref b17), .val (.int (p2 &&& (2147483647 : Int32))), .val (.int (if sy = (0 : Int32) then (p3 &&& (2147483647 : Int32)) else (p2 &&& (2147483647 : Int32)))), .val (.ref b40), .val (.int (p5 &&& (3 : Int32))), .val (.ref b73), .unset, .unset] [])
              refine own_st (fun t k => XS.iload X89.here hx rfl (hb hby at_282) rfl k) ?_
              refine own_st (fun t k => XS.iconst X89.here hx rfl (hb hby at_284) k) ?_
              refine own_st (fun t k => XS.icmpYes X89.here hx rfl (pc0 := 285) (pc' := 295) rfl (hb hby at_285) rfl (tlt (own_lt12 c272_93 : la < (2 : Int32))).1 (by decide) (by decide) k) ?_
              show own_Go _ _ _ _ T89 (mkF m 295 #[.val (.int p0), .val (.int p1), .val (.int p2), .val (.int p3), .val (.int p4), .val (.int p5), .val (.int sn), .val (.int sy), .val (.int la), .val (.int xa), .val (.int xb), .val (.int lb), .val (.int ya), .val (.int yb), .val (.ref b1), .val (.ref b17), .val (.int (p2 &&& (2147483647 : Int32))), .val (.int (if sy = (0 : Int32) then (p3 &&& (2147483647 : Int32)) else (p2 &&& (2147483647 : Int32)))), .val (.ref b40), .val (.int (p5 &&& (3 : Int32))), .val (.ref b73), .unset, .unset] [])
              refine own_st (fun t k => XS.iconst X89.here hx rfl (hb hby at_295) k) ?_
              refine own_st (fun t k => XS.goto X89.here hx rfl (pc0 := 296) (pc' := 300) rfl (hb hby at_296) (by decide) (by decide) k) ?_
              show own_Go _ _ _ _ T89 (mkF m 300 #[.val (.int p0), .val (.int p1), .val (.int p2), .val (.int p3), .val (.int p4), .val (.int p5), .val (.int sn), .val (.int sy), .val (.int la), .val (.int xa), .val (.int xb), .val (.int lb), .val (.int ya), .val (.int yb), .val (.ref b1), .val (.ref b17), .val (.int (p2 &&& (2147483647 : Int32))), .val (.int (if sy = (0 : Int32) then (p3 &&& (2147483647 : Int32)) else (p2 &&& (2147483647 : Int32)))), .val (.ref b40), .val (.int (p5 &&& (3 : Int32))), .val (.ref b73), .unset, .unset] [(.int (1 : Int32))])
              refine own_st (fun t k => XS.istore X89.here hx rfl (hb hby at_300) rfl (l' := #[.val (.int p0), .val (.int p1), .val (.int p2), .val (.int p3), .val (.int p4), .val (.int p5), .val (.int sn), .val (.int sy), .val (.int la), .val (.int xa), .val (.int xb), .val (.int lb), .val (.int ya), .val (.int yb), .val (.ref b1), .val (.ref b17), .val (.int (p2 &&& (2147483647 : Int32))), .val (.int (if sy = (0 : Int32) then (p3 &&& (2147483647 : Int32)) else (p2 &&& (2147483647 : Int32)))), .val (.ref b40), .val (.int (p5 &&& (3 : Int32))), .val (.ref b73), .val (.int (1 : Int32)), .unset]) rfl k) ?_
              show own_Go _ _ _ _ T89 (mkF m 302 #[.val (.int p0), .val (.int p1), .val (.int p2), .val (.int p3), .val (.int p4), .val (.int p5), .val (.int sn), .val (.int sy), .val (.int la), .val (.int xa), .val (.int xb), .val (.int lb), .val (.int ya), .val (.int yb), .val (.ref b1), .val (.ref b17), .val (.int (p2 &&& (2147483647 : Int32))), .val (.int (if sy = (0 : Int32) then (p3 &&& (2147483647 : Int32)) else (p2 &&& (2147483647 : Int32)))), .val (.ref b40), .val (.int (p5 &&& (3 : Int32))), .val (.ref b73), .val (.int (1 : Int32)), .unset] [])
              refine own_st (fun t k => XS.iload X89.here hx rfl (hb hby at_302) rfl k) ?_
              refine own_st (fun t k => XS.ifNo X89.here hx rfl (hb hby at_304) rfl ((if0 _ _).trans (feq (by decide : ¬ ((1 : Int32) = (0 : Int32)))).1) k) ?_
              show own_Go _ _ _ _ T89 (mkF m 307 #[.val (.int p0), .val (.int p1), .val (.int p2), .val (.int p3), .val (.int p4), .val (.int p5), .val (.int sn), .val (.int sy), .val (.int la), .val (.int xa), .val (.int xb), .val (.int lb), .val (.int ya), .val (.int yb), .val (.ref b1), .val (.ref b17), .val (.int (p2 &&& (2147483647 : Int32))), .val (.int (if sy = (0 : Int32) then (p3 &&& (2147483647 : Int32)) else (p2 &&& (2147483647 : Int32)))), .val (.ref b40), .val (.int (p5 &&& (3 : Int32))), .val (.ref b73), .val (.int (1 : Int32)), .unset] [])
              refine own_st (fun t k => XS.iload X89.here hx rfl (hb hby at_307) rfl k) ?_
              refine own_st (fun t k => XS.iload X89.here hx rfl (hb hby at_309) rfl k) ?_
              by_cases c311_94 : (p2 &&& (2147483647 : Int32)) = (if sy = (0 : Int32) then (p3 &&& (2147483647 : Int32)) else (p2 &&& (2147483647 : Int32)))
              ·
                refine own_st (fun t k => XS.icmpNo X89.here hx rfl (hb hby at_311) rfl (teq c311_94).2 k) ?_
                show own_Go _ _ _ _ T89 (mkF m 314 #[.val (.int p0), .val (.int p1), .val (.int p2), .val (.int p3), .val (.int p4), .val (.int p5), .val (.int sn), .val (.int sy), .val (.int la), .val (.int xa), .val (.int xb), .val (.int lb), .val (.int ya), .val (.int yb), .val (.ref b1), .val (.ref b17), .val (.int (p2 &&& (2147483647 : Int32))), .val (.int (if sy = (0 : Int32) then (p3 &&& (2147483647 : Int32)) else (p2 &&& (2147483647 : Int32)))), .val (.ref b40), .val (.int (p5 &&& (3 : Int32))), .val (.ref b73), .val (.int (1 : Int32)), .unset] [])
                refine own_st (fun t k => XS.iconst X89.here hx rfl (hb hby at_314) k) ?_
                refine own_st (fun t k => XS.goto X89.here hx rfl (pc0 := 315) (pc' := 319) rfl (hb hby at_315) (by decide) (by decide) k) ?_
                show own_Go _ _ _ _ T89 (mkF m 319 #[.val (.int p0), .val (.int p1), .val (.int p2), .val (.int p3), .val (.int p4), .val (.int p5), .val (.int sn), .val (.int sy), .val (.int la), .val (.int xa), .val (.int xb), .val (.int lb), .val (.int ya), .val (.int yb), .val (.ref b1), .val (.ref b17), .val (.int (p2 &&& (2147483647 : Int32))), .val (.int (if sy = (0 : Int32) then (p3 &&& (2147483647 : Int32)) else (p2 &&& (2147483647 : Int32)))), .val (.ref b40), .val (.int (p5 &&& (3 : Int32))), .val (.ref b73), .val (.int (1 : Int32)), .unset] [(.int (1 : Int32))])
                refine own_st (fun t k => XS.istore X89.here hx rfl (hb hby at_319) rfl (l' := #[.val (.int p0), .val (.int p1), .val (.int p2), .val (.int p3), .val (.int p4), .val (.int p5), .val (.int sn), .val (.int sy), .val (.int la), .val (.int xa), .val (.int xb), .val (.int lb), .val (.int ya), .val (.int yb), .val (.ref b1), .val (.ref b17), .val (.int (p2 &&& (2147483647 : Int32))), .val (.int (if sy = (0 : Int32) then (p3 &&& (2147483647 : Int32)) else (p2 &&& (2147483647 : Int32)))), .val (.ref b40), .val (.int (p5 &&& (3 : Int32))), .val (.ref b73), .val (.int (1 : Int32)), .val (.int (1 : Int32))]) rfl k) ?_
                show own_Go _ _ _ _ T89 (mkF m 321 #[.val (.int p0), .val (.int p1), .val (.int p2), .val (.int p3), .val (.int p4), .val (.int p5), .val (.int sn), .val (.int sy), .val (.int la), .val (.int xa), .val (.int xb), .val (.int lb), .val (.int ya), .val (.int yb), .val (.ref b1), .val (.ref b17), .val (.int (p2 &&& (2147483647 : Int32))), .val (.int (if sy = (0 : Int32) then (p3 &&& (2147483647 : Int32)) else (p2 &&& (2147483647 : Int32)))), .val (.ref b40), .val (.int (p5 &&& (3 : Int32))), .val (.ref b73), .val (.int (1 : Int32)), .val (.int (1 : Int32))] [])
                refine own_st (fun t k => XS.aload X89.here hx rfl (hb hby at_321) rfl rfl k) ?_
                refine own_st (fun t k => XS.aload X89.here hx rfl (hb hby at_323) rfl rfl k) ?_
                show own_Go _ _ _ _ T89 (mkF m 325 #[.val (.int p0), .val (.int p1), .val (.int p2), .val (.int p3), .val (.int p4), .val (.int p5), .val (.int sn), .val (.int sy), .val (.int la), .val (.int xa), .val (.int xb), .val (.int lb), .val (.int ya), .val (.int yb), .val (.ref b1), .val (.ref b17), .val (.int (p2 &&& (2147483647 : Int32))), .val (.int (if sy = (0 : Int32) then (p3 &&& (2147483647 : Int32)) else (p2 &&& (2147483647 : Int32)))), .val (.ref b40), .val (.int (p5 &&& (3 : Int32))), .val (.ref b73), .val (.int (1 : Int32)), .val (.int (1 : Int32))] [(.ref b73), (.ref b40)])
                have R53a_95 := ((R53a.ext E73).keep K89 (ninS ne_b40_b73 (ninS (Ne.symm ne_b17_b40) nin0)))
                have R53b_96 := ((R53b.ext E73).keep K89 (ninS ne_b40_b73 (ninS (Ne.symm ne_b17_b40) nin0)))
                have A73_97 := (A73.keep K89)
                have V10_98 := ((V10_76.ext E73).keep K89 (ninS ne_b10_b73 (ninS ne_b10_b17 nin0)))
                have V31_99 := (V31_86.keep K89 (ninS ne_b31_b73 (ninS nb31 nin0)))
                have A1_100 := ((A1_74.ext E73).keep K89)
                have R53c_101 := ((R53c.ext E73).keep K89 (ninS ne_b1_b73 (ninS ne_b1_b17 nin0)))
                have R53d_102 := ((R53d.ext E73).keep K89 (ninS ne_b1_b73 (ninS ne_b1_b17 nin0)))
                have A17_103 := (A17_81.keep K89)
                have O0_104 := (O0_88.keep K89 (allS g_b73 (allS g_b17 all0)))
                have K0_106 := (K0_90.trans K89 (allS ((Or.inr sz_b73)) (allS ((Or.inr sz_b17)) all0)))
                have A40_107 := ((A40_80.ext E73).keep K89)
                obtain ⟨cq105, kq105, q105a, q105b, q105c⟩ := isOf hZ89 rfl A40_107
                obtain ⟨_, _, ⟨T105, L105, k105, n105⟩, -, X105, ⟨Lc105, hQ105, l105, y105, z105⟩, st105⟩ := X89.virtualBack hx (y := (⟨"com/example/libhorn/libhorn/data/Relation", "equals", "(Ljava/lang/Object;)Z"⟩ : MethodName)) (z := (⟨"com/example/libhorn/libhorn/data/Relation", "equals", "(Ljava/lang/Object;)Z"⟩ : MethodName)) hown89 (mvT hZ89 (hw _ (List.mem_of_getElem? (i := 92) rfl))) (mvT hZ89 (hw _ (List.mem_of_getElem? (i := 93) rfl))) (notFace_of_selects (args := #[]) (mvT hZ89 (hw _ (List.mem_of_getElem? (i := 95) rfl)))) (mvT hZ89 (hw _ (List.mem_of_getElem? (i := 95) rfl))) (mvT hZ89 (hw _ (List.mem_of_getElem? (i := 94) rfl))) (by decide) (backOf (W := 0) (rm15r l Z a0 hw [] b40 b73 b1 (p2 &&& (2147483647 : Int32)) b17 (if sy = (0 : Int32) then (p3 &&& (2147483647 : Int32)) else (p2 &&& (2147483647 : Int32))) b10 b31 k10v k31v la lb (nar .byte ((nar .char xa).toInt8.toInt32)) (nar .byte ((nar .char xb).toInt8.toInt32)) (nar .byte ((nar .char ya).toInt8.toInt32)) (nar .byte ((nar .char yb).toInt8.toInt32)) cs ca cc  T89.heap n0 (Nat.le_trans Z0 K0_106.1) R53a_95 R53b_96 A73_97 R89a R89b A1_100 R53c_101 R53d_102 A17_103 R89c R89d V10_98 V31_99 hla G O0_104) hZ89 (hw _ (List.mem_of_getElem? (i := 96) rfl)) (hw _ (List.mem_of_getElem? (i := 29) rfl)) (by decide) (by decide)) q105a q105c (g := (mkF m 325 #[.val (.int p0), .val (.int p1), .val (.int p2), .val (.int p3), .val (.int p4), .val (.int p5), .val (.int sn), .val (.int sy), .val (.int la), .val (.int xa), .val (.int xb), .val (.int lb), .val (.int ya), .val (.int yb), .val (.ref b1), .val (.ref b17), .val (.int (p2 &&& (2147483647 : Int32))), .val (.int (if sy = (0 : Int32) then (p3 &&& (2147483647 : Int32)) else (p2 &&& (2147483647 : Int32)))), .val (.ref b40), .val (.int (p5 &&& (3 : Int32))), .val (.ref b73), .val (.int (1 : Int32)), .val (.int (1 : Int32))] [(.ref b73), (.ref b40)])) rfl (by rw [hml]; rfl) (Steps.refl _) (argsL := [(.ref b73)]) (rest := []) (lenOf pd__28Ljava_2flang_2fObject_3b_29Z rfl) rfl (by show 2 * 0 + _ ≤ _; exact Nat.le_of_eq rfl) (hb hby at_325) (fun _ _ => ⟨rfl, rfl, (by decide : 22 + 0 ≤ _), (by decide : 80 + 0 ≤ _)⟩)
                dsimp only [Pt.U, Pt.locs, Pt.cells, Pt.slots] at X105 l105 y105 z105 st105 hQ105
                subst l105 y105 z105
                obtain ⟨rfl, N105q, e105⟩ := hQ105
                obtain ⟨_, X105, N105⟩ := own_hide X105 (Fr.app N89 N105q)
                refine own_tr st105 ?_
                show own_Go _ _ _ _ T105 (mkF m 328 #[.val (.int p0), .val (.int p1), .val (.int p2), .val (.int p3), .val (.int p4), .val (.int p5), .val (.int sn), .val (.int sy), .val (.int la), .val (.int xa), .val (.int xb), .val (.int lb), .val (.int ya), .val (.int yb), .val (.ref b1), .val (.ref b17), .val (.int (p2 &&& (2147483647 : Int32))), .val (.int (if sy = (0 : Int32) then (p3 &&& (2147483647 : Int32)) else (p2 &&& (2147483647 : Int32)))), .val (.ref b40), .val (.int (p5 &&& (3 : Int32))), .val (.ref b73), .val (.int (1 : Int32)), .val (.int (1 : Int32))] [(.int (own_re b1 (p2 &&& (2147483647 : Int32)) b17 (if sy = (0 : Int32) then (p3 &&& (2147483647 : Int32)) else (p2 &&& (2147483647 : Int32))) la lb (nar .byte ((nar .char xa).toInt8.toInt32)) (nar .byte ((nar .char xb).toInt8.toInt32)) (nar .byte ((nar .char ya).toInt8.toInt32)) (nar .byte ((nar .char yb).toInt8.toInt32))))])
                refine own_st (fun t k => XS.iload X105.here hx rfl (hb hby at_328) rfl k) ?_
                refine own_st (fun t k => XS.icmpNo X105.here hx rfl (hb hby at_330) rfl (teq ((own_key ne_b1_b17 hla hxa hxb hya hyb).trans (if_pos ⟨⟨c266_92, Or.inl c272_93, Or.inl (own_lt12 c272_93)⟩, c311_94⟩) : (own_re b1 (p2 &&& (2147483647 : Int32)) b17 (if sy = (0 : Int32) then (p3 &&& (2147483647 : Int32)) else (p2 &&& (2147483647 : Int32))) la lb (nar .byte ((nar .char xa).toInt8.toInt32)) (nar .byte ((nar .char xb).toInt8.toInt32)) (nar .byte ((nar .char ya).toInt8.toInt32)) (nar .byte ((nar .char yb).toInt8.toInt32))) = (1 : Int32))).2 k) ?_
                show own_Go _ _ _ _ T105 (mkF m 333 #[.val (.int p0), .val (.int p1), .val (.int p2), .val (.int p3), .val (.int p4), .val (.int p5), .val (.int sn), .val (.int sy), .val (.int la), .val (.int xa), .val (.int xb), .val (.int lb), .val (.int ya), .val (.int yb), .val (.ref b1), .val (.ref b17), .val (.int (p2 &&& (2147483647 : Int32))), .val (.int (if sy = (0 : Int32) then (p3 &&& (2147483647 : Int32)) else (p2 &&& (2147483647 : Int32)))), .val (.ref b40), .val (.int (p5 &&& (3 : Int32))), .val (.ref b73), .val (.int (1 : Int32)), .val (.int (1 : Int32))] [])
                refine own_st (fun t k => XS.aload X105.here hx rfl (hb hby at_333) rfl rfl k) ?_
                refine own_st (fun t k => XS.aload X105.here hx rfl (hb hby at_335) rfl rfl k) ?_
                show own_Go _ _ _ _ T105 (mkF m 337 #[.val (.int p0), .val (.int p1), .val (.int p2), .val (.int p3), .val (.int p4), .val (.int p5), .val (.int sn), .val (.int sy), .val (.int la), .val (.int xa), .val (.int xb), .val (.int lb), .val (.int ya), .val (.int yb), .val (.ref b1), .val (.ref b17), .val (.int (p2 &&& (2147483647 : Int32))), .val (.int (if sy = (0 : Int32) then (p3 &&& (2147483647 : Int32)) else (p2 &&& (2147483647 : Int32)))), .val (.ref b40), .val (.int (p5 &&& (3 : Int32))), .val (.ref b73), .val (.int (1 : Int32)), .val (.int (1 : Int32))] [(.ref b40), (.ref b73)])
                obtain ⟨cq108, kq108, q108a, q108b, q108c⟩ := isOf hZ89 e105 A73_97
                obtain ⟨_, _, ⟨T108, L108, k108, n108⟩, -, X108, ⟨Lc108, hQ108, l108, y108, z108⟩, st108⟩ := X105.virtualBack hx (y := (⟨"com/example/libhorn/libhorn/data/Relation", "equals", "(Ljava/lang/Object;)Z"⟩ : MethodName)) (z := (⟨"com/example/libhorn/libhorn/data/Relation", "equals", "(Ljava/lang/Object;)Z"⟩ : MethodName)) hown89 (mvT hZ89 (hw _ (List.mem_of_getElem? (i := 92) rfl))) (mvT hZ89 (hw _ (List.mem_of_getElem? (i := 93) rfl))) (notFace_of_selects (args := #[]) (mvT hZ89 (hw _ (List.mem_of_getElem? (i := 95) rfl)))) (mvT hZ89 (hw _ (List.mem_of_getElem? (i := 95) rfl))) (mvT hZ89 (hw _ (List.mem_of_getElem? (i := 94) rfl))) (by decide) (backOf (W := 0) (rm15r l Z a0 hw [] b73 b40 b17 (if sy = (0 : Int32) then (p3 &&& (2147483647 : Int32)) else (p2 &&& (2147483647 : Int32))) b1 (p2 &&& (2147483647 : Int32)) b31 b10 k31v k10v lb la (nar .byte ((nar .char ya).toInt8.toInt32)) (nar .byte ((nar .char yb).toInt8.toInt32)) (nar .byte ((nar .char xa).toInt8.toInt32)) (nar .byte ((nar .char xb).toInt8.toInt32)) cs ca cc  T89.heap n0 (Nat.le_trans Z0 K0_106.1) R89a R89b A40_107 R53a_95 R53b_96 A17_103 R89c R89d A1_100 R53c_101 R53d_102 V31_99 V10_98 hlb G O0_104) hZ89 (hw _ (List.mem_of_getElem? (i := 96) rfl)) (hw _ (List.mem_of_getElem? (i := 29) rfl)) (by decide) (by decide)) q108a q108c (g := (mkF m 337 #[.val (.int p0), .val (.int p1), .val (.int p2), .val (.int p3), .val (.int p4), .val (.int p5), .val (.int sn), .val (.int sy), .val (.int la), .val (.int xa), .val (.int xb), .val (.int lb), .val (.int ya), .val (.int yb), .val (.ref b1), .val (.ref b17), .val (.int (p2 &&& (2147483647 : Int32))), .val (.int (if sy = (0 : Int32) then (p3 &&& (2147483647 : Int32)) else (p2 &&& (2147483647 : Int32)))), .val (.ref b40), .val (.int (p5 &&& (3 : Int32))), .val (.ref b73), .val (.int (1 : Int32)), .val (.int (1 : Int32))] [(.ref b40), (.ref b73)])) rfl (by rw [hml]; rfl) (Steps.refl _) (argsL := [(.ref b40)]) (rest := []) (lenOf pd__28Ljava_2flang_2fObject_3b_29Z rfl) rfl (by show 2 * 0 + _ ≤ _; exact Nat.le_of_eq rfl) (hb hby at_337) (fun _ _ => ⟨rfl, e105, (by decide : 22 + 0 ≤ _), (by decide : 80 + 0 ≤ _)⟩)
                dsimp only [Pt.U, Pt.locs, Pt.cells, Pt.slots] at X108 l108 y108 z108 st108 hQ108
                subst l108 y108 z108
                obtain ⟨rfl, N108q, e108⟩ := hQ108
                obtain ⟨_, X108, N108⟩ := own_hide X108 (Fr.app N105 N108q)
                refine own_tr st108 ?_
                show own_Go _ _ _ _ T108 (mkF m 340 #[.val (.int p0), .val (.int p1), .val (.int p2), .val (.int p3), .val (.int p4), .val (.int p5), .val (.int sn), .val (.int sy), .val (.int la), .val (.int xa), .val (.int xb), .val (.int lb), .val (.int ya), .val (.int yb), .val (.ref b1), .val (.ref b17), .val (.int (p2 &&& (2147483647 : Int32))), .val (.int (if sy = (0 : Int32) then (p3 &&& (2147483647 : Int32)) else (p2 &&& (2147483647 : Int32)))), .val (.ref b40), .val (.int (p5 &&& (3 : Int32))), .val (.ref b73), .val (.int (1 : Int32)), .val (.int (1 : Int32))] [(.int (own_re b17 (if sy = (0 : Int32) then (p3 &&& (2147483647 : Int32)) else (p2 &&& (2147483647 : Int32))) b1 (p2 &&& (2147483647 : Int32)) lb la (nar .byte ((nar .char ya).toInt8.toInt32)) (nar .byte ((nar .char yb).toInt8.toInt32)) (nar .byte ((nar .char xa).toInt8.toInt32)) (nar .byte ((nar .char xb).toInt8.toInt32))))])
                refine own_st (fun t k => XS.iload X108.here hx rfl (hb hby at_340) rfl k) ?_
                refine own_st (fun t k => XS.icmpNo X108.here hx rfl (hb hby at_342) rfl (teq ((own_sym _ _ _ _ _ _ _ _ _ _).trans ((own_key ne_b1_b17 hla hxa hxb hya hyb).trans (if_pos ⟨⟨c266_92, Or.inl c272_93, Or.inl (own_lt12 c272_93)⟩, c311_94⟩)) : (own_re b17 (if sy = (0 : Int32) then (p3 &&& (2147483647 : Int32)) else (p2 &&& (2147483647 : Int32))) b1 (p2 &&& (2147483647 : Int32)) lb la (nar .byte ((nar .char ya).toInt8.toInt32)) (nar .byte ((nar .char yb).toInt8.toInt32)) (nar .byte ((nar .char xa).toInt8.toInt32)) (nar .byte ((nar .char xb).toInt8.toInt32))) = (1 : Int32))).2 k) ?_
                show own_Go _ _ _ _ T108 (mkF m 345 #[.val (.int p0), .val (.int p1), .val (.int p2), .val (.int p3), .val (.int p4), .val (.int p5), .val (.int sn), .val (.int sy), .val (.int la), .val (.int xa), .val (.int xb), .val (.int lb), .val (.int ya), .val (.int yb), .val (.ref b1), .val (.ref b17), .val (.int (p2 &&& (2147483647 : Int32))), .val (.int (if sy = (0 : Int32) then (p3 &&& (2147483647 : Int32)) else (p2 &&& (2147483647 : Int32)))), .val (.ref b40), .val (.int (p5 &&& (3 : Int32))), .val (.ref b73), .val (.int (1 : Int32)), .val (.int (1 : Int32))] [])
                refine own_st (fun t k => XS.iconst X108.here hx rfl (hb hby at_345) k) ?_
                refine own_st (fun t k => XS.goto X108.here hx rfl (pc0 := 346) (pc' := 350) rfl (hb hby at_346) (by decide) (by decide) k) ?_
                show own_Go _ _ _ _ T108 (mkF m 350 #[.val (.int p0), .val (.int p1), .val (.int p2), .val (.int p3), .val (.int p4), .val (.int p5), .val (.int sn), .val (.int sy), .val (.int la), .val (.int xa), .val (.int xb), .val (.int lb), .val (.int ya), .val (.int yb), .val (.ref b1), .val (.ref b17), .val (.int (p2 &&& (2147483647 : Int32))), .val (.int (if sy = (0 : Int32) then (p3 &&& (2147483647 : Int32)) else (p2 &&& (2147483647 : Int32)))), .val (.ref b40), .val (.int (p5 &&& (3 : Int32))), .val (.ref b73), .val (.int (1 : Int32)), .val (.int (1 : Int32))] [(.int (1 : Int32))])
                exact own_retNW X108 hS89 (by rw [e108]; exact (Nat.le_refl T89.heap.size)) hx hlk (t := .boolean) hrt (by simp) (hb hby at_350) ⟨rfl, N108⟩ (by decide) (by decide)
              ·
                refine own_st (fun t k => XS.icmpYes X89.here hx rfl (pc0 := 311) (pc' := 318) rfl (hb hby at_311) rfl (feq c311_94).2 (by decide) (by decide) k) ?_
                show own_Go _ _ _ _ T89 (mkF m 318 #[.val (.int p0), .val (.int p1), .val (.int p2), .val (.int p3), .val (.int p4), .val (.int p5), .val (.int sn), .val (.int sy), .val (.int la), .val (.int xa), .val (.int xb), .val (.int lb), .val (.int ya), .val (.int yb), .val (.ref b1), .val (.ref b17), .val (.int (p2 &&& (2147483647 : Int32))), .val (.int (if sy = (0 : Int32) then (p3 &&& (2147483647 : Int32)) else (p2 &&& (2147483647 : Int32)))), .val (.ref b40), .val (.int (p5 &&& (3 : Int32))), .val (.ref b73), .val (.int (1 : Int32)), .unset] [])
                refine own_st (fun t k => XS.iconst X89.here hx rfl (hb hby at_318) k) ?_
                refine own_st (fun t k => XS.istore X89.here hx rfl (hb hby at_319) rfl (l' := #[.val (.int p0), .val (.int p1), .val (.int p2), .val (.int p3), .val (.int p4), .val (.int p5), .val (.int sn), .val (.int sy), .val (.int la), .val (.int xa), .val (.int xb), .val (.int lb), .val (.int ya), .val (.int yb), .val (.ref b1), .val (.ref b17), .val (.int (p2 &&& (2147483647 : Int32))), .val (.int (if sy = (0 : Int32) then (p3 &&& (2147483647 : Int32)) else (p2 &&& (2147483647 : Int32)))), .val (.ref b40), .val (.int (p5 &&& (3 : Int32))), .val (.ref b73), .val (.int (1 : Int32)), .val (.int (0 : Int32))]) rfl k) ?_
                show own_Go _ _ _ _ T89 (mkF m 321 #[.val (.int p0), .val (.int p1), .val (.int p2), .val (.int p3), .val (.int p4), .val (.int p5), .val (.int sn), .val (.int sy), .val (.int la), .val (.int xa), .val (.int xb), .val (.int lb), .val (.int ya), .val (.int yb), .val (.ref b1), .val (.ref b17), .val (.int (p2 &&& (2147483647 : Int32))), .val (.int (if sy = (0 : Int32) then (p3 &&& (2147483647 : Int32)) else (p2 &&& (2147483647 : Int32)))), .val (.ref b40), .val (.int (p5 &&& (3 : Int32))), .val (.ref b73), .val (.int (1 : Int32)), .val (.int (0 : Int32))] [])
                refine own_st (fun t k => XS.aload X89.here hx rfl (hb hby at_321) rfl rfl k) ?_
                refine own_st (fun t k => XS.aload X89.here hx rfl (hb hby at_323) rfl rfl k) ?_
                show own_Go _ _ _ _ T89 (mkF m 325 #[.val (.int p0), .val (.int p1), .val (.int p2), .val (.int p3), .val (.int p4), .val (.int p5), .val (.int sn), .val (.int sy), .val (.int la), .val (.int xa), .val (.int xb), .val (.int lb), .val (.int ya), .val (.int yb), .val (.ref b1), .val (.ref b17), .val (.int (p2 &&& (2147483647 : Int32))), .val (.int (if sy = (0 : Int32) then (p3 &&& (2147483647 : Int32)) else (p2 &&& (2147483647 : Int32)))), .val (.ref b40), .val (.int (p5 &&& (3 : Int32))), .val (.ref b73), .val (.int (1 : Int32)), .val (.int (0 : Int32))] [(.ref b73), (.ref b40)])
                have R53a_109 := ((R53a.ext E73).keep K89 (ninS ne_b40_b73 (ninS (Ne.symm ne_b17_b40) nin0)))
                have R53b_110 := ((R53b.ext E73).keep K89 (ninS ne_b40_b73 (ninS (Ne.symm ne_b17_b40) nin0)))
                have A73_111 := (A73.keep K89)
                have V10_112 := ((V10_76.ext E73).keep K89 (ninS ne_b10_b73 (ninS ne_b10_b17 nin0)))
                have V31_113 := (V31_86.keep K89 (ninS ne_b31_b73 (ninS nb31 nin0)))
                have A1_114 := ((A1_74.ext E73).keep K89)
                have R53c_115 := ((R53c.ext E73).keep K89 (ninS ne_b1_b73 (ninS ne_b1_b17 nin0)))
                have R53d_116 := ((R53d.ext E73).keep K89 (ninS ne_b1_b73 (ninS ne_b1_b17 nin0)))
                have A17_117 := (A17_81.keep K89)
                have O0_118 := (O0_88.keep K89 (allS g_b73 (allS g_b17 all0)))
                have K0_120 := (K0_90.trans K89 (allS ((Or.inr sz_b73)) (allS ((Or.inr sz_b17)) all0)))
                have A40_121 := ((A40_80.ext E73).keep K89)
                obtain ⟨cq119, kq119, q119a, q119b, q119c⟩ := isOf hZ89 rfl A40_121
                obtain ⟨_, _, ⟨T119, L119, k119, n119⟩, -, X119, ⟨Lc119, hQ119, l119, y119, z119⟩, st119⟩ := X89.virtualBack hx (y := (⟨"com/example/libhorn/libhorn/data/Relation", "equals", "(Ljava/lang/Object;)Z"⟩ : MethodName)) (z := (⟨"com/example/libhorn/libhorn/data/Relation", "equals", "(Ljava/lang/Object;)Z"⟩ : MethodName)) hown89 (mvT hZ89 (hw _ (List.mem_of_getElem? (i := 92) rfl))) (mvT hZ89 (hw _ (List.mem_of_getElem? (i := 93) rfl))) (notFace_of_selects (args := #[]) (mvT hZ89 (hw _ (List.mem_of_getElem? (i := 95) rfl)))) (mvT hZ89 (hw _ (List.mem_of_getElem? (i := 95) rfl))) (mvT hZ89 (hw _ (List.mem_of_getElem? (i := 94) rfl))) (by decide) (backOf (W := 0) (rm15r l Z a0 hw [] b40 b73 b1 (p2 &&& (2147483647 : Int32)) b17 (if sy = (0 : Int32) then (p3 &&& (2147483647 : Int32)) else (p2 &&& (2147483647 : Int32))) b10 b31 k10v k31v la lb (nar .byte ((nar .char xa).toInt8.toInt32)) (nar .byte ((nar .char xb).toInt8.toInt32)) (nar .byte ((nar .char ya).toInt8.toInt32)) (nar .byte ((nar .char yb).toInt8.toInt32)) cs ca cc  T89.heap n0 (Nat.le_trans Z0 K0_120.1) R53a_109 R53b_110 A73_111 R89a R89b A1_114 R53c_115 R53d_116 A17_117 R89c R89d V10_112 V31_113 hla G O0_118) hZ89 (hw _ (List.mem_of_getElem? (i := 96) rfl)) (hw _ (List.mem_of_getElem? (i := 29) rfl)) (by decide) (by decide)) q119a q119c (g := (mkF m 325 #[.val (.int p0), .val (.int p1), .val (.int p2), .val (.int p3), .val (.int p4), .val (.int p5), .val (.int sn), .val (.int sy), .val (.int la), .val (.int xa), .val (.int xb), .val (.int lb), .val (.int ya), .val (.int yb), .val (.ref b1), .val (.ref b17), .val (.int (p2 &&& (2147483647 : Int32))), .val (.int (if sy = (0 : Int32) then (p3 &&& (2147483647 : Int32)) else (p2 &&& (2147483647 : Int32)))), .val (.ref b40), .val (.int (p5 &&& (3 : Int32))), .val (.ref b73), .val (.int (1 : Int32)), .val (.int (0 : Int32))] [(.ref b73), (.ref b40)])) rfl (by rw [hml]; rfl) (Steps.refl _) (argsL := [(.ref b73)]) (rest := []) (lenOf pd__28Ljava_2flang_2fObject_3b_29Z rfl) rfl (by show 2 * 0 + _ ≤ _; exact Nat.le_of_eq rfl) (hb hby at_325) (fun _ _ => ⟨rfl, rfl, (by decide : 22 + 0 ≤ _), (by decide : 80 + 0 ≤ _)⟩)
                dsimp only [Pt.U, Pt.locs, Pt.cells, Pt.slots] at X119 l119 y119 z119 st119 hQ119
                subst l119 y119 z119
                obtain ⟨rfl, N119q, e119⟩ := hQ119
                obtain ⟨_, X119, N119⟩ := own_hide X119 (Fr.app N89 N119q)
                refine own_tr st119 ?_
                show own_Go _ _ _ _ T119 (mkF m 328 #[.val (.int p0), .val (.int p1), .val (.int p2), .val (.int p3), .val (.int p4), .val (.int p5), .val (.int sn), .val (.int sy), .val (.int la), .val (.int xa), .val (.int xb), .val (.int lb), .val (.int ya), .val (.int yb), .val (.ref b1), .val (.ref b17), .val (.int (p2 &&& (2147483647 : Int32))), .val (.int (if sy = (0 : Int32) then (p3 &&& (2147483647 : Int32)) else (p2 &&& (2147483647 : Int32)))), .val (.ref b40), .val (.int (p5 &&& (3 : Int32))), .val (.ref b73), .val (.int (1 : Int32)), .val (.int (0 : Int32))] [(.int (own_re b1 (p2 &&& (2147483647 : Int32)) b17 (if sy = (0 : Int32) then (p3 &&& (2147483647 : Int32)) else (p2 &&& (2147483647 : Int32))) la lb (nar .byte ((nar .char xa).toInt8.toInt32)) (nar .byte ((nar .char xb).toInt8.toInt32)) (nar .byte ((nar .char ya).toInt8.toInt32)) (nar .byte ((nar .char yb).toInt8.toInt32))))])
                refine own_st (fun t k => XS.iload X119.here hx rfl (hb hby at_328) rfl k) ?_
                refine own_st (fun t k => XS.icmpNo X119.here hx rfl (hb hby at_330) rfl (teq ((own_key ne_b1_b17 hla hxa hxb hya hyb).trans (if_neg (fun q => c311_94 q.2)) : (own_re b1 (p2 &&& (2147483647 : Int32)) b17 (if sy = (0 : Int32) then (p3 &&& (2147483647 : Int32)) else (p2 &&& (2147483647 : Int32))) la lb (nar .byte ((nar .char xa).toInt8.toInt32)) (nar .byte ((nar .char xb).toInt8.toInt32)) (nar .byte ((nar .char ya).toInt8.toInt32)) (nar .byte ((nar .char yb).toInt8.toInt32))) = (0 : Int32))).2 k) ?_
                show own_Go _ _ _ _ T119 (mkF m 333 #[.val (.int p0), .val (.int p1), .val (.int p2), .val (.int p3), .val (.int p4), .val (.int p5), .val (.int sn), .val (.int sy), .val (.int la), .val (.int xa), .val (.int xb), .val (.int lb), .val (.int ya), .val (.int yb), .val (.ref b1), .val (.ref b17), .val (.int (p2 &&& (2147483647 : Int32))), .val (.int (if sy = (0 : Int32) then (p3 &&& (2147483647 : Int32)) else (p2 &&& (2147483647 : Int32)))), .val (.ref b40), .val (.int (p5 &&& (3 : Int32))), .val (.ref b73), .val (.int (1 : Int32)), .val (.int (0 : Int32))] [])
                refine own_st (fun t k => XS.aload X119.here hx rfl (hb hby at_333) rfl rfl k) ?_
                refine own_st (fun t k => XS.aload X119.here hx rfl (hb hby at_335) rfl rfl k) ?_
                show own_Go _ _ _ _ T119 (mkF m 337 #[.val (.int p0), .val (.int p1), .val (.int p2), .val (.int p3), .val (.int p4), .val (.int p5), .val (.int sn), .val (.int sy), .val (.int la), .val (.int xa), .val (.int xb), .val (.int lb), .val (.int ya), .val (.int yb), .val (.ref b1), .val (.ref b17), .val (.int (p2 &&& (2147483647 : Int32))), .val (.int (if sy = (0 : Int32) then (p3 &&& (2147483647 : Int32)) else (p2 &&& (2147483647 : Int32)))), .val (.ref b40), .val (.int (p5 &&& (3 : Int32))), .val (.ref b73), .val (.int (1 : Int32)), .val (.int (0 : Int32))] [(.ref b40), (.ref b73)])
                obtain ⟨cq122, kq122, q122a, q122b, q122c⟩ := isOf hZ89 e119 A73_111
                obtain ⟨_, _, ⟨T122, L122, k122, n122⟩, -, X122, ⟨Lc122, hQ122, l122, y122, z122⟩, st122⟩ := X119.virtualBack hx (y := (⟨"com/example/libhorn/libhorn/data/Relation", "equals", "(Ljava/lang/Object;)Z"⟩ : MethodName)) (z := (⟨"com/example/libhorn/libhorn/data/Relation", "equals", "(Ljava/lang/Object;)Z"⟩ : MethodName)) hown89 (mvT hZ89 (hw _ (List.mem_of_getElem? (i := 92) rfl))) (mvT hZ89 (hw _ (List.mem_of_getElem? (i := 93) rfl))) (notFace_of_selects (args := #[]) (mvT hZ89 (hw _ (List.mem_of_getElem? (i := 95) rfl)))) (mvT hZ89 (hw _ (List.mem_of_getElem? (i := 95) rfl))) (mvT hZ89 (hw _ (List.mem_of_getElem? (i := 94) rfl))) (by decide) (backOf (W := 0) (rm15r l Z a0 hw [] b73 b40 b17 (if sy = (0 : Int32) then (p3 &&& (2147483647 : Int32)) else (p2 &&& (2147483647 : Int32))) b1 (p2 &&& (2147483647 : Int32)) b31 b10 k31v k10v lb la (nar .byte ((nar .char ya).toInt8.toInt32)) (nar .byte ((nar .char yb).toInt8.toInt32)) (nar .byte ((nar .char xa).toInt8.toInt32)) (nar .byte ((nar .char xb).toInt8.toInt32)) cs ca cc  T89.heap n0 (Nat.le_trans Z0 K0_120.1) R89a R89b A40_121 R53a_109 R53b_110 A17_117 R89c R89d A1_114 R53c_115 R53d_116 V31_113 V10_112 hlb G O0_118) hZ89 (hw _ (List.mem_of_getElem? (i := 96) rfl)) (hw _ (List.mem_of_getElem? (i := 29) rfl)) (by decide) (by decide)) q122a q122c (g := (mkF m 337 #[.val (.int p0), .val (.int p1), .val (.int p2), .val (.int p3), .val (.int p4), .val (.int p5), .val (.int sn), .val (.int sy), .val (.int la), .val (.int xa), .val (.int xb), .val (.int lb), .val (.int ya), .val (.int yb), .val (.ref b1), .val (.ref b17), .val (.int (p2 &&& (2147483647 : Int32))), .val (.int (if sy = (0 : Int32) then (p3 &&& (2147483647 : Int32)) else (p2 &&& (2147483647 : Int32)))), .val (.ref b40), .val (.int (p5 &&& (3 : Int32))), .val (.ref b73), .val (.int (1 : Int32)), .val (.int (0 : Int32))] [(.ref b40), (.ref b73)])) rfl (by rw [hml]; rfl) (Steps.refl _) (argsL := [(.ref b40)]) (rest := []) (lenOf pd__28Ljava_2flang_2fObject_3b_29Z rfl) rfl (by show 2 * 0 + _ ≤ _; exact Nat.le_of_eq rfl) (hb hby at_337) (fun _ _ => ⟨rfl, e119, (by decide : 22 + 0 ≤ _), (by decide : 80 + 0 ≤ _)⟩)
                dsimp only [Pt.U, Pt.locs, Pt.cells, Pt.slots] at X122 l122 y122 z122 st122 hQ122
                subst l122 y122 z122
                obtain ⟨rfl, N122q, e122⟩ := hQ122
                obtain ⟨_, X122, N122⟩ := own_hide X122 (Fr.app N119 N122q)
                refine own_tr st122 ?_
                show own_Go _ _ _ _ T122 (mkF m 340 #[.val (.int p0), .val (.int p1), .val (.int p2), .val (.int p3), .val (.int p4), .val (.int p5), .val (.int sn), .val (.int sy), .val (.int la), .val (.int xa), .val (.int xb), .val (.int lb), .val (.int ya), .val (.int yb), .val (.ref b1), .val (.ref b17), .val (.int (p2 &&& (2147483647 : Int32))), .val (.int (if sy = (0 : Int32) then (p3 &&& (2147483647 : Int32)) else (p2 &&& (2147483647 : Int32)))), .val (.ref b40), .val (.int (p5 &&& (3 : Int32))), .val (.ref b73), .val (.int (1 : Int32)), .val (.int (0 : Int32))] [(.int (own_re b17 (if sy = (0 : Int32) then (p3 &&& (2147483647 : Int32)) else (p2 &&& (2147483647 : Int32))) b1 (p2 &&& (2147483647 : Int32)) lb la (nar .byte ((nar .char ya).toInt8.toInt32)) (nar .byte ((nar .char yb).toInt8.toInt32)) (nar .byte ((nar .char xa).toInt8.toInt32)) (nar .byte ((nar .char xb).toInt8.toInt32))))])
                refine own_st (fun t k => XS.iload X122.here hx rfl (hb hby at_340) rfl k) ?_
                refine own_st (fun t k => XS.icmpNo X122.here hx rfl (hb hby at_342) rfl (teq ((own_sym _ _ _ _ _ _ _ _ _ _).trans ((own_key ne_b1_b17 hla hxa hxb hya hyb).trans (if_neg (fun q => c311_94 q.2))) : (own_re b17 (if sy = (0 : Int32) then (p3 &&& (2147483647 : Int32)) else (p2 &&& (2147483647 : Int32))) b1 (p2 &&& (2147483647 : Int32)) lb la (nar .byte ((nar .char ya).toInt8.toInt32)) (nar .byte ((nar .char yb).toInt8.toInt32)) (nar .byte ((nar .char xa).toInt8.toInt32)) (nar .byte ((nar .char xb).toInt8.toInt32))) = (0 : Int32))).2 k) ?_
                show own_Go _ _ _ _ T122 (mkF m 345 #[.val (.int p0), .val (.int p1), .val (.int p2), .val (.int p3), .val (.int p4), .val (.int p5), .val (.int sn), .val (.int sy), .val (.int la), .val (.int xa), .val (.int xb), .val (.int lb), .val (.int ya), .val (.int yb), .val (.ref b1), .val (.ref b17), .val (.int (p2 &&& (2147483647 : Int32))), .val (.int (if sy = (0 : Int32) then (p3 &&& (2147483647 : Int32)) else (p2 &&& (2147483647 : Int32)))), .val (.ref b40), .val (.int (p5 &&& (3 : Int32))), .val (.ref b73), .val (.int (1 : Int32)), .val (.int (0 : Int32))] [])
                refine own_st (fun t k => XS.iconst X122.here hx rfl (hb hby at_345) k) ?_
                refine own_st (fun t k => XS.goto X122.here hx rfl (pc0 := 346) (pc' := 350) rfl (hb hby at_346) (by decide) (by decide) k) ?_
                show own_Go _ _ _ _ T122 (mkF m 350 #[.val (.int p0), .val (.int p1), .val (.int p2), .val (.int p3), .val (.int p4), .val (.int p5), .val (.int sn), .val (.int sy), .val (.int la), .val (.int xa), .val (.int xb), .val (.int lb), .val (.int ya), .val (.int yb), .val (.ref b1), .val (.ref b17), .val (.int (p2 &&& (2147483647 : Int32))), .val (.int (if sy = (0 : Int32) then (p3 &&& (2147483647 : Int32)) else (p2 &&& (2147483647 : Int32)))), .val (.ref b40), .val (.int (p5 &&& (3 : Int32))), .val (.ref b73), .val (.int (1 : Int32)), .val (.int (0 : Int32))] [(.int (1 : Int32))])
                exact own_retNW X122 hS89 (by rw [e122]; exact (Nat.le_refl T89.heap.size)) hx hlk (t := .boolean) hrt (by simp) (hb hby at_350) ⟨rfl, N122⟩ (by decide) (by decide)
            ·
              refine own_st (fun t k => XS.icmpNo X89.here hx rfl (hb hby at_272) rfl (flt c272_93).1 k) ?_
              show own_Go _ _ _ _ T89 (mkF m 275 #[.val (.int p0), .val (.int p1), .val (.int p2), .val (.int p3), .val (.int p4), .val (.int p5), .val (.int sn), .val (.int sy), .val (.int la), .val (.int xa), .val (.int xb), .val (.int lb), .val (.int ya), .val (.int yb), .val (.ref b1), .val (.ref b17), .val (.int (p2 &&& (2147483647 : Int32))), .val (.int (if sy = (0 : Int32) then (p3 &&& (2147483647 : Int32)) else (p2 &&& (2147483647 : Int32)))), .val (.ref b40), .val (.int (p5 &&& (3 : Int32))), .val (.ref b73), .unset, .unset] [])
              refine own_st (fun t k => XS.iload X89.here hx rfl (hb hby at_275) rfl k) ?_
              refine own_st (fun t k => XS.iload X89.here hx rfl (hb hby at_277) rfl k) ?_
              by_cases c279_123 : xa = ya
              ·
                refine own_st (fun t k => XS.icmpNo X89.here hx rfl (hb hby at_279) rfl (teq c279_123).2 k) ?_
                show own_Go _ _ _ _ T89 (mkF m 282 #[.val (.int p0), .val (.int p1), .val (.int p2), .val (.int p3), .val (.int p4), .val (.int p5), .val (.int sn), .val (.int sy), .val (.int la), .val (.int xa), .val (.int xb), .val (.int lb), .val (.int ya), .val (.int yb), .val (.ref b1), .val (.ref b17), .val (.int (p2 &&& (2147483647 : Int32))), .val (.int (if sy = (0 : Int32) then (p3 &&& (2147483647 : Int32)) else (p2 &&& (2147483647 : Int32)))), .val (.ref b40), .val (.int (p5 &&& (3 : Int32))), .val (.ref b73), .unset, .unset] [])
                refine own_st (fun t k => XS.iload X89.here hx rfl (hb hby at_282) rfl k) ?_
                refine own_st (fun t k => XS.iconst X89.here hx rfl (hb hby at_284) k) ?_
                show own_Go _ _ _ _ T89 (mkF m 285 #[.val (.int p0), .val (.int p1), .val (.int p2), .val (.int p3), .val (.int p4), .val (.int p5), .val (.int sn), .val (.int sy), .val (.int la), .val (.int xa), .val (.int xb), .val (.int lb), .val (.int ya), .val (.int yb), .val (.ref b1), .val (.ref b17), .val (.int (p2 &&& (2147483647 : Int32))), .val (.int (if sy = (0 : Int32) then (p3 &&& (2147483647 : Int32)) else (p2 &&& (2147483647 : Int32)))), .val (.ref b40), .val (.int (p5 &&& (3 : Int32))), .val (.ref b73), .unset, .unset] [(.int (2 : Int32)), (.int la)])
                by_cases c285_124 : la < (2 : Int32)
                ·
                  refine own_st (fun t k => XS.icmpYes X89.here hx rfl (pc0 := 285) (pc' := 295) rfl (hb hby at_285) rfl (tlt c285_124).1 (by decide) (by decide) k) ?_
                  show own_Go _ _ _ _ T89 (mkF m 295 #[.val (.int p0), .val (.int p1), .val (.int p2), .val (.int p3), .val (.int p4), .val (.int p5), .val (.int sn), .val (.int sy), .val (.int la), .val (.int xa), .val (.int xb), .val (.int lb), .val (.int ya), .val (.int yb), .val (.ref b1), .val (.ref b17), .val (.int (p2 &&& (2147483647 : Int32))), .val (.int (if sy = (0 : Int32) then (p3 &&& (2147483647 : Int32)) else (p2 &&& (2147483647 : Int32)))), .val (.ref b40), .val (.int (p5 &&& (3 : Int32))), .val (.ref b73), .unset, .unset] [])
                  refine own_st (fun t k => XS.iconst X89.here hx rfl (hb hby at_295) k) ?_
                  refine own_st (fun t k => XS.goto X89.here hx rfl (pc0 := 296) (pc' := 300) rfl (hb hby at_296) (by decide) (by decide) k) ?_
                  show own_Go _ _ _ _ T89 (mkF m 300 #[.val (.int p0), .val (.int p1), .val (.int p2), .val (.int p3), .val (.int p4), .val (.int p5), .val (.int sn), .val (.int sy), .val (.int la), .val (.int xa), .val (.int xb), .val (.int lb), .val (.int ya), .val (.int yb), .val (.ref b1), .val (.ref b17), .val (.int (p2 &&& (2147483647 : Int32))), .val (.int (if sy = (0 : Int32) then (p3 &&& (2147483647 : Int32)) else (p2 &&& (2147483647 : Int32)))), .val (.ref b40), .val (.int (p5 &&& (3 : Int32))), .val (.ref b73), .unset, .unset] [(.int (1 : Int32))])
                  refine own_st (fun t k => XS.istore X89.here hx rfl (hb hby at_300) rfl (l' := #[.val (.int p0), .val (.int p1), .val (.int p2), .val (.int p3), .val (.int p4), .val (.int p5), .val (.int sn), .val (.int sy), .val (.int la), .val (.int xa), .val (.int xb), .val (.int lb), .val (.int ya), .val (.int yb), .val (.ref b1), .val (.ref b17), .val (.int (p2 &&& (2147483647 : Int32))), .val (.int (if sy = (0 : Int32) then (p3 &&& (2147483647 : Int32)) else (p2 &&& (2147483647 : Int32)))), .val (.ref b40), .val (.int (p5 &&& (3 : Int32))), .val (.ref b73), .val (.int (1 : Int32)), .unset]) rfl k) ?_
                  show own_Go _ _ _ _ T89 (mkF m 302 #[.val (.int p0), .val (.int p1), .val (.int p2), .val (.int p3), .val (.int p4), .val (.int p5), .val (.int sn), .val (.int sy), .val (.int la), .val (.int xa), .val (.int xb), .val (.int lb), .val (.int ya), .val (.int yb), .val (.ref b1), .val (.ref b17), .val (.int (p2 &&& (2147483647 : Int32))), .val (.int (if sy = (0 : Int32) then (p3 &&& (2147483647 : Int32)) else (p2 &&& (2147483647 : Int32)))), .val (.ref b40), .val (.int (p5 &&& (3 : Int32))), .val (.ref b73), .val (.int (1 : Int32)), .unset] [])
                  refine own_st (fun t k => XS.iload X89.here hx rfl (hb hby at_302) rfl k) ?_
                  refine own_st (fun t k => XS.ifNo X89.here hx rfl (hb hby at_304) rfl ((if0 _ _).trans (feq (by decide : ¬ ((1 : Int32) = (0 : Int32)))).1) k) ?_
                  show own_Go _ _ _ _ T89 (mkF m 307 #[.val (.int p0), .val (.int p1), .val (.int p2), .val (.int p3), .val (.int p4), .val (.int p5), .val (.int sn), .val (.int sy), .val (.int la), .val (.int xa), .val (.int xb), .val (.int lb), .val (.int ya), .val (.int yb), .val (.ref b1), .val (.ref b17), .val (.int (p2 &&& (2147483647 : Int32))), .val (.int (if sy = (0 : Int32) then (p3 &&& (2147483647 : Int32)) else (p2 &&& (2147483647 : Int32)))), .val (.ref b40), .val (.int (p5 &&& (3 : Int32))), .val (.ref b73), .val (.int (1 : Int32)), .unset] [])
                  refine own_st (fun t k => XS.iload X89.here hx rfl (hb hby at_307) rfl k) ?_
                  refine own_st (fun t k => XS.iload X89.here hx rfl (hb hby at_309) rfl k) ?_
                  by_cases c311_125 : (p2 &&& (2147483647 : Int32)) = (if sy = (0 : Int32) then (p3 &&& (2147483647 : Int32)) else (p2 &&& (2147483647 : Int32)))
                  ·
                    refine own_st (fun t k => XS.icmpNo X89.here hx rfl (hb hby at_311) rfl (teq c311_125).2 k) ?_
                    show own_Go _ _ _ _ T89 (mkF m 314 #[.val (.int p0), .val (.int p1), .val (.int p2), .val (.int p3), .val (.int p4), .val (.int p5), .val (.int sn), .val (.int sy), .val (.int la), .val (.int xa), .val (.int xb), .val (.int lb), .val (.int ya), .val (.int yb), .val (.ref b1), .val (.ref b17), .val (.int (p2 &&& (2147483647 : Int32))), .val (.int (if sy = (0 : Int32) then (p3 &&& (2147483647 : Int32)) else (p2 &&& (2147483647 : Int32)))), .val (.ref b40), .val (.int (p5 &&& (3 : Int32))), .val (.ref b73), .val (.int (1 : Int32)), .unset] [])
                    refine own_st (fun t k => XS.iconst X89.here hx rfl (hb hby at_314) k) ?_
                    refine own_st (fun t k => XS.goto X89.here hx rfl (pc0 := 315) (pc' := 319) rfl (hb hby at_315) (by decide) (by decide) k) ?_
                    show own_Go _ _ _ _ T89 (mkF m 319 #[.val (.int p0), .val (.int p1), .val (.int p2), .val (.int p3), .val (.int p4), .val (.int p5), .val (.int sn), .val (.int sy), .val (.int la), .val (.int xa), .val (.int xb), .val (.int lb), .val (.int ya), .val (.int yb), .val (.ref b1), .val (.ref b17), .val (.int (p2 &&& (2147483647 : Int32))), .val (.int (if sy = (0 : Int32) then (p3 &&& (2147483647 : Int32)) else (p2 &&& (2147483647 : Int32)))), .val (.ref b40), .val (.int (p5 &&& (3 : Int32))), .val (.ref b73), .val (.int (1 : Int32)), .unset] [(.int (1 : Int32))])
                    refine own_st (fun t k => XS.istore X89.here hx rfl (hb hby at_319) rfl (l' := #[.val (.int p0), .val (.int p1), .val (.int p2), .val (.int p3), .val (.int p4), .val (.int p5), .val (.int sn), .val (.int sy), .val (.int la), .val (.int xa), .val (.int xb), .val (.int lb), .val (.int ya), .val (.int yb), .val (.ref b1), .val (.ref b17), .val (.int (p2 &&& (2147483647 : Int32))), .val (.int (if sy = (0 : Int32) then (p3 &&& (2147483647 : Int32)) else (p2 &&& (2147483647 : Int32)))), .val (.ref b40), .val (.int (p5 &&& (3 : Int32))), .val (.ref b73), .val (.int (1 : Int32)), .val (.int (1 : Int32))]) rfl k) ?_
                    show own_Go _ _ _ _ T89 (mkF m 321 #[.val (.int p0), .val (.int p1), .val (.int p2), .val (.int p3), .val (.int p4), .val (.int p5), .val (.int sn), .val (.int sy), .val (.int la), .val (.int xa), .val (.int xb), .val (.int lb), .val (.int ya), .val (.int yb), .val (.ref b1), .val (.ref b17), .val (.int (p2 &&& (2147483647 : Int32))), .val (.int (if sy = (0 : Int32) then (p3 &&& (2147483647 : Int32)) else (p2 &&& (2147483647 : Int32)))), .val (.ref b40), .val (.int (p5 &&& (3 : Int32))), .val (.ref b73), .val (.int (1 : Int32)), .val (.int (1 : Int32))] [])
                    refine own_st (fun t k => XS.aload X89.here hx rfl (hb hby at_321) rfl rfl k) ?_
                    refine own_st (fun t k => XS.aload X89.here hx rfl (hb hby at_323) rfl rfl k) ?_
                    show own_Go _ _ _ _ T89 (mkF m 325 #[.val (.int p0), .val (.int p1), .val (.int p2), .val (.int p3), .val (.int p4), .val (.int p5), .val (.int sn), .val (.int sy), .val (.int la), .val (.int xa), .val (.int xb), .val (.int lb), .val (.int ya), .val (.int yb), .val (.ref b1), .val (.ref b17), .val (.int (p2 &&& (2147483647 : Int32))), .val (.int (if sy = (0 : Int32) then (p3 &&& (2147483647 : Int32)) else (p2 &&& (2147483647 : Int32)))), .val (.ref b40), .val (.int (p5 &&& (3 : Int32))), .val (.ref b73), .val (.int (1 : Int32)), .val (.int (1 : Int32))] [(.ref b73), (.ref b40)])
                    have R53a_126 := ((R53a.ext E73).keep K89 (ninS ne_b40_b73 (ninS (Ne.symm ne_b17_b40) nin0)))
                    have R53b_127 := ((R53b.ext E73).keep K89 (ninS ne_b40_b73 (ninS (Ne.symm ne_b17_b40) nin0)))
                    have A73_128 := (A73.keep K89)
                    have V10_129 := ((V10_76.ext E73).keep K89 (ninS ne_b10_b73 (ninS ne_b10_b17 nin0)))
                    have V31_130 := (V31_86.keep K89 (ninS ne_b31_b73 (ninS nb31 nin0)))
                    have A1_131 := ((A1_74.ext E73).keep K89)
                    have R53c_132 := ((R53c.ext E73).keep K89 (ninS ne_b1_b73 (ninS ne_b1_b17 nin0)))
                    have R53d_133 := ((R53d.ext E73).keep K89 (ninS ne_b1_b73 (ninS ne_b1_b17 nin0)))
                    have A17_134 := (A17_81.keep K89)
                    have O0_135 := (O0_88.keep K89 (allS g_b73 (allS g_b17 all0)))
                    have K0_137 := (K0_90.trans K89 (allS ((Or.inr sz_b73)) (allS ((Or.inr sz_b17)) all0)))
                    have A40_138 := ((A40_80.ext E73).keep K89)
                    obtain ⟨cq136, kq136, q136a, q136b, q136c⟩ := isOf hZ89 rfl A40_138
                    obtain ⟨_, _, ⟨T136, L136, k136, n136⟩, -, X136, ⟨Lc136, hQ136, l136, y136, z136⟩, st136⟩ := X89.virtualBack hx (y := (⟨"com/example/libhorn/libhorn/data/Relation", "equals", "(Ljava/lang/Object;)Z"⟩ : MethodName)) (z := (⟨"com/example/libhorn/libhorn/data/Relation", "equals", "(Ljava/lang/Object;)Z"⟩ : MethodName)) hown89 (mvT hZ89 (hw _ (List.mem_of_getElem? (i := 92) rfl))) (mvT hZ89 (hw _ (List.mem_of_getElem? (i := 93) rfl))) (notFace_of_selects (args := #[]) (mvT hZ89 (hw _ (List.mem_of_getElem? (i := 95) rfl)))) (mvT hZ89 (hw _ (List.mem_of_getElem? (i := 95) rfl))) (mvT hZ89 (hw _ (List.mem_of_getElem? (i := 94) rfl))) (by decide) (backOf (W := 0) (rm15r l Z a0 hw [] b40 b73 b1 (p2 &&& (2147483647 : Int32)) b17 (if sy = (0 : Int32) then (p3 &&& (2147483647 : Int32)) else (p2 &&& (2147483647 : Int32))) b10 b31 k10v k31v la lb (nar .byte ((nar .char xa).toInt8.toInt32)) (nar .byte ((nar .char xb).toInt8.toInt32)) (nar .byte ((nar .char ya).toInt8.toInt32)) (nar .byte ((nar .char yb).toInt8.toInt32)) cs ca cc  T89.heap n0 (Nat.le_trans Z0 K0_137.1) R53a_126 R53b_127 A73_128 R89a R89b A1_131 R53c_132 R53d_133 A17_134 R89c R89d V10_129 V31_130 hla G O0_135) hZ89 (hw _ (List.mem_of_getElem? (i := 96) rfl)) (hw _ (List.mem_of_getElem? (i := 29) rfl)) (by decide) (by decide)) q136a q136c (g := (mkF m 325 #[.val (.int p0), .val (.int p1), .val (.int p2), .val (.int p3), .val (.int p4), .val (.int p5), .val (.int sn), .val (.int sy), .val (.int la), .val (.int xa), .val (.int xb), .val (.int lb), .val (.int ya), .val (.int yb), .val (.ref b1), .val (.ref b17), .val (.int (p2 &&& (2147483647 : Int32))), .val (.int (if sy = (0 : Int32) then (p3 &&& (2147483647 : Int32)) else (p2 &&& (2147483647 : Int32)))), .val (.ref b40), .val (.int (p5 &&& (3 : Int32))), .val (.ref b73), .val (.int (1 : Int32)), .val (.int (1 : Int32))] [(.ref b73), (.ref b40)])) rfl (by rw [hml]; rfl) (Steps.refl _) (argsL := [(.ref b73)]) (rest := []) (lenOf pd__28Ljava_2flang_2fObject_3b_29Z rfl) rfl (by show 2 * 0 + _ ≤ _; exact Nat.le_of_eq rfl) (hb hby at_325) (fun _ _ => ⟨rfl, rfl, (by decide : 22 + 0 ≤ _), (by decide : 80 + 0 ≤ _)⟩)
                    dsimp only [Pt.U, Pt.locs, Pt.cells, Pt.slots] at X136 l136 y136 z136 st136 hQ136
                    subst l136 y136 z136
                    obtain ⟨rfl, N136q, e136⟩ := hQ136
                    obtain ⟨_, X136, N136⟩ := own_hide X136 (Fr.app N89 N136q)
                    refine own_tr st136 ?_
                    show own_Go _ _ _ _ T136 (mkF m 328 #[.val (.int p0), .val (.int p1), .val (.int p2), .val (.int p3), .val (.int p4), .val (.int p5), .val (.int sn), .val (.int sy), .val (.int la), .val (.int xa), .val (.int xb), .val (.int lb), .val (.int ya), .val (.int yb), .val (.ref b1), .val (.ref b17), .val (.int (p2 &&& (2147483647 : Int32))), .val (.int (if sy = (0 : Int32) then (p3 &&& (2147483647 : Int32)) else (p2 &&& (2147483647 : Int32)))), .val (.ref b40), .val (.int (p5 &&& (3 : Int32))), .val (.ref b73), .val (.int (1 : Int32)), .val (.int (1 : Int32))] [(.int (own_re b1 (p2 &&& (2147483647 : Int32)) b17 (if sy = (0 : Int32) then (p3 &&& (2147483647 : Int32)) else (p2 &&& (2147483647 : Int32))) la lb (nar .byte ((nar .char xa).toInt8.toInt32)) (nar .byte ((nar .char xb).toInt8.toInt32)) (nar .byte ((nar .char ya).toInt8.toInt32)) (nar .byte ((nar .char yb).toInt8.toInt32))))])
                    refine own_st (fun t k => XS.iload X136.here hx rfl (hb hby at_328) rfl k) ?_
                    refine own_st (fun t k => XS.icmpNo X136.here hx rfl (hb hby at_330) rfl (teq ((own_key ne_b1_b17 hla hxa hxb hya hyb).trans (if_pos ⟨⟨c266_92, Or.inr c279_123, Or.inl c285_124⟩, c311_125⟩) : (own_re b1 (p2 &&& (2147483647 : Int32)) b17 (if sy = (0 : Int32) then (p3 &&& (2147483647 : Int32)) else (p2 &&& (2147483647 : Int32))) la lb (nar .byte ((nar .char xa).toInt8.toInt32)) (nar .byte ((nar .char xb).toInt8.toInt32)) (nar .byte ((nar .char ya).toInt8.toInt32)) (nar .byte ((nar .char yb).toInt8.toInt32))) = (1 : Int32))).2 k) ?_
                    show own_Go _ _ _ _ T136 (mkF m 333 #[.val (.int p0), .val (.int p1), .val (.int p2), .val (.int p3), .val (.int p4), .val (.int p5), .val (.int sn), .val (.int sy), .val (.int la), .val (.int xa), .val (.int xb), .val (.int lb), .val (.int ya), .val (.int yb), .val (.ref b1), .val (.ref b17), .val (.int (p2 &&& (2147483647 : Int32))), .val (.int (if sy = (0 : Int32) then (p3 &&& (2147483647 : Int32)) else (p2 &&& (2147483647 : Int32)))), .val (.ref b40), .val (.int (p5 &&& (3 : Int32))), .val (.ref b73), .val (.int (1 : Int32)), .val (.int (1 : Int32))] [])
                    refine own_st (fun t k => XS.aload X136.here hx rfl (hb hby at_333) rfl rfl k) ?_
                    refine own_st (fun t k => XS.aload X136.here hx rfl (hb hby at_335) rfl rfl k) ?_
                    show own_Go _ _ _ _ T136 (mkF m 337 #[.val (.int p0), .val (.int p1), .val (.int p2), .val (.int p3), .val (.int p4), .val (.int p5), .val (.int sn), .val (.int sy), .val (.int la), .val (.int xa), .val (.int xb), .val (.int lb), .val (.int ya), .val (.int yb), .val (.ref b1), .val (.ref b17), .val (.int (p2 &&& (2147483647 : Int32))), .val (.int (if sy = (0 : Int32) then (p3 &&& (2147483647 : Int32)) else (p2 &&& (2147483647 : Int32)))), .val (.ref b40), .val (.int (p5 &&& (3 : Int32))), .val (.ref b73), .val (.int (1 : Int32)), .val (.int (1 : Int32))] [(.ref b40), (.ref b73)])
                    obtain ⟨cq139, kq139, q139a, q139b, q139c⟩ := isOf hZ89 e136 A73_128
                    obtain ⟨_, _, ⟨T139, L139, k139, n139⟩, -, X139, ⟨Lc139, hQ139, l139, y139, z139⟩, st139⟩ := X136.virtualBack hx (y := (⟨"com/example/libhorn/libhorn/data/Relation", "equals", "(Ljava/lang/Object;)Z"⟩ : MethodName)) (z := (⟨"com/example/libhorn/libhorn/data/Relation", "equals", "(Ljava/lang/Object;)Z"⟩ : MethodName)) hown89 (mvT hZ89 (hw _ (List.mem_of_getElem? (i := 92) rfl))) (mvT hZ89 (hw _ (List.mem_of_getElem? (i := 93) rfl))) (notFace_of_selects (args := #[]) (mvT hZ89 (hw _ (List.mem_of_getElem? (i := 95) rfl)))) (mvT hZ89 (hw _ (List.mem_of_getElem? (i := 95) rfl))) (mvT hZ89 (hw _ (List.mem_of_getElem? (i := 94) rfl))) (by decide) (backOf (W := 0) (rm15r l Z a0 hw [] b73 b40 b17 (if sy = (0 : Int32) then (p3 &&& (2147483647 : Int32)) else (p2 &&& (2147483647 : Int32))) b1 (p2 &&& (2147483647 : Int32)) b31 b10 k31v k10v lb la (nar .byte ((nar .char ya).toInt8.toInt32)) (nar .byte ((nar .char yb).toInt8.toInt32)) (nar .byte ((nar .char xa).toInt8.toInt32)) (nar .byte ((nar .char xb).toInt8.toInt32)) cs ca cc  T89.heap n0 (Nat.le_trans Z0 K0_137.1) R89a R89b A40_138 R53a_126 R53b_127 A17_134 R89c R89d A1_131 R53c_132 R53d_133 V31_130 V10_129 hlb G O0_135) hZ89 (hw _ (List.mem_of_getElem? (i := 96) rfl)) (hw _ (List.mem_of_getElem? (i := 29) rfl)) (by decide) (by decide)) q139a q139c (g := (mkF m 337 #[.val (.int p0), .val (.int p1), .val (.int p2), .val (.int p3), .val (.int p4), .val (.int p5), .val (.int sn), .val (.int sy), .val (.int la), .val (.int xa), .val (.int xb), .val (.int lb), .val (.int ya), .val (.int yb), .val (.ref b1), .val (.ref b17), .val (.int (p2 &&& (2147483647 : Int32))), .val (.int (if sy = (0 : Int32) then (p3 &&& (2147483647 : Int32)) else (p2 &&& (2147483647 : Int32)))), .val (.ref b40), .val (.int (p5 &&& (3 : Int32))), .val (.ref b73), .val (.int (1 : Int32)), .val (.int (1 : Int32))] [(.ref b40), (.ref b73)])) rfl (by rw [hml]; rfl) (Steps.refl _) (argsL := [(.ref b40)]) (rest := []) (lenOf pd__28Ljava_2flang_2fObject_3b_29Z rfl) rfl (by show 2 * 0 + _ ≤ _; exact Nat.le_of_eq rfl) (hb hby at_337) (fun _ _ => ⟨rfl, e136, (by decide : 22 + 0 ≤ _), (by decide : 80 + 0 ≤ _)⟩)
                    dsimp only [Pt.U, Pt.locs, Pt.cells, Pt.slots] at X139 l139 y139 z139 st139 hQ139
                    subst l139 y139 z139
                    obtain ⟨rfl, N139q, e139⟩ := hQ139
                    obtain ⟨_, X139, N139⟩ := own_hide X139 (Fr.app N136 N139q)
                    refine own_tr st139 ?_
                    show own_Go _ _ _ _ T139 (mkF m 340 #[.val (.int p0), .val (.int p1), .val (.int p2), .val (.int p3), .val (.int p4), .val (.int p5), .val (.int sn), .val (.int sy), .val (.int la), .val (.int xa), .val (.int xb), .val (.int lb), .val (.int ya), .val (.int yb), .val (.ref b1), .val (.ref b17), .val (.int (p2 &&& (2147483647 : Int32))), .val (.int (if sy = (0 : Int32) then (p3 &&& (2147483647 : Int32)) else (p2 &&& (2147483647 : Int32)))), .val (.ref b40), .val (.int (p5 &&& (3 : Int32))), .val (.ref b73), .val (.int (1 : Int32)), .val (.int (1 : Int32))] [(.int (own_re b17 (if sy = (0 : Int32) then (p3 &&& (2147483647 : Int32)) else (p2 &&& (2147483647 : Int32))) b1 (p2 &&& (2147483647 : Int32)) lb la (nar .byte ((nar .char ya).toInt8.toInt32)) (nar .byte ((nar .char yb).toInt8.toInt32)) (nar .byte ((nar .char xa).toInt8.toInt32)) (nar .byte ((nar .char xb).toInt8.toInt32))))])
                    refine own_st (fun t k => XS.iload X139.here hx rfl (hb hby at_340) rfl k) ?_
                    refine own_st (fun t k => XS.icmpNo X139.here hx rfl (hb hby at_342) rfl (teq ((own_sym _ _ _ _ _ _ _ _ _ _).trans ((own_key ne_b1_b17 hla hxa hxb hya hyb).trans (if_pos ⟨⟨c266_92, Or.inr c279_123, Or.inl c285_124⟩, c311_125⟩)) : (own_re b17 (if sy = (0 : Int32) then (p3 &&& (2147483647 : Int32)) else (p2 &&& (2147483647 : Int32))) b1 (p2 &&& (2147483647 : Int32)) lb la (nar .byte ((nar .char ya).toInt8.toInt32)) (nar .byte ((nar .char yb).toInt8.toInt32)) (nar .byte ((nar .char xa).toInt8.toInt32)) (nar .byte ((nar .char xb).toInt8.toInt32))) = (1 : Int32))).2 k) ?_
                    show own_Go _ _ _ _ T139 (mkF m 345 #[.val (.int p0), .val (.int p1), .val (.int p2), .val (.int p3), .val (.int p4), .val (.int p5), .val (.int sn), .val (.int sy), .val (.int la), .val (.int xa), .val (.int xb), .val (.int lb), .val (.int ya), .val (.int yb), .val (.ref b1), .val (.ref b17), .val (.int (p2 &&& (2147483647 : Int32))), .val (.int (if sy = (0 : Int32) then (p3 &&& (2147483647 : Int32)) else (p2 &&& (2147483647 : Int32)))), .val (.ref b40), .val (.int (p5 &&& (3 : Int32))), .val (.ref b73), .val (.int (1 : Int32)), .val (.int (1 : Int32))] [])
                    refine own_st (fun t k => XS.iconst X139.here hx rfl (hb hby at_345) k) ?_
                    refine own_st (fun t k => XS.goto X139.here hx rfl (pc0 := 346) (pc' := 350) rfl (hb hby at_346) (by decide) (by decide) k) ?_
                    show own_Go _ _ _ _ T139 (mkF m 350 #[.val (.int p0), .val (.int p1), .val (.int p2), .val (.int p3), .val (.int p4), .val (.int p5), .val (.int sn), .val (.int sy), .val (.int la), .val (.int xa), .val (.int xb), .val (.int lb), .val (.int ya), .val (.int yb), .val (.ref b1), .val (.ref b17), .val (.int (p2 &&& (2147483647 : Int32))), .val (.int (if sy = (0 : Int32) then (p3 &&& (2147483647 : Int32)) else (p2 &&& (2147483647 : Int32)))), .val (.ref b40), .val (.int (p5 &&& (3 : Int32))), .val (.ref b73), .val (.int (1 : Int32)), .val (.int (1 : Int32))] [(.int (1 : Int32))])
                    exact own_retNW X139 hS89 (by rw [e139]; exact (Nat.le_refl T89.heap.size)) hx hlk (t := .boolean) hrt (by simp) (hb hby at_350) ⟨rfl, N139⟩ (by decide) (by decide)
                  ·
                    refine own_st (fun t k => XS.icmpYes X89.here hx rfl (pc0 := 311) (pc' := 318) rfl (hb hby at_311) rfl (feq c311_125).2 (by decide) (by decide) k) ?_
                    show own_Go _ _ _ _ T89 (mkF m 318 #[.val (.int p0), .val (.int p1), .val (.int p2), .val (.int p3), .val (.int p4), .val (.int p5), .val (.int sn), .val (.int sy), .val (.int la), .val (.int xa), .val (.int xb), .val (.int lb), .val (.int ya), .val (.int yb), .val (.ref b1), .val (.ref b17), .val (.int (p2 &&& (2147483647 : Int32))), .val (.int (if sy = (0 : Int32) then (p3 &&& (2147483647 : Int32)) else (p2 &&& (2147483647 : Int32)))), .val (.ref b40), .val (.int (p5 &&& (3 : Int32))), .val (.ref b73), .val (.int (1 : Int32)), .unset] [])
                    refine own_st (fun t k => XS.iconst X89.here hx rfl (hb hby at_318) k) ?_
                    refine own_st (fun t k => XS.istore X89.here hx rfl (hb hby at_319) rfl (l' := #[.val (.int p0), .val (.int p1), .val (.int p2), .val (.int p3), .val (.int p4), .val (.int p5), .val (.int sn), .val (.int sy), .val (.int la), .val (.int xa), .val (.int xb), .val (.int lb), .val (.int ya), .val (.int yb), .val (.ref b1), .val (.ref b17), .val (.int (p2 &&& (2147483647 : Int32))), .val (.int (if sy = (0 : Int32) then (p3 &&& (2147483647 : Int32)) else (p2 &&& (2147483647 : Int32)))), .val (.ref b40), .val (.int (p5 &&& (3 : Int32))), .val (.ref b73), .val (.int (1 : Int32)), .val (.int (0 : Int32))]) rfl k) ?_
                    show own_Go _ _ _ _ T89 (mkF m 321 #[.val (.int p0), .val (.int p1), .val (.int p2), .val (.int p3), .val (.int p4), .val (.int p5), .val (.int sn), .val (.int sy), .val (.int la), .val (.int xa), .val (.int xb), .val (.int lb), .val (.int ya), .val (.int yb), .val (.ref b1), .val (.ref b17), .val (.int (p2 &&& (2147483647 : Int32))), .val (.int (if sy = (0 : Int32) then (p3 &&& (2147483647 : Int32)) else (p2 &&& (2147483647 : Int32)))), .val (.ref b40), .val (.int (p5 &&& (3 : Int32))), .val (.ref b73), .val (.int (1 : Int32)), .val (.int (0 : Int32))] [])
                    refine own_st (fun t k => XS.aload X89.here hx rfl (hb hby at_321) rfl rfl k) ?_
                    refine own_st (fun t k => XS.aload X89.here hx rfl (hb hby at_323) rfl rfl k) ?_
                    show own_Go _ _ _ _ T89 (mkF m 325 #[.val (.int p0), .val (.int p1), .val (.int p2), .val (.int p3), .val (.int p4), .val (.int p5), .val (.int sn), .val (.int sy), .val (.int la), .val (.int xa), .val (.int xb), .val (.int lb), .val (.int ya), .val (.int yb), .val (.ref b1), .val (.ref b17), .val (.int (p2 &&& (2147483647 : Int32))), .val (.int (if sy = (0 : Int32) then (p3 &&& (2147483647 : Int32)) else (p2 &&& (2147483647 : Int32)))), .val (.ref b40), .val (.int (p5 &&& (3 : Int32))), .val (.ref b73), .val (.int (1 : Int32)), .val (.int (0 : Int32))] [(.ref b73), (.ref b40)])
                    have R53a_140 := ((R53a.ext E73).keep K89 (ninS ne_b40_b73 (ninS (Ne.symm ne_b17_b40) nin0)))
                    have R53b_141 := ((R53b.ext E73).keep K89 (ninS ne_b40_b73 (ninS (Ne.symm ne_b17_b40) nin0)))
                    have A73_142 := (A73.keep K89)
                    have V10_143 := ((V10_76.ext E73).keep K89 (ninS ne_b10_b73 (ninS ne_b10_b17 nin0)))
                    have V31_144 := (V31_86.keep K89 (ninS ne_b31_b73 (ninS nb31 nin0)))
                    have A1_145 := ((A1_74.ext E73).keep K89)
                    have R53c_146 := ((R53c.ext E73).keep K89 (ninS ne_b1_b73 (ninS ne_b1_b17 nin0)))
                    have R53d_147 := ((R53d.ext E73).keep K89 (ninS ne_b1_b73 (ninS ne_b1_b17 nin0)))
                    have A17_148 := (A17_81.keep K89)
                    have O0_149 := (O0_88.keep K89 (allS g_b73 (allS g_b17 all0)))
                    have K0_151 := (K0_90.trans K89 (allS ((Or.inr sz_b73)) (allS ((Or.inr sz_b17)) all0)))
                    have A40_152 := ((A40_80.ext E73).keep K89)
                    obtain ⟨cq150, kq150, q150a, q150b, q150c⟩ := isOf hZ89 rfl A40_152
                    obtain ⟨_, _, ⟨T150, L150, k150, n150⟩, -, X150, ⟨Lc150, hQ150, l150, y150, z150⟩, st150⟩ := X89.virtualBack hx (y := (⟨"com/example/libhorn/libhorn/data/Relation", "equals", "(Ljava/lang/Object;)Z"⟩ : MethodName)) (z := (⟨"com/example/libhorn/libhorn/data/Relation", "equals", "(Ljava/lang/Object;)Z"⟩ : MethodName)) hown89 (mvT hZ89 (hw _ (List.mem_of_getElem? (i := 92) rfl))) (mvT hZ89 (hw _ (List.mem_of_getElem? (i := 93) rfl))) (notFace_of_selects (args := #[]) (mvT hZ89 (hw _ (List.mem_of_getElem? (i := 95) rfl)))) (mvT hZ89 (hw _ (List.mem_of_getElem? (i := 95) rfl))) (mvT hZ89 (hw _ (List.mem_of_getElem? (i := 94) rfl))) (by decide) (backOf (W := 0) (rm15r l Z a0 hw [] b40 b73 b1 (p2 &&& (2147483647 : Int32)) b17 (if sy = (0 : Int32) then (p3 &&& (2147483647 : Int32)) else (p2 &&& (2147483647 : Int32))) b10 b31 k10v k31v la lb (nar .byte ((nar .char xa).toInt8.toInt32)) (nar .byte ((nar .char xb).toInt8.toInt32)) (nar .byte ((nar .char ya).toInt8.toInt32)) (nar .byte ((nar .char yb).toInt8.toInt32)) cs ca cc  T89.heap n0 (Nat.le_trans Z0 K0_151.1) R53a_140 R53b_141 A73_142 R89a R89b A1_145 R53c_146 R53d_147 A17_148 R89c R89d V10_143 V31_144 hla G O0_149) hZ89 (hw _ (List.mem_of_getElem? (i := 96) rfl)) (hw _ (List.mem_of_getElem? (i := 29) rfl)) (by decide) (by decide)) q150a q150c (g := (mkF m 325 #[.val (.int p0), .val (.int p1), .val (.int p2), .val (.int p3), .val (.int p4), .val (.int p5), .val (.int sn), .val (.int sy), .val (.int la), .val (.int xa), .val (.int xb), .val (.int lb), .val (.int ya), .val (.int yb), .val (.ref b1), .val (.ref b17), .val (.int (p2 &&& (2147483647 : Int32))), .val (.int (if sy = (0 : Int32) then (p3 &&& (2147483647 : Int32)) else (p2 &&& (2147483647 : Int32)))), .val (.ref b40), .val (.int (p5 &&& (3 : Int32))), .val (.ref b73), .val (.int (1 : Int32)), .val (.int (0 : Int32))] [(.ref b73), (.ref b40)])) rfl (by rw [hml]; rfl) (Steps.refl _) (argsL := [(.ref b73)]) (rest := []) (lenOf pd__28Ljava_2flang_2fObject_3b_29Z rfl) rfl (by show 2 * 0 + _ ≤ _; exact Nat.le_of_eq rfl) (hb hby at_325) (fun _ _ => ⟨rfl, rfl, (by decide : 22 + 0 ≤ _), (by decide : 80 + 0 ≤ _)⟩)
                    dsimp only [Pt.U, Pt.locs, Pt.cells, Pt.slots] at X150 l150 y150 z150 st150 hQ150
                    subst l150 y150 z150
                    obtain ⟨rfl, N150q, e150⟩ := hQ150
                    obtain ⟨_, X150, N150⟩ := own_hide X150 (Fr.app N89 N150q)
                    refine own_tr st150 ?_
                    show own_Go _ _ _ _ T150 (mkF m 328 #[.val (.int p0), .val (.int p1), .val (.int p2), .val (.int p3), .val (.int p4), .val (.int p5), .val (.int sn), .val (.int sy), .val (.int la), .val (.int xa), .val (.int xb), .val (.int lb), .val (.int ya), .val (.int yb), .val (.ref b1), .val (.ref b17), .val (.int (p2 &&& (2147483647 : Int32))), .val (.int (if sy = (0 : Int32) then (p3 &&& (2147483647 : Int32)) else (p2 &&& (2147483647 : Int32)))), .val (.ref b40), .val (.int (p5 &&& (3 : Int32))), .val (.ref b73), .val (.int (1 : Int32)), .val (.int (0 : Int32))] [(.int (own_re b1 (p2 &&& (2147483647 : Int32)) b17 (if sy = (0 : Int32) then (p3 &&& (2147483647 : Int32)) else (p2 &&& (2147483647 : Int32))) la lb (nar .byte ((nar .char xa).toInt8.toInt32)) (nar .byte ((nar .char xb).toInt8.toInt32)) (nar .byte ((nar .char ya).toInt8.toInt32)) (nar .byte ((nar .char yb).toInt8.toInt32))))])
                    refine own_st (fun t k => XS.iload X150.here hx rfl (hb hby at_328) rfl k) ?_
                    refine own_st (fun t k => XS.icmpNo X150.here hx rfl (hb hby at_330) rfl (teq ((own_key ne_b1_b17 hla hxa hxb hya hyb).trans (if_neg (fun q => c311_125 q.2)) : (own_re b1 (p2 &&& (2147483647 : Int32)) b17 (if sy = (0 : Int32) then (p3 &&& (2147483647 : Int32)) else (p2 &&& (2147483647 : Int32))) la lb (nar .byte ((nar .char xa).toInt8.toInt32)) (nar .byte ((nar .char xb).toInt8.toInt32)) (nar .byte ((nar .char ya).toInt8.toInt32)) (nar .byte ((nar .char yb).toInt8.toInt32))) = (0 : Int32))).2 k) ?_
                    show own_Go _ _ _ _ T150 (mkF m 333 #[.val (.int p0), .val (.int p1), .val (.int p2), .val (.int p3), .val (.int p4), .val (.int p5), .val (.int sn), .val (.int sy), .val (.int la), .val (.int xa), .val (.int xb), .val (.int lb), .val (.int ya), .val (.int yb), .val (.ref b1), .val (.ref b17), .val (.int (p2 &&& (2147483647 : Int32))), .val (.int (if sy = (0 : Int32) then (p3 &&& (2147483647 : Int32)) else (p2 &&& (2147483647 : Int32)))), .val (.ref b40), .val (.int (p5 &&& (3 : Int32))), .val (.ref b73), .val (.int (1 : Int32)), .val (.int (0 : Int32))] [])
                    refine own_st (fun t k => XS.aload X150.here hx rfl (hb hby at_333) rfl rfl k) ?_
                    refine own_st (fun t k => XS.aload X150.here hx rfl (hb hby at_335) rfl rfl k) ?_
                    show own_Go _ _ _ _ T150 (mkF m 337 #[.val (.int p0), .val (.int p1), .val (.int p2), .val (.int p3), .val (.int p4), .val (.int p5), .val (.int sn), .val (.int sy), .val (.int la), .val (.int xa), .val (.int xb), .val (.int lb), .val (.int ya), .val (.int yb), .val (.ref b1), .val (.ref b17), .val (.int (p2 &&& (2147483647 : Int32))), .val (.int (if sy = (0 : Int32) then (p3 &&& (2147483647 : Int32)) else (p2 &&& (2147483647 : Int32)))), .val (.ref b40), .val (.int (p5 &&& (3 : Int32))), .val (.ref b73), .val (.int (1 : Int32)), .val (.int (0 : Int32))] [(.ref b40), (.ref b73)])
                    obtain ⟨cq153, kq153, q153a, q153b, q153c⟩ := isOf hZ89 e150 A73_142
                    obtain ⟨_, _, ⟨T153, L153, k153, n153⟩, -, X153, ⟨Lc153, hQ153, l153, y153, z153⟩, st153⟩ := X150.virtualBack hx (y := (⟨"com/example/libhorn/libhorn/data/Relation", "equals", "(Ljava/lang/Object;)Z"⟩ : MethodName)) (z := (⟨"com/example/libhorn/libhorn/data/Relation", "equals", "(Ljava/lang/Object;)Z"⟩ : MethodName)) hown89 (mvT hZ89 (hw _ (List.mem_of_getElem? (i := 92) rfl))) (mvT hZ89 (hw _ (List.mem_of_getElem? (i := 93) rfl))) (notFace_of_selects (args := #[]) (mvT hZ89 (hw _ (List.mem_of_getElem? (i := 95) rfl)))) (mvT hZ89 (hw _ (List.mem_of_getElem? (i := 95) rfl))) (mvT hZ89 (hw _ (List.mem_of_getElem? (i := 94) rfl))) (by decide) (backOf (W := 0) (rm15r l Z a0 hw [] b73 b40 b17 (if sy = (0 : Int32) then (p3 &&& (2147483647 : Int32)) else (p2 &&& (2147483647 : Int32))) b1 (p2 &&& (2147483647 : Int32)) b31 b10 k31v k10v lb la (nar .byte ((nar .char ya).toInt8.toInt32)) (nar .byte ((nar .char yb).toInt8.toInt32)) (nar .byte ((nar .char xa).toInt8.toInt32)) (nar .byte ((nar .char xb).toInt8.toInt32)) cs ca cc  T89.heap n0 (Nat.le_trans Z0 K0_151.1) R89a R89b A40_152 R53a_140 R53b_141 A17_148 R89c R89d A1_145 R53c_146 R53d_147 V31_144 V10_143 hlb G O0_149) hZ89 (hw _ (List.mem_of_getElem? (i := 96) rfl)) (hw _ (List.mem_of_getElem? (i := 29) rfl)) (by decide) (by decide)) q153a q153c (g := (mkF m 337 #[.val (.int p0), .val (.int p1), .val (.int p2), .val (.int p3), .val (.int p4), .val (.int p5), .val (.int sn), .val (.int sy), .val (.int la), .val (.int xa), .val (.int xb), .val (.int lb), .val (.int ya), .val (.int yb), .val (.ref b1), .val (.ref b17), .val (.int (p2 &&& (2147483647 : Int32))), .val (.int (if sy = (0 : Int32) then (p3 &&& (2147483647 : Int32)) else (p2 &&& (2147483647 : Int32)))), .val (.ref b40), .val (.int (p5 &&& (3 : Int32))), .val (.ref b73), .val (.int (1 : Int32)), .val (.int (0 : Int32))] [(.ref b40), (.ref b73)])) rfl (by rw [hml]; rfl) (Steps.refl _) (argsL := [(.ref b40)]) (rest := []) (lenOf pd__28Ljava_2flang_2fObject_3b_29Z rfl) rfl (by show 2 * 0 + _ ≤ _; exact Nat.le_of_eq rfl) (hb hby at_337) (fun _ _ => ⟨rfl, e150, (by decide : 22 + 0 ≤ _), (by decide : 80 + 0 ≤ _)⟩)
                    dsimp only [Pt.U, Pt.locs, Pt.cells, Pt.slots] at X153 l153 y153 z153 st153 hQ153
                    subst l153 y153 z153
                    obtain ⟨rfl, N153q, e153⟩ := hQ153
                    obtain ⟨_, X153, N153⟩ := own_hide X153 (Fr.app N150 N153q)
                    refine own_tr st153 ?_
                    show own_Go _ _ _ _ T153 (mkF m 340 #[.val (.int p0), .val (.int p1), .val (.int p2), .val (.int p3), .val (.int p4), .val (.int p5), .val (.int sn), .val (.int sy), .val (.int la), .val (.int xa), .val (.int xb), .val (.int lb), .val (.int ya), .val (.int yb), .val (.ref b1), .val (.ref b17), .val (.int (p2 &&& (2147483647 : Int32))), .val (.int (if sy = (0 : Int32) then (p3 &&& (2147483647 : Int32)) else (p2 &&& (2147483647 : Int32)))), .val (.ref b40), .val (.int (p5 &&& (3 : Int32))), .val (.ref b73), .val (.int (1 : Int32)), .val (.int (0 : Int32))] [(.int (own_re b17 (if sy = (0 : Int32) then (p3 &&& (2147483647 : Int32)) else (p2 &&& (2147483647 : Int32))) b1 (p2 &&& (2147483647 : Int32)) lb la (nar .byte ((nar .char ya).toInt8.toInt32)) (nar .byte ((nar .char yb).toInt8.toInt32)) (nar .byte ((nar .char xa).toInt8.toInt32)) (nar .byte ((nar .char xb).toInt8.toInt32))))])
                    refine own_st (fun t k => XS.iload X153.here hx rfl (hb hby at_340) rfl k) ?_
                    refine own_st (fun t k => XS.icmpNo X153.here hx rfl (hb hby at_342) rfl (teq ((own_sym _ _ _ _ _ _ _ _ _ _).trans ((own_key ne_b1_b17 hla hxa hxb hya hyb).trans (if_neg (fun q => c311_125 q.2))) : (own_re b17 (if sy = (0 : Int32) then (p3 &&& (2147483647 : Int32)) else (p2 &&& (2147483647 : Int32))) b1 (p2 &&& (2147483647 : Int32)) lb la (nar .byte ((nar .char ya).toInt8.toInt32)) (nar .byte ((nar .char yb).toInt8.toInt32)) (nar .byte ((nar .char xa).toInt8.toInt32)) (nar .byte ((nar .char xb).toInt8.toInt32))) = (0 : Int32))).2 k) ?_
                    show own_Go _ _ _ _ T153 (mkF m 345 #[.val (.int p0), .val (.int p1), .val (.int p2), .val (.int p3), .val (.int p4), .val (.int p5), .val (.int sn), .val (.int sy), .val (.int la), .val (.int xa), .val (.int xb), .val (.int lb), .val (.int ya), .val (.int yb), .val (.ref b1), .val (.ref b17), .val (.int (p2 &&& (2147483647 : Int32))), .val (.int (if sy = (0 : Int32) then (p3 &&& (2147483647 : Int32)) else (p2 &&& (2147483647 : Int32)))), .val (.ref b40), .val (.int (p5 &&& (3 : Int32))), .val (.ref b73), .val (.int (1 : Int32)), .val (.int (0 : Int32))] [])
                    refine own_st (fun t k => XS.iconst X153.here hx rfl (hb hby at_345) k) ?_
                    refine own_st (fun t k => XS.goto X153.here hx rfl (pc0 := 346) (pc' := 350) rfl (hb hby at_346) (by decide) (by decide) k) ?_
                    show own_Go _ _ _ _ T153 (mkF m 350 #[.val (.int p0), .val (.int p1), .val (.int p2), .val (.int p3), .val (.int p4), .val (.int p5), .val (.int sn), .val (.int sy), .val (.int la), .val (.int xa), .val (.int xb), .val (.int lb), .val (.int ya), .val (.int yb), .val (.ref b1), .val (.ref b17), .val (.int (p2 &&& (2147483647 : Int32))), .val (.int (if sy = (0 : Int32) then (p3 &&& (2147483647 : Int32)) else (p2 &&& (2147483647 : Int32)))), .val (.ref b40), .val (.int (p5 &&& (3 : Int32))), .val (.ref b73), .val (.int (1 : Int32)), .val (.int (0 : Int32))] [(.int (1 : Int32))])
                    exact own_retNW X153 hS89 (by rw [e153]; exact (Nat.le_refl T89.heap.size)) hx hlk (t := .boolean) hrt (by simp) (hb hby at_350) ⟨rfl, N153⟩ (by decide) (by decide)
                ·
                  refine own_st (fun t k => XS.icmpNo X89.here hx rfl (hb hby at_285) rfl (flt c285_124).1 k) ?_
                  show own_Go _ _ _ _ T89 (mkF m 288 #[.val (.int p0), .val (.int p1), .val (.int p2), .val (.int p3), .val (.int p4), .val (.int p5), .val (.int sn), .val (.int sy), .val (.int la), .val (.int xa), .val (.int xb), .val (.int lb), .val (.int ya), .val (.int yb), .val (.ref b1), .val (.ref b17), .val (.int (p2 &&& (2147483647 : Int32))), .val (.int (if sy = (0 : Int32) then (p3 &&& (2147483647 : Int32)) else (p2 &&& (2147483647 : Int32)))), .val (.ref b40), .val (.int (p5 &&& (3 : Int32))), .val (.ref b73), .unset, .unset] [])
                  refine own_st (fun t k => XS.iload X89.here hx rfl (hb hby at_288) rfl k) ?_
                  refine own_st (fun t k => XS.iload X89.here hx rfl (hb hby at_290) rfl k) ?_
                  by_cases c292_154 : xb = yb
                  ·
                    refine own_st (fun t k => XS.icmpNo X89.here hx rfl (hb hby at_292) rfl (teq c292_154).2 k) ?_
                    show own_Go _ _ _ _ T89 (mkF m 295 #[.val (.int p0), .val (.int p1), .val (.int p2), .val (.int p3), .val (.int p4), .val (.int p5), .val (.int sn), .val (.int sy), .val (.int la), .val (.int xa), .val (.int xb), .val (.int lb), .val (.int ya), .val (.int yb), .val (.ref b1), .val (.ref b17), .val (.int (p2 &&& (2147483647 : Int32))), .val (.int (if sy = (0 : Int32) then (p3 &&& (2147483647 : Int32)) else (p2 &&& (2147483647 : Int32)))), .val (.ref b40), .val (.int (p5 &&& (3 : Int32))), .val (.ref b73), .unset, .unset] [])
                    refine own_st (fun t k => XS.iconst X89.here hx rfl (hb hby at_295) k) ?_
                    refine own_st (fun t k => XS.goto X89.here hx rfl (pc0 := 296) (pc' := 300) rfl (hb hby at_296) (by decide) (by decide) k) ?_
                    show own_Go _ _ _ _ T89 (mkF m 300 #[.val (.int p0), .val (.int p1), .val (.int p2), .val (.int p3), .val (.int p4), .val (.int p5), .val (.int sn), .val (.int sy), .val (.int la), .val (.int xa), .val (.int xb), .val (.int lb), .val (.int ya), .val (.int yb), .val (.ref b1), .val (.ref b17), .val (.int (p2 &&& (2147483647 : Int32))), .val (.int (if sy = (0 : Int32) then (p3 &&& (2147483647 : Int32)) else (p2 &&& (2147483647 : Int32)))), .val (.ref b40), .val (.int (p5 &&& (3 : Int32))), .val (.ref b73), .unset, .unset] [(.int (1 : Int32))])
                    refine own_st (fun t k => XS.istore X89.here hx rfl (hb hby at_300) rfl (l' := #[.val (.int p0), .val (.int p1), .val (.int p2), .val (.int p3), .val (.int p4), .val (.int p5), .val (.int sn), .val (.int sy), .val (.int la), .val (.int xa), .val (.int xb), .val (.int lb), .val (.int ya), .val (.int yb), .val (.ref b1), .val (.ref b17), .val (.int (p2 &&& (2147483647 : Int32))), .val (.int (if sy = (0 : Int32) then (p3 &&& (2147483647 : Int32)) else (p2 &&& (2147483647 : Int32)))), .val (.ref b40), .val (.int (p5 &&& (3 : Int32))), .val (.ref b73), .val (.int (1 : Int32)), .unset]) rfl k) ?_
                    show own_Go _ _ _ _ T89 (mkF m 302 #[.val (.int p0), .val (.int p1), .val (.int p2), .val (.int p3), .val (.int p4), .val (.int p5), .val (.int sn), .val (.int sy), .val (.int la), .val (.int xa), .val (.int xb), .val (.int lb), .val (.int ya), .val (.int yb), .val (.ref b1), .val (.ref b17), .val (.int (p2 &&& (2147483647 : Int32))), .val (.int (if sy = (0 : Int32) then (p3 &&& (2147483647 : Int32)) else (p2 &&& (2147483647 : Int32)))), .val (.ref b40), .val (.int (p5 &&& (3 : Int32))), .val (.ref b73), .val (.int (1 : Int32)), .unset] [])
                    refine own_st (fun t k => XS.iload X89.here hx rfl (hb hby at_302) rfl k) ?_
                    refine own_st (fun t k => XS.ifNo X89.here hx rfl (hb hby at_304) rfl ((if0 _ _).trans (feq (by decide : ¬ ((1 : Int32) = (0 : Int32)))).1) k) ?_
                    show own_Go _ _ _ _ T89 (mkF m 307 #[.val (.int p0), .val (.int p1), .val (.int p2), .val (.int p3), .val (.int p4), .val (.int p5), .val (.int sn), .val (.int sy), .val (.int la), .val (.int xa), .val (.int xb), .val (.int lb), .val (.int ya), .val (.int yb), .val (.ref b1), .val (.ref b17), .val (.int (p2 &&& (2147483647 : Int32))), .val (.int (if sy = (0 : Int32) then (p3 &&& (2147483647 : Int32)) else (p2 &&& (2147483647 : Int32)))), .val (.ref b40), .val (.int (p5 &&& (3 : Int32))), .val (.ref b73), .val (.int (1 : Int32)), .unset] [])
                    refine own_st (fun t k => XS.iload X89.here hx rfl (hb hby at_307) rfl k) ?_
                    refine own_st (fun t k => XS.iload X89.here hx rfl (hb hby at_309) rfl k) ?_
                    by_cases c311_155 : (p2 &&& (2147483647 : Int32)) = (if sy = (0 : Int32) then (p3 &&& (2147483647 : Int32)) else (p2 &&& (2147483647 : Int32)))
                    ·
                      refine own_st (fun t k => XS.icmpNo X89.here hx rfl (hb hby at_311) rfl (teq c311_155).2 k) ?_
                      show own_Go _ _ _ _ T89 (mkF m 314 #[.val (.int p0), .val (.int p1), .val (.int p2), .val (.int p3), .val (.int p4), .val (.int p5), .val (.int sn), .val (.int sy), .val (.int la), .val (.int xa), .val (.int xb), .val (.int lb), .val (.int ya), .val (.int yb), .val (.ref b1), .val (.ref b17), .val (.int (p2 &&& (2147483647 : Int32))), .val (.int (if sy = (0 : Int32) then (p3 &&& (2147483647 : Int32)) else (p2 &&& (2147483647 : Int32)))), .val (.ref b40), .val (.int (p5 &&& (3 : Int32))), .val (.ref b73), .val (.int (1 : Int32)), .unset] [])
                      refine own_st (fun t k => XS.iconst X89.here hx rfl (hb hby at_314) k) ?_
                      refine own_st (fun t k => XS.goto X89.here hx rfl (pc0 := 315) (pc' := 319) rfl (hb hby at_315) (by decide) (by decide) k) ?_
                      show own_Go _ _ _ _ T89 (mkF m 319 #[.val (.int p0), .val (.int p1), .val (.int p2), .val (.int p3), .val (.int p4), .val (.int p5), .val (.int sn), .val (.int sy), .val (.int la), .val (.int xa), .val (.int xb), .val (.int lb), .val (.int ya), .val (.int yb), .val (.ref b1), .val (.ref b17), .val (.int (p2 &&& (2147483647 : Int32))), .val (.int (if sy = (0 : Int32) then (p3 &&& (2147483647 : Int32)) else (p2 &&& (2147483647 : Int32)))), .val (.ref b40), .val (.int (p5 &&& (3 : Int32))), .val (.ref b73), .val (.int (1 : Int32)), .unset] [(.int (1 : Int32))])
                      refine own_st (fun t k => XS.istore X89.here hx rfl (hb hby at_319) rfl (l' := #[.val (.int p0), .val (.int p1), .val (.int p2), .val (.int p3), .val (.int p4), .val (.int p5), .val (.int sn), .val (.int sy), .val (.int la), .val (.int xa), .val (.int xb), .val (.int lb), .val (.int ya), .val (.int yb), .val (.ref b1), .val (.ref b17), .val (.int (p2 &&& (2147483647 : Int32))), .val (.int (if sy = (0 : Int32) then (p3 &&& (2147483647 : Int32)) else (p2 &&& (2147483647 : Int32)))), .val (.ref b40), .val (.int (p5 &&& (3 : Int32))), .val (.ref b73), .val (.int (1 : Int32)), .val (.int (1 : Int32))]) rfl k) ?_
                      show own_Go _ _ _ _ T89 (mkF m 321 #[.val (.int p0), .val (.int p1), .val (.int p2), .val (.int p3), .val (.int p4), .val (.int p5), .val (.int sn), .val (.int sy), .val (.int la), .val (.int xa), .val (.int xb), .val (.int lb), .val (.int ya), .val (.int yb), .val (.ref b1), .val (.ref b17), .val (.int (p2 &&& (2147483647 : Int32))), .val (.int (if sy = (0 : Int32) then (p3 &&& (2147483647 : Int32)) else (p2 &&& (2147483647 : Int32)))), .val (.ref b40), .val (.int (p5 &&& (3 : Int32))), .val (.ref b73), .val (.int (1 : Int32)), .val (.int (1 : Int32))] [])
                      refine own_st (fun t k => XS.aload X89.here hx rfl (hb hby at_321) rfl rfl k) ?_
                      refine own_st (fun t k => XS.aload X89.here hx rfl (hb hby at_323) rfl rfl k) ?_
                      show own_Go _ _ _ _ T89 (mkF m 325 #[.val (.int p0), .val (.int p1), .val (.int p2), .val (.int p3), .val (.int p4), .val (.int p5), .val (.int sn), .val (.int sy), .val (.int la), .val (.int xa), .val (.int xb), .val (.int lb), .val (.int ya), .val (.int yb), .val (.ref b1), .val (.ref b17), .val (.int (p2 &&& (2147483647 : Int32))), .val (.int (if sy = (0 : Int32) then (p3 &&& (2147483647 : Int32)) else (p2 &&& (2147483647 : Int32)))), .val (.ref b40), .val (.int (p5 &&& (3 : Int32))), .val (.ref b73), .val (.int (1 : Int32)), .val (.int (1 : Int32))] [(.ref b73), (.ref b40)])
                      have R53a_156 := ((R53a.ext E73).keep K89 (ninS ne_b40_b73 (ninS (Ne.symm ne_b17_b40) nin0)))
                      have R53b_157 := ((R53b.ext E73).keep K89 (ninS ne_b40_b73 (ninS (Ne.symm ne_b17_b40) nin0)))
                      have A73_158 := (A73.keep K89)
                      have V10_159 := ((V10_76.ext E73).keep K89 (ninS ne_b10_b73 (ninS ne_b10_b17 nin0)))
                      have V31_160 := (V31_86.keep K89 (ninS ne_b31_b73 (ninS nb31 nin0)))
                      have A1_161 := ((A1_74.ext E73).keep K89)
                      have R53c_162 := ((R53c.ext E73).keep K89 (ninS ne_b1_b73 (ninS ne_b1_b17 nin0)))
                      have R53d_163 := ((R53d.ext E73).keep K89 (ninS ne_b1_b73 (ninS ne_b1_b17 nin0)))
                      have A17_164 := (A17_81.keep K89)
                      have O0_165 := (O0_88.keep K89 (allS g_b73 (allS g_b17 all0)))
                      have K0_167 := (K0_90.trans K89 (allS ((Or.inr sz_b73)) (allS ((Or.inr sz_b17)) all0)))
                      have A40_168 := ((A40_80.ext E73).keep K89)
                      obtain ⟨cq166, kq166, q166a, q166b, q166c⟩ := isOf hZ89 rfl A40_168
                      obtain ⟨_, _, ⟨T166, L166, k166, n166⟩, -, X166, ⟨Lc166, hQ166, l166, y166, z166⟩, st166⟩ := X89.virtualBack hx (y := (⟨"com/example/libhorn/libhorn/data/Relation", "equals", "(Ljava/lang/Object;)Z"⟩ : MethodName)) (z := (⟨"com/example/libhorn/libhorn/data/Relation", "equals", "(Ljava/lang/Object;)Z"⟩ : MethodName)) hown89 (mvT hZ89 (hw _ (List.mem_of_getElem? (i := 92) rfl))) (mvT hZ89 (hw _ (List.mem_of_getElem? (i := 93) rfl))) (notFace_of_selects (args := #[]) (mvT hZ89 (hw _ (List.mem_of_getElem? (i := 95) rfl)))) (mvT hZ89 (hw _ (List.mem_of_getElem? (i := 95) rfl))) (mvT hZ89 (hw _ (List.mem_of_getElem? (i := 94) rfl))) (by decide) (backOf (W := 0) (rm15r l Z a0 hw [] b40 b73 b1 (p2 &&& (2147483647 : Int32)) b17 (if sy = (0 : Int32) then (p3 &&& (2147483647 : Int32)) else (p2 &&& (2147483647 : Int32))) b10 b31 k10v k31v la lb (nar .byte ((nar .char xa).toInt8.toInt32)) (nar .byte ((nar .char xb).toInt8.toInt32)) (nar .byte ((nar .char ya).toInt8.toInt32)) (nar .byte ((nar .char yb).toInt8.toInt32)) cs ca cc  T89.heap n0 (Nat.le_trans Z0 K0_167.1) R53a_156 R53b_157 A73_158 R89a R89b A1_161 R53c_162 R53d_163 A17_164 R89c R89d V10_159 V31_160 hla G O0_165) hZ89 (hw _ (List.mem_of_getElem? (i := 96) rfl)) (hw _ (List.mem_of_getElem? (i := 29) rfl)) (by decide) (by decide)) q166a q166c (g := (mkF m 325 #[.val (.int p0), .val (.int p1), .val (.int p2), .val (.int p3), .val (.int p4), .val (.int p5), .val (.int sn), .val (.int sy), .val (.int la), .val (.int xa), .val (.int xb), .val (.int lb), .val (.int ya), .val (.int yb), .val (.ref b1), .val (.ref b17), .val (.int (p2 &&& (2147483647 : Int32))), .val (.int (if sy = (0 : Int32) then (p3 &&& (2147483647 : Int32)) else (p2 &&& (2147483647 : Int32)))), .val (.ref b40), .val (.int (p5 &&& (3 : Int32))), .val (.ref b73), .val (.int (1 : Int32)), .val (.int (1 : Int32))] [(.ref b73), (.ref b40)])) rfl (by rw [hml]; rfl) (Steps.refl _) (argsL := [(.ref b73)]) (rest := []) (lenOf pd__28Ljava_2flang_2fObject_3b_29Z rfl) rfl (by show 2 * 0 + _ ≤ _; exact Nat.le_of_eq rfl) (hb hby at_325) (fun _ _ => ⟨rfl, rfl, (by decide : 22 + 0 ≤ _), (by decide : 80 + 0 ≤ _)⟩)
                      dsimp only [Pt.U, Pt.locs, Pt.cells, Pt.slots] at X166 l166 y166 z166 st166 hQ166
                      subst l166 y166 z166
                      obtain ⟨rfl, N166q, e166⟩ := hQ166
                      obtain ⟨_, X166, N166⟩ := own_hide X166 (Fr.app N89 N166q)
                      refine own_tr st166 ?_
                      show own_Go _ _ _ _ T166 (mkF m 328 #[.val (.int p0), .val (.int p1), .val (.int p2), .val (.int p3), .val (.int p4), .val (.int p5), .val (.int sn), .val (.int sy), .val (.int la), .val (.int xa), .val (.int xb), .val (.int lb), .val (.int ya), .val (.int yb), .val (.ref b1), .val (.ref b17), .val (.int (p2 &&& (2147483647 : Int32))), .val (.int (if sy = (0 : Int32) then (p3 &&& (2147483647 : Int32)) else (p2 &&& (2147483647 : Int32)))), .val (.ref b40), .val (.int (p5 &&& (3 : Int32))), .val (.ref b73), .val (.int (1 : Int32)), .val (.int (1 : Int32))] [(.int (own_re b1 (p2 &&& (2147483647 : Int32)) b17 (if sy = (0 : Int32) then (p3 &&& (2147483647 : Int32)) else (p2 &&& (2147483647 : Int32))) la lb (nar .byte ((nar .char xa).toInt8.toInt32)) (nar .byte ((nar .char xb).toInt8.toInt32)) (nar .byte ((nar .char ya).toInt8.toInt32)) (nar .byte ((nar .char yb).toInt8.toInt32))))])
                      refine own_st (fun t k => XS.iload X166.here hx rfl (hb hby at_328) rfl k) ?_
                      refine own_st (fun t k => XS.icmpNo X166.here hx rfl (hb hby at_330) rfl (teq ((own_key ne_b1_b17 hla hxa hxb hya hyb).trans (if_pos ⟨⟨c266_92, Or.inr c279_123, Or.inr c292_154⟩, c311_155⟩) : (own_re b1 (p2 &&& (2147483647 : Int32)) b17 (if sy = (0 : Int32) then (p3 &&& (2147483647 : Int32)) else (p2 &&& (2147483647 : Int32))) la lb (nar .byte ((nar .char xa).toInt8.toInt32)) (nar .byte ((nar .char xb).toInt8.toInt32)) (nar .byte ((nar .char ya).toInt8.toInt32)) (nar .byte ((nar .char yb).toInt8.toInt32))) = (1 : Int32))).2 k) ?_
                      show own_Go _ _ _ _ T166 (mkF m 333 #[.val (.int p0), .val (.int p1), .val (.int p2), .val (.int p3), .val (.int p4), .val (.int p5), .val (.int sn), .val (.int sy), .val (.int la), .val (.int xa), .val (.int xb), .val (.int lb), .val (.int ya), .val (.int yb), .val (.ref b1), .val (.ref b17), .val (.int (p2 &&& (2147483647 : Int32))), .val (.int (if sy = (0 : Int32) then (p3 &&& (2147483647 : Int32)) else (p2 &&& (2147483647 : Int32)))), .val (.ref b40), .val (.int (p5 &&& (3 : Int32))), .val (.ref b73), .val (.int (1 : Int32)), .val (.int (1 : Int32))] [])
                      refine own_st (fun t k => XS.aload X166.here hx rfl (hb hby at_333) rfl rfl k) ?_
                      refine own_st (fun t k => XS.aload X166.here hx rfl (hb hby at_335) rfl rfl k) ?_
                      show own_Go _ _ _ _ T166 (mkF m 337 #[.val (.int p0), .val (.int p1), .val (.int p2), .val (.int p3), .val (.int p4), .val (.int p5), .val (.int sn), .val (.int sy), .val (.int la), .val (.int xa), .val (.int xb), .val (.int lb), .val (.int ya), .val (.int yb), .val (.ref b1), .val (.ref b17), .val (.int (p2 &&& (2147483647 : Int32))), .val (.int (if sy = (0 : Int32) then (p3 &&& (2147483647 : Int32)) else (p2 &&& (2147483647 : Int32)))), .val (.ref b40), .val (.int (p5 &&& (3 : Int32))), .val (.ref b73), .val (.int (1 : Int32)), .val (.int (1 : Int32))] [(.ref b40), (.ref b73)])
                      obtain ⟨cq169, kq169, q169a, q169b, q169c⟩ := isOf hZ89 e166 A73_158
                      obtain ⟨_, _, ⟨T169, L169, k169, n169⟩, -, X169, ⟨Lc169, hQ169, l169, y169, z169⟩, st169⟩ := X166.virtualBack hx (y := (⟨"com/example/libhorn/libhorn/data/Relation", "equals", "(Ljava/lang/Object;)Z"⟩ : MethodName)) (z := (⟨"com/example/libhorn/libhorn/data/Relation", "equals", "(Ljava/lang/Object;)Z"⟩ : MethodName)) hown89 (mvT hZ89 (hw _ (List.mem_of_getElem? (i := 92) rfl))) (mvT hZ89 (hw _ (List.mem_of_getElem? (i := 93) rfl))) (notFace_of_selects (args := #[]) (mvT hZ89 (hw _ (List.mem_of_getElem? (i := 95) rfl)))) (mvT hZ89 (hw _ (List.mem_of_getElem? (i := 95) rfl))) (mvT hZ89 (hw _ (List.mem_of_getElem? (i := 94) rfl))) (by decide) (backOf (W := 0) (rm15r l Z a0 hw [] b73 b40 b17 (if sy = (0 : Int32) then (p3 &&& (2147483647 : Int32)) else (p2 &&& (2147483647 : Int32))) b1 (p2 &&& (2147483647 : Int32)) b31 b10 k31v k10v lb la (nar .byte ((nar .char ya).toInt8.toInt32)) (nar .byte ((nar .char yb).toInt8.toInt32)) (nar .byte ((nar .char xa).toInt8.toInt32)) (nar .byte ((nar .char xb).toInt8.toInt32)) cs ca cc  T89.heap n0 (Nat.le_trans Z0 K0_167.1) R89a R89b A40_168 R53a_156 R53b_157 A17_164 R89c R89d A1_161 R53c_162 R53d_163 V31_160 V10_159 hlb G O0_165) hZ89 (hw _ (List.mem_of_getElem? (i := 96) rfl)) (hw _ (List.mem_of_getElem? (i := 29) rfl)) (by decide) (by decide)) q169a q169c (g := (mkF m 337 #[.val (.int p0), .val (.int p1), .val (.int p2), .val (.int p3), .val (.int p4), .val (.int p5), .val (.int sn), .val (.int sy), .val (.int la), .val (.int xa), .val (.int xb), .val (.int lb), .val (.int ya), .val (.int yb), .val (.ref b1), .val (.ref b17), .val (.int (p2 &&& (2147483647 : Int32))), .val (.int (if sy = (0 : Int32) then (p3 &&& (2147483647 : Int32)) else (p2 &&& (2147483647 : Int32)))), .val (.ref b40), .val (.int (p5 &&& (3 : Int32))), .val (.ref b73), .val (.int (1 : Int32)), .val (.int (1 : Int32))] [(.ref b40), (.ref b73)])) rfl (by rw [hml]; rfl) (Steps.refl _) (argsL := [(.ref b40)]) (rest := []) (lenOf pd__28Ljava_2flang_2fObject_3b_29Z rfl) rfl (by show 2 * 0 + _ ≤ _; exact Nat.le_of_eq rfl) (hb hby at_337) (fun _ _ => ⟨rfl, e166, (by decide : 22 + 0 ≤ _), (by decide : 80 + 0 ≤ _)⟩)
                      dsimp only [Pt.U, Pt.locs, Pt.cells, Pt.slots] at X169 l169 y169 z169 st169 hQ169
                      subst l169 y169 z169
                      obtain ⟨rfl, N169q, e169⟩ := hQ169
                      obtain ⟨_, X169, N169⟩ := own_hide X169 (Fr.app N166 N169q)
                      refine own_tr st169 ?_
                      show own_Go _ _ _ _ T169 (mkF m 340 #[.val (.int p0), .val (.int p1), .val (.int p2), .val (.int p3), .val (.int p4), .val (.int p5), .val (.int sn), .val (.int sy), .val (.int la), .val (.int xa), .val (.int xb), .val (.int lb), .val (.int ya), .val (.int yb), .val (.ref b1), .val (.ref b17), .val (.int (p2 &&& (2147483647 : Int32))), .val (.int (if sy = (0 : Int32) then (p3 &&& (2147483647 : Int32)) else (p2 &&& (2147483647 : Int32)))), .val (.ref b40), .val (.int (p5 &&& (3 : Int32))), .val (.ref b73), .val (.int (1 : Int32)), .val (.int (1 : Int32))] [(.int (own_re b17 (if sy = (0 : Int32) then (p3 &&& (2147483647 : Int32)) else (p2 &&& (2147483647 : Int32))) b1 (p2 &&& (2147483647 : Int32)) lb la (nar .byte ((nar .char ya).toInt8.toInt32)) (nar .byte ((nar .char yb).toInt8.toInt32)) (nar .byte ((nar .char xa).toInt8.toInt32)) (nar .byte ((nar .char xb).toInt8.toInt32))))])
                      refine own_st (fun t k => XS.iload X169.here hx rfl (hb hby at_340) rfl k) ?_
                      refine own_st (fun t k => XS.icmpNo X169.here hx rfl (hb hby at_342) rfl (teq ((own_sym _ _ _ _ _ _ _ _ _ _).trans ((own_key ne_b1_b17 hla hxa hxb hya hyb).trans (if_pos ⟨⟨c266_92, Or.inr c279_123, Or.inr c292_154⟩, c311_155⟩)) : (own_re b17 (if sy = (0 : Int32) then (p3 &&& (2147483647 : Int32)) else (p2 &&& (2147483647 : Int32))) b1 (p2 &&& (2147483647 : Int32)) lb la (nar .byte ((nar .char ya).toInt8.toInt32)) (nar .byte ((nar .char yb).toInt8.toInt32)) (nar .byte ((nar .char xa).toInt8.toInt32)) (nar .byte ((nar .char xb).toInt8.toInt32))) = (1 : Int32))).2 k) ?_
                      show own_Go _ _ _ _ T169 (mkF m 345 #[.val (.int p0), .val (.int p1), .val (.int p2), .val (.int p3), .val (.int p4), .val (.int p5), .val (.int sn), .val (.int sy), .val (.int la), .val (.int xa), .val (.int xb), .val (.int lb), .val (.int ya), .val (.int yb), .val (.ref b1), .val (.ref b17), .val (.int (p2 &&& (2147483647 : Int32))), .val (.int (if sy = (0 : Int32) then (p3 &&& (2147483647 : Int32)) else (p2 &&& (2147483647 : Int32)))), .val (.ref b40), .val (.int (p5 &&& (3 : Int32))), .val (.ref b73), .val (.int (1 : Int32)), .val (.int (1 : Int32))] [])
                      refine own_st (fun t k => XS.iconst X169.here hx rfl (hb hby at_345) k) ?_
                      refine own_st (fun t k => XS.goto X169.here hx rfl (pc0 := 346) (pc' := 350) rfl (hb hby at_346) (by decide) (by decide) k) ?_
                      show own_Go _ _ _ _ T169 (mkF m 350 #[.val (.int p0), .val (.int p1), .val (.int p2), .val (.int p3), .val (.int p4), .val (.int p5), .val (.int sn), .val (.int sy), .val (.int la), .val (.int xa), .val (.int xb), .val (.int lb), .val (.int ya), .val (.int yb), .val (.ref b1), .val (.ref b17), .val (.int (p2 &&& (2147483647 : Int32))), .val (.int (if sy = (0 : Int32) then (p3 &&& (2147483647 : Int32)) else (p2 &&& (2147483647 : Int32)))), .val (.ref b40), .val (.int (p5 &&& (3 : Int32))), .val (.ref b73), .val (.int (1 : Int32)), .val (.int (1 : Int32))] [(.int (1 : Int32))])
                      exact own_retNW X169 hS89 (by rw [e169]; exact (Nat.le_refl T89.heap.size)) hx hlk (t := .boolean) hrt (by simp) (hb hby at_350) ⟨rfl, N169⟩ (by decide) (by decide)
                    ·
                      refine own_st (fun t k => XS.icmpYes X89.here hx rfl (pc0 := 311) (pc' := 318) rfl (hb hby at_311) rfl (feq c311_155).2 (by decide) (by decide) k) ?_
                      show own_Go _ _ _ _ T89 (mkF m 318 #[.val (.int p0), .val (.int p1), .val (.int p2), .val (.int p3), .val (.int p4), .val (.int p5), .val (.int sn), .val (.int sy), .val (.int la), .val (.int xa), .val (.int xb), .val (.int lb), .val (.int ya), .val (.int yb), .val (.ref b1), .val (.ref b17), .val (.int (p2 &&& (2147483647 : Int32))), .val (.int (if sy = (0 : Int32) then (p3 &&& (2147483647 : Int32)) else (p2 &&& (2147483647 : Int32)))), .val (.ref b40), .val (.int (p5 &&& (3 : Int32))), .val (.ref b73), .val (.int (1 : Int32)), .unset] [])
                      refine own_st (fun t k => XS.iconst X89.here hx rfl (hb hby at_318) k) ?_
                      refine own_st (fun t k => XS.istore X89.here hx rfl (hb hby at_319) rfl (l' := #[.val (.int p0), .val (.int p1), .val (.int p2), .val (.int p3), .val (.int p4), .val (.int p5), .val (.int sn), .val (.int sy), .val (.int la), .val (.int xa), .val (.int xb), .val (.int lb), .val (.int ya), .val (.int yb), .val (.ref b1), .val (.ref b17), .val (.int (p2 &&& (2147483647 : Int32))), .val (.int (if sy = (0 : Int32) then (p3 &&& (2147483647 : Int32)) else (p2 &&& (2147483647 : Int32)))), .val (.ref b40), .val (.int (p5 &&& (3 : Int32))), .val (.ref b73), .val (.int (1 : Int32)), .val (.int (0 : Int32))]) rfl k) ?_
                      show own_Go _ _ _ _ T89 (mkF m 321 #[.val (.int p0), .val (.int p1), .val (.int p2), .val (.int p3), .val (.int p4), .val (.int p5), .val (.int sn), .val (.int sy), .val (.int la), .val (.int xa), .val (.int xb), .val (.int lb), .val (.int ya), .val (.int yb), .val (.ref b1), .val (.ref b17), .val (.int (p2 &&& (2147483647 : Int32))), .val (.int (if sy = (0 : Int32) then (p3 &&& (2147483647 : Int32)) else (p2 &&& (2147483647 : Int32)))), .val (.ref b40), .val (.int (p5 &&& (3 : Int32))), .val (.ref b73), .val (.int (1 : Int32)), .val (.int (0 : Int32))] [])
                      refine own_st (fun t k => XS.aload X89.here hx rfl (hb hby at_321) rfl rfl k) ?_
                      refine own_st (fun t k => XS.aload X89.here hx rfl (hb hby at_323) rfl rfl k) ?_
                      show own_Go _ _ _ _ T89 (mkF m 325 #[.val (.int p0), .val (.int p1), .val (.int p2), .val (.int p3), .val (.int p4), .val (.int p5), .val (.int sn), .val (.int sy), .val (.int la), .val (.int xa), .val (.int xb), .val (.int lb), .val (.int ya), .val (.int yb), .val (.ref b1), .val (.ref b17), .val (.int (p2 &&& (2147483647 : Int32))), .val (.int (if sy = (0 : Int32) then (p3 &&& (2147483647 : Int32)) else (p2 &&& (2147483647 : Int32)))), .val (.ref b40), .val (.int (p5 &&& (3 : Int32))), .val (.ref b73), .val (.int (1 : Int32)), .val (.int (0 : Int32))] [(.ref b73), (.ref b40)])
                      have R53a_170 := ((R53a.ext E73).keep K89 (ninS ne_b40_b73 (ninS (Ne.symm ne_b17_b40) nin0)))
                      have R53b_171 := ((R53b.ext E73).keep K89 (ninS ne_b40_b73 (ninS (Ne.symm ne_b17_b40) nin0)))
                      have A73_172 := (A73.keep K89)
                      have V10_173 := ((V10_76.ext E73).keep K89 (ninS ne_b10_b73 (ninS ne_b10_b17 nin0)))
                      have V31_174 := (V31_86.keep K89 (ninS ne_b31_b73 (ninS nb31 nin0)))
                      have A1_175 := ((A1_74.ext E73).keep K89)
                      have R53c_176 := ((R53c.ext E73).keep K89 (ninS ne_b1_b73 (ninS ne_b1_b17 nin0)))
                      have R53d_177 := ((R53d.ext E73).keep K89 (ninS ne_b1_b73 (ninS ne_b1_b17 nin0)))
                      have A17_178 := (A17_81.keep K89)
                      have O0_179 := (O0_88.keep K89 (allS g_b73 (allS g_b17 all0)))
                      have K0_181 := (K0_90.trans K89 (allS ((Or.inr sz_b73)) (allS ((Or.inr sz_b17)) all0)))
                      have A40_182 := ((A40_80.ext E73).keep K89)
                      obtain ⟨cq180, kq180, q180a, q180b, q180c⟩ := isOf hZ89 rfl A40_182
                      obtain ⟨_, _, ⟨T180, L180, k180, n180⟩, -, X180, ⟨Lc180, hQ180, l180, y180, z180⟩, st180⟩ := X89.virtualBack hx (y := (⟨"com/example/libhorn/libhorn/data/Relation", "equals", "(Ljava/lang/Object;)Z"⟩ : MethodName)) (z := (⟨"com/example/libhorn/libhorn/data/Relation", "equals", "(Ljava/lang/Object;)Z"⟩ : MethodName)) hown89 (mvT hZ89 (hw _ (List.mem_of_getElem? (i := 92) rfl))) (mvT hZ89 (hw _ (List.mem_of_getElem? (i := 93) rfl))) (notFace_of_selects (args := #[]) (mvT hZ89 (hw _ (List.mem_of_getElem? (i := 95) rfl)))) (mvT hZ89 (hw _ (List.mem_of_getElem? (i := 95) rfl))) (mvT hZ89 (hw _ (List.mem_of_getElem? (i := 94) rfl))) (by decide) (backOf (W := 0) (rm15r l Z a0 hw [] b40 b73 b1 (p2 &&& (2147483647 : Int32)) b17 (if sy = (0 : Int32) then (p3 &&& (2147483647 : Int32)) else (p2 &&& (2147483647 : Int32))) b10 b31 k10v k31v la lb (nar .byte ((nar .char xa).toInt8.toInt32)) (nar .byte ((nar .char xb).toInt8.toInt32)) (nar .byte ((nar .char ya).toInt8.toInt32)) (nar .byte ((nar .char yb).toInt8.toInt32)) cs ca cc  T89.heap n0 (Nat.le_trans Z0 K0_181.1) R53a_170 R53b_171 A73_172 R89a R89b A1_175 R53c_176 R53d_177 A17_178 R89c R89d V10_173 V31_174 hla G O0_179) hZ89 (hw _ (List.mem_of_getElem? (i := 96) rfl)) (hw _ (List.mem_of_getElem? (i := 29) rfl)) (by decide) (by decide)) q180a q180c (g := (mkF m 325 #[.val (.int p0), .val (.int p1), .val (.int p2), .val (.int p3), .val (.int p4), .val (.int p5), .val (.int sn), .val (.int sy), .val (.int la), .val (.int xa), .val (.int xb), .val (.int lb), .val (.int ya), .val (.int yb), .val (.ref b1), .val (.ref b17), .val (.int (p2 &&& (2147483647 : Int32))), .val (.int (if sy = (0 : Int32) then (p3 &&& (2147483647 : Int32)) else (p2 &&& (2147483647 : Int32)))), .val (.ref b40), .val (.int (p5 &&& (3 : Int32))), .val (.ref b73), .val (.int (1 : Int32)), .val (.int (0 : Int32))] [(.ref b73), (.ref b40)])) rfl (by rw [hml]; rfl) (Steps.refl _) (argsL := [(.ref b73)]) (rest := []) (lenOf pd__28Ljava_2flang_2fObject_3b_29Z rfl) rfl (by show 2 * 0 + _ ≤ _; exact Nat.le_of_eq rfl) (hb hby at_325) (fun _ _ => ⟨rfl, rfl, (by decide : 22 + 0 ≤ _), (by decide : 80 + 0 ≤ _)⟩)
                      dsimp only [Pt.U, Pt.locs, Pt.cells, Pt.slots] at X180 l180 y180 z180 st180 hQ180
                      subst l180 y180 z180
                      obtain ⟨rfl, N180q, e180⟩ := hQ180
                      obtain ⟨_, X180, N180⟩ := own_hide X180 (Fr.app N89 N180q)
                      refine own_tr st180 ?_
                      show own_Go _ _ _ _ T180 (mkF m 328 #[.val (.int p0), .val (.int p1), .val (.int p2), .val (.int p3), .val (.int p4), .val (.int p5), .val (.int sn), .val (.int sy), .val (.int la), .val (.int xa), .val (.int xb), .val (.int lb), .val (.int ya), .val (.int yb), .val (.ref b1), .val (.ref b17), .val (.int (p2 &&& (2147483647 : Int32))), .val (.int (if sy = (0 : Int32) then (p3 &&& (2147483647 : Int32)) else (p2 &&& (2147483647 : Int32)))), .val (.ref b40), .val (.int (p5 &&& (3 : Int32))), .val (.ref b73), .val (.int (1 : Int32)), .val (.int (0 : Int32))] [(.int (own_re b1 (p2 &&& (2147483647 : Int32)) b17 (if sy = (0 : Int32) then (p3 &&& (2147483647 : Int32)) else (p2 &&& (2147483647 : Int32))) la lb (nar .byte ((nar .char xa).toInt8.toInt32)) (nar .byte ((nar .char xb).toInt8.toInt32)) (nar .byte ((nar .char ya).toInt8.toInt32)) (nar .byte ((nar .char yb).toInt8.toInt32))))])
                      refine own_st (fun t k => XS.iload X180.here hx rfl (hb hby at_328) rfl k) ?_
                      refine own_st (fun t k => XS.icmpNo X180.here hx rfl (hb hby at_330) rfl (teq ((own_key ne_b1_b17 hla hxa hxb hya hyb).trans (if_neg (fun q => c311_155 q.2)) : (own_re b1 (p2 &&& (2147483647 : Int32)) b17 (if sy = (0 : Int32) then (p3 &&& (2147483647 : Int32)) else (p2 &&& (2147483647 : Int32))) la lb (nar .byte ((nar .char xa).toInt8.toInt32)) (nar .byte ((nar .char xb).toInt8.toInt32)) (nar .byte ((nar .char ya).toInt8.toInt32)) (nar .byte ((nar .char yb).toInt8.toInt32))) = (0 : Int32))).2 k) ?_
                      show own_Go _ _ _ _ T180 (mkF m 333 #[.val (.int p0), .val (.int p1), .val (.int p2), .val (.int p3), .val (.int p4), .val (.int p5), .val (.int sn), .val (.int sy), .val (.int la), .val (.int xa), .val (.int xb), .val (.int lb), .val (.int ya), .val (.int yb), .val (.ref b1), .val (.ref b17), .val (.int (p2 &&& (2147483647 : Int32))), .val (.int (if sy = (0 : Int32) then (p3 &&& (2147483647 : Int32)) else (p2 &&& (2147483647 : Int32)))), .val (.ref b40), .val (.int (p5 &&& (3 : Int32))), .val (.ref b73), .val (.int (1 : Int32)), .val (.int (0 : Int32))] [])
                      refine own_st (fun t k => XS.aload X180.here hx rfl (hb hby at_333) rfl rfl k) ?_
                      refine own_st (fun t k => XS.aload X180.here hx rfl (hb hby at_335) rfl rfl k) ?_
                      show own_Go _ _ _ _ T180 (mkF m 337 #[.val (.int p0), .val (.int p1), .val (.int p2), .val (.int p3), .val (.int p4), .val (.int p5), .val (.int sn), .val (.int sy), .val (.int la), .val (.int xa), .val (.int xb), .val (.int lb), .val (.int ya), .val (.int yb), .val (.ref b1), .val (.ref b17), .val (.int (p2 &&& (2147483647 : Int32))), .val (.int (if sy = (0 : Int32) then (p3 &&& (2147483647 : Int32)) else (p2 &&& (2147483647 : Int32)))), .val (.ref b40), .val (.int (p5 &&& (3 : Int32))), .val (.ref b73), .val (.int (1 : Int32)), .val (.int (0 : Int32))] [(.ref b40), (.ref b73)])
                      obtain ⟨cq183, kq183, q183a, q183b, q183c⟩ := isOf hZ89 e180 A73_172
                      obtain ⟨_, _, ⟨T183, L183, k183, n183⟩, -, X183, ⟨Lc183, hQ183, l183, y183, z183⟩, st183⟩ := X180.virtualBack hx (y := (⟨"com/example/libhorn/libhorn/data/Relation", "equals", "(Ljava/lang/Object;)Z"⟩ : MethodName)) (z := (⟨"com/example/libhorn/libhorn/data/Relation", "equals", "(Ljava/lang/Object;)Z"⟩ : MethodName)) hown89 (mvT hZ89 (hw _ (List.mem_of_getElem? (i := 92) rfl))) (mvT hZ89 (hw _ (List.mem_of_getElem? (i := 93) rfl))) (notFace_of_selects (args := #[]) (mvT hZ89 (hw _ (List.mem_of_getElem? (i := 95) rfl)))) (mvT hZ89 (hw _ (List.mem_of_getElem? (i := 95) rfl))) (mvT hZ89 (hw _ (List.mem_of_getElem? (i := 94) rfl))) (by decide) (backOf (W := 0) (rm15r l Z a0 hw [] b73 b40 b17 (if sy = (0 : Int32) then (p3 &&& (2147483647 : Int32)) else (p2 &&& (2147483647 : Int32))) b1 (p2 &&& (2147483647 : Int32)) b31 b10 k31v k10v lb la (nar .byte ((nar .char ya).toInt8.toInt32)) (nar .byte ((nar .char yb).toInt8.toInt32)) (nar .byte ((nar .char xa).toInt8.toInt32)) (nar .byte ((nar .char xb).toInt8.toInt32)) cs ca cc  T89.heap n0 (Nat.le_trans Z0 K0_181.1) R89a R89b A40_182 R53a_170 R53b_171 A17_178 R89c R89d A1_175 R53c_176 R53d_177 V31_174 V10_173 hlb G O0_179) hZ89 (hw _ (List.mem_of_getElem? (i := 96) rfl)) (hw _ (List.mem_of_getElem? (i := 29) rfl)) (by decide) (by decide)) q183a q183c (g := (mkF m 337 #[.val (.int p0), .val (.int p1), .val (.int p2), .val (.int p3), .val (.int p4), .val (.int p5), .val (.int sn), .val (.int sy), .val (.int la), .val (.int xa), .val (.int xb), .val (.int lb), .val (.int ya), .val (.int yb), .val (.ref b1), .val (.ref b17), .val (.int (p2 &&& (2147483647 : Int32))), .val (.int (if sy = (0 : Int32) then (p3 &&& (2147483647 : Int32)) else (p2 &&& (2147483647 : Int32)))), .val (.ref b40), .val (.int (p5 &&& (3 : Int32))), .val (.ref b73), .val (.int (1 : Int32)), .val (.int (0 : Int32))] [(.ref b40), (.ref b73)])) rfl (by rw [hml]; rfl) (Steps.refl _) (argsL := [(.ref b40)]) (rest := []) (lenOf pd__28Ljava_2flang_2fObject_3b_29Z rfl) rfl (by show 2 * 0 + _ ≤ _; exact Nat.le_of_eq rfl) (hb hby at_337) (fun _ _ => ⟨rfl, e180, (by decide : 22 + 0 ≤ _), (by decide : 80 + 0 ≤ _)⟩)
                      dsimp only [Pt.U, Pt.locs, Pt.cells, Pt.slots] at X183 l183 y183 z183 st183 hQ183
                      subst l183 y183 z183
                      obtain ⟨rfl, N183q, e183⟩ := hQ183
                      obtain ⟨_, X183, N183⟩ := own_hide X183 (Fr.app N180 N183q)
                      refine own_tr st183 ?_
                      show own_Go _ _ _ _ T183 (mkF m 340 #[.val (.int p0), .val (.int p1), .val (.int p2), .val (.int p3), .val (.int p4), .val (.int p5), .val (.int sn), .val (.int sy), .val (.int la), .val (.int xa), .val (.int xb), .val (.int lb), .val (.int ya), .val (.int yb), .val (.ref b1), .val (.ref b17), .val (.int (p2 &&& (2147483647 : Int32))), .val (.int (if sy = (0 : Int32) then (p3 &&& (2147483647 : Int32)) else (p2 &&& (2147483647 : Int32)))), .val (.ref b40), .val (.int (p5 &&& (3 : Int32))), .val (.ref b73), .val (.int (1 : Int32)), .val (.int (0 : Int32))] [(.int (own_re b17 (if sy = (0 : Int32) then (p3 &&& (2147483647 : Int32)) else (p2 &&& (2147483647 : Int32))) b1 (p2 &&& (2147483647 : Int32)) lb la (nar .byte ((nar .char ya).toInt8.toInt32)) (nar .byte ((nar .char yb).toInt8.toInt32)) (nar .byte ((nar .char xa).toInt8.toInt32)) (nar .byte ((nar .char xb).toInt8.toInt32))))])
                      refine own_st (fun t k => XS.iload X183.here hx rfl (hb hby at_340) rfl k) ?_
                      refine own_st (fun t k => XS.icmpNo X183.here hx rfl (hb hby at_342) rfl (teq ((own_sym _ _ _ _ _ _ _ _ _ _).trans ((own_key ne_b1_b17 hla hxa hxb hya hyb).trans (if_neg (fun q => c311_155 q.2))) : (own_re b17 (if sy = (0 : Int32) then (p3 &&& (2147483647 : Int32)) else (p2 &&& (2147483647 : Int32))) b1 (p2 &&& (2147483647 : Int32)) lb la (nar .byte ((nar .char ya).toInt8.toInt32)) (nar .byte ((nar .char yb).toInt8.toInt32)) (nar .byte ((nar .char xa).toInt8.toInt32)) (nar .byte ((nar .char xb).toInt8.toInt32))) = (0 : Int32))).2 k) ?_
                      show own_Go _ _ _ _ T183 (mkF m 345 #[.val (.int p0), .val (.int p1), .val (.int p2), .val (.int p3), .val (.int p4), .val (.int p5), .val (.int sn), .val (.int sy), .val (.int la), .val (.int xa), .val (.int xb), .val (.int lb), .val (.int ya), .val (.int yb), .val (.ref b1), .val (.ref b17), .val (.int (p2 &&& (2147483647 : Int32))), .val (.int (if sy = (0 : Int32) then (p3 &&& (2147483647 : Int32)) else (p2 &&& (2147483647 : Int32)))), .val (.ref b40), .val (.int (p5 &&& (3 : Int32))), .val (.ref b73), .val (.int (1 : Int32)), .val (.int (0 : Int32))] [])
                      refine own_st (fun t k => XS.iconst X183.here hx rfl (hb hby at_345) k) ?_
                      refine own_st (fun t k => XS.goto X183.here hx rfl (pc0 := 346) (pc' := 350) rfl (hb hby at_346) (by decide) (by decide) k) ?_
                      show own_Go _ _ _ _ T183 (mkF m 350 #[.val (.int p0), .val (.int p1), .val (.int p2), .val (.int p3), .val (.int p4), .val (.int p5), .val (.int sn), .val (.int sy), .val (.int la), .val (.int xa), .val (.int xb), .val (.int lb), .val (.int ya), .val (.int yb), .val (.ref b1), .val (.ref b17), .val (.int (p2 &&& (2147483647 : Int32))), .val (.int (if sy = (0 : Int32) then (p3 &&& (2147483647 : Int32)) else (p2 &&& (2147483647 : Int32)))), .val (.ref b40), .val (.int (p5 &&& (3 : Int32))), .val (.ref b73), .val (.int (1 : Int32)), .val (.int (0 : Int32))] [(.int (1 : Int32))])
                      exact own_retNW X183 hS89 (by rw [e183]; exact (Nat.le_refl T89.heap.size)) hx hlk (t := .boolean) hrt (by simp) (hb hby at_350) ⟨rfl, N183⟩ (by decide) (by decide)
                  ·
                    refine own_st (fun t k => XS.icmpYes X89.here hx rfl (pc0 := 292) (pc' := 299) rfl (hb hby at_292) rfl (feq c292_154).2 (by decide) (by decide) k) ?_
                    show own_Go _ _ _ _ T89 (mkF m 299 #[.val (.int p0), .val (.int p1), .val (.int p2), .val (.int p3), .val (.int p4), .val (.int p5), .val (.int sn), .val (.int sy), .val (.int la), .val (.int xa), .val (.int xb), .val (.int lb), .val (.int ya), .val (.int yb), .val (.ref b1), .val (.ref b17), .val (.int (p2 &&& (2147483647 : Int32))), .val (.int (if sy = (0 : Int32) then (p3 &&& (2147483647 : Int32)) else (p2 &&& (2147483647 : Int32)))), .val (.ref b40), .val (.int (p5 &&& (3 : Int32))), .val (.ref b73), .unset, .unset] [])
                    refine own_st (fun t k => XS.iconst X89.here hx rfl (hb hby at_299) k) ?_
                    refine own_st (fun t k => XS.istore X89.here hx rfl (hb hby at_300) rfl (l' := #[.val (.int p0), .val (.int p1), .val (.int p2), .val (.int p3), .val (.int p4), .val (.int p5), .val (.int sn), .val (.int sy), .val (.int la), .val (.int xa), .val (.int xb), .val (.int lb), .val (.int ya), .val (.int yb), .val (.ref b1), .val (.ref b17), .val (.int (p2 &&& (2147483647 : Int32))), .val (.int (if sy = (0 : Int32) then (p3 &&& (2147483647 : Int32)) else (p2 &&& (2147483647 : Int32)))), .val (.ref b40), .val (.int (p5 &&& (3 : Int32))), .val (.ref b73), .val (.int (0 : Int32)), .unset]) rfl k) ?_
                    show own_Go _ _ _ _ T89 (mkF m 302 #[.val (.int p0), .val (.int p1), .val (.int p2), .val (.int p3), .val (.int p4), .val (.int p5), .val (.int sn), .val (.int sy), .val (.int la), .val (.int xa), .val (.int xb), .val (.int lb), .val (.int ya), .val (.int yb), .val (.ref b1), .val (.ref b17), .val (.int (p2 &&& (2147483647 : Int32))), .val (.int (if sy = (0 : Int32) then (p3 &&& (2147483647 : Int32)) else (p2 &&& (2147483647 : Int32)))), .val (.ref b40), .val (.int (p5 &&& (3 : Int32))), .val (.ref b73), .val (.int (0 : Int32)), .unset] [])
                    refine own_st (fun t k => XS.iload X89.here hx rfl (hb hby at_302) rfl k) ?_
                    refine own_st (fun t k => XS.ifYes X89.here hx rfl (pc0 := 304) (pc' := 318) rfl (hb hby at_304) rfl ((if0 _ _).trans (teq (by decide : (0 : Int32) = (0 : Int32))).1) (by decide) (by decide) k) ?_
                    show own_Go _ _ _ _ T89 (mkF m 318 #[.val (.int p0), .val (.int p1), .val (.int p2), .val (.int p3), .val (.int p4), .val (.int p5), .val (.int sn), .val (.int sy), .val (.int la), .val (.int xa), .val (.int xb), .val (.int lb), .val (.int ya), .val (.int yb), .val (.ref b1), .val (.ref b17), .val (.int (p2 &&& (2147483647 : Int32))), .val (.int (if sy = (0 : Int32) then (p3 &&& (2147483647 : Int32)) else (p2 &&& (2147483647 : Int32)))), .val (.ref b40), .val (.int (p5 &&& (3 : Int32))), .val (.ref b73), .val (.int (0 : Int32)), .unset] [])
                    refine own_st (fun t k => XS.iconst X89.here hx rfl (hb hby at_318) k) ?_
                    refine own_st (fun t k => XS.istore X89.here hx rfl (hb hby at_319) rfl (l' := #[.val (.int p0), .val (.int p1), .val (.int p2), .val (.int p3), .val (.int p4), .val (.int p5), .val (.int sn), .val (.int sy), .val (.int la), .val (.int xa), .val (.int xb), .val (.int lb), .val (.int ya), .val (.int yb), .val (.ref b1), .val (.ref b17), .val (.int (p2 &&& (2147483647 : Int32))), .val (.int (if sy = (0 : Int32) then (p3 &&& (2147483647 : Int32)) else (p2 &&& (2147483647 : Int32)))), .val (.ref b40), .val (.int (p5 &&& (3 : Int32))), .val (.ref b73), .val (.int (0 : Int32)), .val (.int (0 : Int32))]) rfl k) ?_
                    show own_Go _ _ _ _ T89 (mkF m 321 #[.val (.int p0), .val (.int p1), .val (.int p2), .val (.int p3), .val (.int p4), .val (.int p5), .val (.int sn), .val (.int sy), .val (.int la), .val (.int xa), .val (.int xb), .val (.int lb), .val (.int ya), .val (.int yb), .val (.ref b1), .val (.ref b17), .val (.int (p2 &&& (2147483647 : Int32))), .val (.int (if sy = (0 : Int32) then (p3 &&& (2147483647 : Int32)) else (p2 &&& (2147483647 : Int32)))), .val (.ref b40), .val (.int (p5 &&& (3 : Int32))), .val (.ref b73), .val (.int (0 : Int32)), .val (.int (0 : Int32))] [])
                    refine own_st (fun t k => XS.aload X89.here hx rfl (hb hby at_321) rfl rfl k) ?_
                    refine own_st (fun t k => XS.aload X89.here hx rfl (hb hby at_323) rfl rfl k) ?_
                    show own_Go _ _ _ _ T89 (mkF m 325 #[.val (.int p0), .val (.int p1), .val (.int p2), .val (.int p3), .val (.int p4), .val (.int p5), .val (.int sn), .val (.int sy), .val (.int la), .val (.int xa), .val (.int xb), .val (.int lb), .val (.int ya), .val (.int yb), .val (.ref b1), .val (.ref b17), .val (.int (p2 &&& (2147483647 : Int32))), .val (.int (if sy = (0 : Int32) then (p3 &&& (2147483647 : Int32)) else (p2 &&& (2147483647 : Int32)))), .val (.ref b40), .val (.int (p5 &&& (3 : Int32))), .val (.ref b73), .val (.int (0 : Int32)), .val (.int (0 : Int32))] [(.ref b73), (.ref b40)])
                    have R53a_184 := ((R53a.ext E73).keep K89 (ninS ne_b40_b73 (ninS (Ne.symm ne_b17_b40) nin0)))
                    have R53b_185 := ((R53b.ext E73).keep K89 (ninS ne_b40_b73 (ninS (Ne.symm ne_b17_b40) nin0)))
                    have A73_186 := (A73.keep K89)
                    have V10_187 := ((V10_76.ext E73).keep K89 (ninS ne_b10_b73 (ninS ne_b10_b17 nin0)))
                    have V31_188 := (V31_86.keep K89 (ninS ne_b31_b73 (ninS nb31 nin0)))
                    have A1_189 := ((A1_74.ext E73).keep K89)
                    have R53c_190 := ((R53c.ext E73).keep K89 (ninS ne_b1_b73 (ninS ne_b1_b17 nin0)))
                    have R53d_191 := ((R53d.ext E73).keep K89 (ninS ne_b1_b73 (ninS ne_b1_b17 nin0)))
                    have A17_192 := (A17_81.keep K89)
                    have O0_193 := (O0_88.keep K89 (allS g_b73 (allS g_b17 all0)))
                    have K0_195 := (K0_90.trans K89 (allS ((Or.inr sz_b73)) (allS ((Or.inr sz_b17)) all0)))
                    have A40_196 := ((A40_80.ext E73).keep K89)
                    obtain ⟨cq194, kq194, q194a, q194b, q194c⟩ := isOf hZ89 rfl A40_196
                    obtain ⟨_, _, ⟨T194, L194, k194, n194⟩, -, X194, ⟨Lc194, hQ194, l194, y194, z194⟩, st194⟩ := X89.virtualBack hx (y := (⟨"com/example/libhorn/libhorn/data/Relation", "equals", "(Ljava/lang/Object;)Z"⟩ : MethodName)) (z := (⟨"com/example/libhorn/libhorn/data/Relation", "equals", "(Ljava/lang/Object;)Z"⟩ : MethodName)) hown89 (mvT hZ89 (hw _ (List.mem_of_getElem? (i := 92) rfl))) (mvT hZ89 (hw _ (List.mem_of_getElem? (i := 93) rfl))) (notFace_of_selects (args := #[]) (mvT hZ89 (hw _ (List.mem_of_getElem? (i := 95) rfl)))) (mvT hZ89 (hw _ (List.mem_of_getElem? (i := 95) rfl))) (mvT hZ89 (hw _ (List.mem_of_getElem? (i := 94) rfl))) (by decide) (backOf (W := 0) (rm15r l Z a0 hw [] b40 b73 b1 (p2 &&& (2147483647 : Int32)) b17 (if sy = (0 : Int32) then (p3 &&& (2147483647 : Int32)) else (p2 &&& (2147483647 : Int32))) b10 b31 k10v k31v la lb (nar .byte ((nar .char xa).toInt8.toInt32)) (nar .byte ((nar .char xb).toInt8.toInt32)) (nar .byte ((nar .char ya).toInt8.toInt32)) (nar .byte ((nar .char yb).toInt8.toInt32)) cs ca cc  T89.heap n0 (Nat.le_trans Z0 K0_195.1) R53a_184 R53b_185 A73_186 R89a R89b A1_189 R53c_190 R53d_191 A17_192 R89c R89d V10_187 V31_188 hla G O0_193) hZ89 (hw _ (List.mem_of_getElem? (i := 96) rfl)) (hw _ (List.mem_of_getElem? (i := 29) rfl)) (by decide) (by decide)) q194a q194c (g := (mkF m 325 #[.val (.int p0), .val (.int p1), .val (.int p2), .val (.int p3), .val (.int p4), .val (.int p5), .val (.int sn), .val (.int sy), .val (.int la), .val (.int xa), .val (.int xb), .val (.int lb), .val (.int ya), .val (.int yb), .val (.ref b1), .val (.ref b17), .val (.int (p2 &&& (2147483647 : Int32))), .val (.int (if sy = (0 : Int32) then (p3 &&& (2147483647 : Int32)) else (p2 &&& (2147483647 : Int32)))), .val (.ref b40), .val (.int (p5 &&& (3 : Int32))), .val (.ref b73), .val (.int (0 : Int32)), .val (.int (0 : Int32))] [(.ref b73), (.ref b40)])) rfl (by rw [hml]; rfl) (Steps.refl _) (argsL := [(.ref b73)]) (rest := []) (lenOf pd__28Ljava_2flang_2fObject_3b_29Z rfl) rfl (by show 2 * 0 + _ ≤ _; exact Nat.le_of_eq rfl) (hb hby at_325) (fun _ _ => ⟨rfl, rfl, (by decide : 22 + 0 ≤ _), (by decide : 80 + 0 ≤ _)⟩)
                    dsimp only [Pt.U, Pt.locs, Pt.cells, Pt.slots] at X194 l194 y194 z194 st194 hQ194
                    subst l194 y194 z194
                    obtain ⟨rfl, N194q, e194⟩ := hQ194
                    obtain ⟨_, X194, N194⟩ := own_hide X194 (Fr.app N89 N194q)
                    refine own_tr st194 ?_
                    show own_Go _ _ _ _ T194 (mkF m 328 #[.val (.int p0), .val (.int p1), .val (.int p2), .val (.int p3), .val (.int p4), .val (.int p5), .val (.int sn), .val (.int sy), .val (.int la), .val (.int xa), .val (.int xb), .val (.int lb), .val (.int ya), .val (.int yb), .val (.ref b1), .val (.ref b17), .val (.int (p2 &&& (2147483647 : Int32))), .val (.int (if sy = (0 : Int32) then (p3 &&& (2147483647 : Int32)) else (p2 &&& (2147483647 : Int32)))), .val (.ref b40), .val (.int (p5 &&& (3 : Int32))), .val (.ref b73), .val (.int (0 : Int32)), .val (.int (0 : Int32))] [(.int (own_re b1 (p2 &&& (2147483647 : Int32)) b17 (if sy = (0 : Int32) then (p3 &&& (2147483647 : Int32)) else (p2 &&& (2147483647 : Int32))) la lb (nar .byte ((nar .char xa).toInt8.toInt32)) (nar .byte ((nar .char xb).toInt8.toInt32)) (nar .byte ((nar .char ya).toInt8.toInt32)) (nar .byte ((nar .char yb).toInt8.toInt32))))])
                    refine own_st (fun t k => XS.iload X194.here hx rfl (hb hby at_328) rfl k) ?_
                    refine own_st (fun t k => XS.icmpNo X194.here hx rfl (hb hby at_330) rfl (teq ((own_key ne_b1_b17 hla hxa hxb hya hyb).trans (if_neg (fun q => q.1.2.2.elim c285_124 c292_154)) : (own_re b1 (p2 &&& (2147483647 : Int32)) b17 (if sy = (0 : Int32) then (p3 &&& (2147483647 : Int32)) else (p2 &&& (2147483647 : Int32))) la lb (nar .byte ((nar .char xa).toInt8.toInt32)) (nar .byte ((nar .char xb).toInt8.toInt32)) (nar .byte ((nar .char ya).toInt8.toInt32)) (nar .byte ((nar .char yb).toInt8.toInt32))) = (0 : Int32))).2 k) ?_
                    show own_Go _ _ _ _ T194 (mkF m 333 #[.val (.int p0), .val (.int p1), .val (.int p2), .val (.int p3), .val (.int p4), .val (.int p5), .val (.int sn), .val (.int sy), .val (.int la), .val (.int xa), .val (.int xb), .val (.int lb), .val (.int ya), .val (.int yb), .val (.ref b1), .val (.ref b17), .val (.int (p2 &&& (2147483647 : Int32))), .val (.int (if sy = (0 : Int32) then (p3 &&& (2147483647 : Int32)) else (p2 &&& (2147483647 : Int32)))), .val (.ref b40), .val (.int (p5 &&& (3 : Int32))), .val (.ref b73), .val (.int (0 : Int32)), .val (.int (0 : Int32))] [])
                    refine own_st (fun t k => XS.aload X194.here hx rfl (hb hby at_333) rfl rfl k) ?_
                    refine own_st (fun t k => XS.aload X194.here hx rfl (hb hby at_335) rfl rfl k) ?_
                    show own_Go _ _ _ _ T194 (mkF m 337 #[.val (.int p0), .val (.int p1), .val (.int p2), .val (.int p3), .val (.int p4), .val (.int p5), .val (.int sn), .val (.int sy), .val (.int la), .val (.int xa), .val (.int xb), .val (.int lb), .val (.int ya), .val (.int yb), .val (.ref b1), .val (.ref b17), .val (.int (p2 &&& (2147483647 : Int32))), .val (.int (if sy = (0 : Int32) then (p3 &&& (2147483647 : Int32)) else (p2 &&& (2147483647 : Int32)))), .val (.ref b40), .val (.int (p5 &&& (3 : Int32))), .val (.ref b73), .val (.int (0 : Int32)), .val (.int (0 : Int32))] [(.ref b40), (.ref b73)])
                    obtain ⟨cq197, kq197, q197a, q197b, q197c⟩ := isOf hZ89 e194 A73_186
                    obtain ⟨_, _, ⟨T197, L197, k197, n197⟩, -, X197, ⟨Lc197, hQ197, l197, y197, z197⟩, st197⟩ := X194.virtualBack hx (y := (⟨"com/example/libhorn/libhorn/data/Relation", "equals", "(Ljava/lang/Object;)Z"⟩ : MethodName)) (z := (⟨"com/example/libhorn/libhorn/data/Relation", "equals", "(Ljava/lang/Object;)Z"⟩ : MethodName)) hown89 (mvT hZ89 (hw _ (List.mem_of_getElem? (i := 92) rfl))) (mvT hZ89 (hw _ (List.mem_of_getElem? (i := 93) rfl))) (notFace_of_selects (args := #[]) (mvT hZ89 (hw _ (List.mem_of_getElem? (i := 95) rfl)))) (mvT hZ89 (hw _ (List.mem_of_getElem? (i := 95) rfl))) (mvT hZ89 (hw _ (List.mem_of_getElem? (i := 94) rfl))) (by decide) (backOf (W := 0) (rm15r l Z a0 hw [] b73 b40 b17 (if sy = (0 : Int32) then (p3 &&& (2147483647 : Int32)) else (p2 &&& (2147483647 : Int32))) b1 (p2 &&& (2147483647 : Int32)) b31 b10 k31v k10v lb la (nar .byte ((nar .char ya).toInt8.toInt32)) (nar .byte ((nar .char yb).toInt8.toInt32)) (nar .byte ((nar .char xa).toInt8.toInt32)) (nar .byte ((nar .char xb).toInt8.toInt32)) cs ca cc  T89.heap n0 (Nat.le_trans Z0 K0_195.1) R89a R89b A40_196 R53a_184 R53b_185 A17_192 R89c R89d A1_189 R53c_190 R53d_191 V31_188 V10_187 hlb G O0_193) hZ89 (hw _ (List.mem_of_getElem? (i := 96) rfl)) (hw _ (List.mem_of_getElem? (i := 29) rfl)) (by decide) (by decide)) q197a q197c (g := (mkF m 337 #[.val (.int p0), .val (.int p1), .val (.int p2), .val (.int p3), .val (.int p4), .val (.int p5), .val (.int sn), .val (.int sy), .val (.int la), .val (.int xa), .val (.int xb), .val (.int lb), .val (.int ya), .val (.int yb), .val (.ref b1), .val (.ref b17), .val (.int (p2 &&& (2147483647 : Int32))), .val (.int (if sy = (0 : Int32) then (p3 &&& (2147483647 : Int32)) else (p2 &&& (2147483647 : Int32)))), .val (.ref b40), .val (.int (p5 &&& (3 : Int32))), .val (.ref b73), .val (.int (0 : Int32)), .val (.int (0 : Int32))] [(.ref b40), (.ref b73)])) rfl (by rw [hml]; rfl) (Steps.refl _) (argsL := [(.ref b40)]) (rest := []) (lenOf pd__28Ljava_2flang_2fObject_3b_29Z rfl) rfl (by show 2 * 0 + _ ≤ _; exact Nat.le_of_eq rfl) (hb hby at_337) (fun _ _ => ⟨rfl, e194, (by decide : 22 + 0 ≤ _), (by decide : 80 + 0 ≤ _)⟩)
                    dsimp only [Pt.U, Pt.locs, Pt.cells, Pt.slots] at X197 l197 y197 z197 st197 hQ197
                    subst l197 y197 z197
                    obtain ⟨rfl, N197q, e197⟩ := hQ197
                    obtain ⟨_, X197, N197⟩ := own_hide X197 (Fr.app N194 N197q)
                    refine own_tr st197 ?_
                    show own_Go _ _ _ _ T197 (mkF m 340 #[.val (.int p0), .val (.int p1), .val (.int p2), .val (.int p3), .val (.int p4), .val (.int p5), .val (.int sn), .val (.int sy), .val (.int la), .val (.int xa), .val (.int xb), .val (.int lb), .val (.int ya), .val (.int yb), .val (.ref b1), .val (.ref b17), .val (.int (p2 &&& (2147483647 : Int32))), .val (.int (if sy = (0 : Int32) then (p3 &&& (2147483647 : Int32)) else (p2 &&& (2147483647 : Int32)))), .val (.ref b40), .val (.int (p5 &&& (3 : Int32))), .val (.ref b73), .val (.int (0 : Int32)), .val (.int (0 : Int32))] [(.int (own_re b17 (if sy = (0 : Int32) then (p3 &&& (2147483647 : Int32)) else (p2 &&& (2147483647 : Int32))) b1 (p2 &&& (2147483647 : Int32)) lb la (nar .byte ((nar .char ya).toInt8.toInt32)) (nar .byte ((nar .char yb).toInt8.toInt32)) (nar .byte ((nar .char xa).toInt8.toInt32)) (nar .byte ((nar .char xb).toInt8.toInt32))))])
                    refine own_st (fun t k => XS.iload X197.here hx rfl (hb hby at_340) rfl k) ?_
                    refine own_st (fun t k => XS.icmpNo X197.here hx rfl (hb hby at_342) rfl (teq ((own_sym _ _ _ _ _ _ _ _ _ _).trans ((own_key ne_b1_b17 hla hxa hxb hya hyb).trans (if_neg (fun q => q.1.2.2.elim c285_124 c292_154))) : (own_re b17 (if sy = (0 : Int32) then (p3 &&& (2147483647 : Int32)) else (p2 &&& (2147483647 : Int32))) b1 (p2 &&& (2147483647 : Int32)) lb la (nar .byte ((nar .char ya).toInt8.toInt32)) (nar .byte ((nar .char yb).toInt8.toInt32)) (nar .byte ((nar .char xa).toInt8.toInt32)) (nar .byte ((nar .char xb).toInt8.toInt32))) = (0 : Int32))).2 k) ?_
                    show own_Go _ _ _ _ T197 (mkF m 345 #[.val (.int p0), .val (.int p1), .val (.int p2), .val (.int p3), .val (.int p4), .val (.int p5), .val (.int sn), .val (.int sy), .val (.int la), .val (.int xa), .val (.int xb), .val (.int lb), .val (.int ya), .val (.int yb), .val (.ref b1), .val (.ref b17), .val (.int (p2 &&& (2147483647 : Int32))), .val (.int (if sy = (0 : Int32) then (p3 &&& (2147483647 : Int32)) else (p2 &&& (2147483647 : Int32)))), .val (.ref b40), .val (.int (p5 &&& (3 : Int32))), .val (.ref b73), .val (.int (0 : Int32)), .val (.int (0 : Int32))] [])
                    refine own_st (fun t k => XS.iconst X197.here hx rfl (hb hby at_345) k) ?_
                    refine own_st (fun t k => XS.goto X197.here hx rfl (pc0 := 346) (pc' := 350) rfl (hb hby at_346) (by decide) (by decide) k) ?_
                    show own_Go _ _ _ _ T197 (mkF m 350 #[.val (.int p0), .val (.int p1), .val (.int p2), .val (.int p3), .val (.int p4), .val (.int p5), .val (.int sn), .val (.int sy), .val (.int la), .val (.int xa), .val (.int xb), .val (.int lb), .val (.int ya), .val (.int yb), .val (.ref b1), .val (.ref b17), .val (.int (p2 &&& (2147483647 : Int32))), .val (.int (if sy = (0 : Int32) then (p3 &&& (2147483647 : Int32)) else (p2 &&& (2147483647 : Int32)))), .val (.ref b40), .val (.int (p5 &&& (3 : Int32))), .val (.ref b73), .val (.int (0 : Int32)), .val (.int (0 : Int32))] [(.int (1 : Int32))])
                    exact own_retNW X197 hS89 (by rw [e197]; exact (Nat.le_refl T89.heap.size)) hx hlk (t := .boolean) hrt (by simp) (hb hby at_350) ⟨rfl, N197⟩ (by decide) (by decide)
              ·
                refine own_st (fun t k => XS.icmpYes X89.here hx rfl (pc0 := 279) (pc' := 299) rfl (hb hby at_279) rfl (feq c279_123).2 (by decide) (by decide) k) ?_
                show own_Go _ _ _ _ T89 (mkF m 299 #[.val (.int p0), .val (.int p1), .val (.int p2), .val (.int p3), .val (.int p4), .val (.int p5), .val (.int sn), .val (.int sy), .val (.int la), .val (.int xa), .val (.int xb), .val (.int lb), .val (.int ya), .val (.int yb), .val (.ref b1), .val (.ref b17), .val (.int (p2 &&& (2147483647 : Int32))), .val (.int (if sy = (0 : Int32) then (p3 &&& (2147483647 : Int32)) else (p2 &&& (2147483647 : Int32)))), .val (.ref b40), .val (.int (p5 &&& (3 : Int32))), .val (.ref b73), .unset, .unset] [])
                refine own_st (fun t k => XS.iconst X89.here hx rfl (hb hby at_299) k) ?_
                refine own_st (fun t k => XS.istore X89.here hx rfl (hb hby at_300) rfl (l' := #[.val (.int p0), .val (.int p1), .val (.int p2), .val (.int p3), .val (.int p4), .val (.int p5), .val (.int sn), .val (.int sy), .val (.int la), .val (.int xa), .val (.int xb), .val (.int lb), .val (.int ya), .val (.int yb), .val (.ref b1), .val (.ref b17), .val (.int (p2 &&& (2147483647 : Int32))), .val (.int (if sy = (0 : Int32) then (p3 &&& (2147483647 : Int32)) else (p2 &&& (2147483647 : Int32)))), .val (.ref b40), .val (.int (p5 &&& (3 : Int32))), .val (.ref b73), .val (.int (0 : Int32)), .unset]) rfl k) ?_
                show own_Go _ _ _ _ T89 (mkF m 302 #[.val (.int p0), .val (.int p1), .val (.int p2), .val (.int p3), .val (.int p4), .val (.int p5), .val (.int sn), .val (.int sy), .val (.int la), .val (.int xa), .val (.int xb), .val (.int lb), .val (.int ya), .val (.int yb), .val (.ref b1), .val (.ref b17), .val (.int (p2 &&& (2147483647 : Int32))), .val (.int (if sy = (0 : Int32) then (p3 &&& (2147483647 : Int32)) else (p2 &&& (2147483647 : Int32)))), .val (.ref b40), .val (.int (p5 &&& (3 : Int32))), .val (.ref b73), .val (.int (0 : Int32)), .unset] [])
                refine own_st (fun t k => XS.iload X89.here hx rfl (hb hby at_302) rfl k) ?_
                refine own_st (fun t k => XS.ifYes X89.here hx rfl (pc0 := 304) (pc' := 318) rfl (hb hby at_304) rfl ((if0 _ _).trans (teq (by decide : (0 : Int32) = (0 : Int32))).1) (by decide) (by decide) k) ?_
                show own_Go _ _ _ _ T89 (mkF m 318 #[.val (.int p0), .val (.int p1), .val (.int p2), .val (.int p3), .val (.int p4), .val (.int p5), .val (.int sn), .val (.int sy), .val (.int la), .val (.int xa), .val (.int xb), .val (.int lb), .val (.int ya), .val (.int yb), .val (.ref b1), .val (.ref b17), .val (.int (p2 &&& (2147483647 : Int32))), .val (.int (if sy = (0 : Int32) then (p3 &&& (2147483647 : Int32)) else (p2 &&& (2147483647 : Int32)))), .val (.ref b40), .val (.int (p5 &&& (3 : Int32))), .val (.ref b73), .val (.int (0 : Int32)), .unset] [])
                refine own_st (fun t k => XS.iconst X89.here hx rfl (hb hby at_318) k) ?_
                refine own_st (fun t k => XS.istore X89.here hx rfl (hb hby at_319) rfl (l' := #[.val (.int p0), .val (.int p1), .val (.int p2), .val (.int p3), .val (.int p4), .val (.int p5), .val (.int sn), .val (.int sy), .val (.int la), .val (.int xa), .val (.int xb), .val (.int lb), .val (.int ya), .val (.int yb), .val (.ref b1), .val (.ref b17), .val (.int (p2 &&& (2147483647 : Int32))), .val (.int (if sy = (0 : Int32) then (p3 &&& (2147483647 : Int32)) else (p2 &&& (2147483647 : Int32)))), .val (.ref b40), .val (.int (p5 &&& (3 : Int32))), .val (.ref b73), .val (.int (0 : Int32)), .val (.int (0 : Int32))]) rfl k) ?_
                show own_Go _ _ _ _ T89 (mkF m 321 #[.val (.int p0), .val (.int p1), .val (.int p2), .val (.int p3), .val (.int p4), .val (.int p5), .val (.int sn), .val (.int sy), .val (.int la), .val (.int xa), .val (.int xb), .val (.int lb), .val (.int ya), .val (.int yb), .val (.ref b1), .val (.ref b17), .val (.int (p2 &&& (2147483647 : Int32))), .val (.int (if sy = (0 : Int32) then (p3 &&& (2147483647 : Int32)) else (p2 &&& (2147483647 : Int32)))), .val (.ref b40), .val (.int (p5 &&& (3 : Int32))), .val (.ref b73), .val (.int (0 : Int32)), .val (.int (0 : Int32))] [])
                refine own_st (fun t k => XS.aload X89.here hx rfl (hb hby at_321) rfl rfl k) ?_
                refine own_st (fun t k => XS.aload X89.here hx rfl (hb hby at_323) rfl rfl k) ?_
                show own_Go _ _ _ _ T89 (mkF m 325 #[.val (.int p0), .val (.int p1), .val (.int p2), .val (.int p3), .val (.int p4), .val (.int p5), .val (.int sn), .val (.int sy), .val (.int la), .val (.int xa), .val (.int xb), .val (.int lb), .val (.int ya), .val (.int yb), .val (.ref b1), .val (.ref b17), .val (.int (p2 &&& (2147483647 : Int32))), .val (.int (if sy = (0 : Int32) then (p3 &&& (2147483647 : Int32)) else (p2 &&& (2147483647 : Int32)))), .val (.ref b40), .val (.int (p5 &&& (3 : Int32))), .val (.ref b73), .val (.int (0 : Int32)), .val (.int (0 : Int32))] [(.ref b73), (.ref b40)])
                have R53a_198 := ((R53a.ext E73).keep K89 (ninS ne_b40_b73 (ninS (Ne.symm ne_b17_b40) nin0)))
                have R53b_199 := ((R53b.ext E73).keep K89 (ninS ne_b40_b73 (ninS (Ne.symm ne_b17_b40) nin0)))
                have A73_200 := (A73.keep K89)
                have V10_201 := ((V10_76.ext E73).keep K89 (ninS ne_b10_b73 (ninS ne_b10_b17 nin0)))
                have V31_202 := (V31_86.keep K89 (ninS ne_b31_b73 (ninS nb31 nin0)))
                have A1_203 := ((A1_74.ext E73).keep K89)
                have R53c_204 := ((R53c.ext E73).keep K89 (ninS ne_b1_b73 (ninS ne_b1_b17 nin0)))
                have R53d_205 := ((R53d.ext E73).keep K89 (ninS ne_b1_b73 (ninS ne_b1_b17 nin0)))
                have A17_206 := (A17_81.keep K89)
                have O0_207 := (O0_88.keep K89 (allS g_b73 (allS g_b17 all0)))
                have K0_209 := (K0_90.trans K89 (allS ((Or.inr sz_b73)) (allS ((Or.inr sz_b17)) all0)))
                have A40_210 := ((A40_80.ext E73).keep K89)
                obtain ⟨cq208, kq208, q208a, q208b, q208c⟩ := isOf hZ89 rfl A40_210
                obtain ⟨_, _, ⟨T208, L208, k208, n208⟩, -, X208, ⟨Lc208, hQ208, l208, y208, z208⟩, st208⟩ := X89.virtualBack hx (y := (⟨"com/example/libhorn/libhorn/data/Relation", "equals", "(Ljava/lang/Object;)Z"⟩ : MethodName)) (z := (⟨"com/example/libhorn/libhorn/data/Relation", "equals", "(Ljava/lang/Object;)Z"⟩ : MethodName)) hown89 (mvT hZ89 (hw _ (List.mem_of_getElem? (i := 92) rfl))) (mvT hZ89 (hw _ (List.mem_of_getElem? (i := 93) rfl))) (notFace_of_selects (args := #[]) (mvT hZ89 (hw _ (List.mem_of_getElem? (i := 95) rfl)))) (mvT hZ89 (hw _ (List.mem_of_getElem? (i := 95) rfl))) (mvT hZ89 (hw _ (List.mem_of_getElem? (i := 94) rfl))) (by decide) (backOf (W := 0) (rm15r l Z a0 hw [] b40 b73 b1 (p2 &&& (2147483647 : Int32)) b17 (if sy = (0 : Int32) then (p3 &&& (2147483647 : Int32)) else (p2 &&& (2147483647 : Int32))) b10 b31 k10v k31v la lb (nar .byte ((nar .char xa).toInt8.toInt32)) (nar .byte ((nar .char xb).toInt8.toInt32)) (nar .byte ((nar .char ya).toInt8.toInt32)) (nar .byte ((nar .char yb).toInt8.toInt32)) cs ca cc  T89.heap n0 (Nat.le_trans Z0 K0_209.1) R53a_198 R53b_199 A73_200 R89a R89b A1_203 R53c_204 R53d_205 A17_206 R89c R89d V10_201 V31_202 hla G O0_207) hZ89 (hw _ (List.mem_of_getElem? (i := 96) rfl)) (hw _ (List.mem_of_getElem? (i := 29) rfl)) (by decide) (by decide)) q208a q208c (g := (mkF m 325 #[.val (.int p0), .val (.int p1), .val (.int p2), .val (.int p3), .val (.int p4), .val (.int p5), .val (.int sn), .val (.int sy), .val (.int la), .val (.int xa), .val (.int xb), .val (.int lb), .val (.int ya), .val (.int yb), .val (.ref b1), .val (.ref b17), .val (.int (p2 &&& (2147483647 : Int32))), .val (.int (if sy = (0 : Int32) then (p3 &&& (2147483647 : Int32)) else (p2 &&& (2147483647 : Int32)))), .val (.ref b40), .val (.int (p5 &&& (3 : Int32))), .val (.ref b73), .val (.int (0 : Int32)), .val (.int (0 : Int32))] [(.ref b73), (.ref b40)])) rfl (by rw [hml]; rfl) (Steps.refl _) (argsL := [(.ref b73)]) (rest := []) (lenOf pd__28Ljava_2flang_2fObject_3b_29Z rfl) rfl (by show 2 * 0 + _ ≤ _; exact Nat.le_of_eq rfl) (hb hby at_325) (fun _ _ => ⟨rfl, rfl, (by decide : 22 + 0 ≤ _), (by decide : 80 + 0 ≤ _)⟩)
                dsimp only [Pt.U, Pt.locs, Pt.cells, Pt.slots] at X208 l208 y208 z208 st208 hQ208
                subst l208 y208 z208
                obtain ⟨rfl, N208q, e208⟩ := hQ208
                obtain ⟨_, X208, N208⟩ := own_hide X208 (Fr.app N89 N208q)
                refine own_tr st208 ?_
                show own_Go _ _ _ _ T208 (mkF m 328 #[.val (.int p0), .val (.int p1), .val (.int p2), .val (.int p3), .val (.int p4), .val (.int p5), .val (.int sn), .val (.int sy), .val (.int la), .val (.int xa), .val (.int xb), .val (.int lb), .val (.int ya), .val (.int yb), .val (.ref b1), .val (.ref b17), .val (.int (p2 &&& (2147483647 : Int32))), .val (.int (if sy = (0 : Int32) then (p3 &&& (2147483647 : Int32)) else (p2 &&& (2147483647 : Int32)))), .val (.ref b40), .val (.int (p5 &&& (3 : Int32))), .val (.ref b73), .val (.int (0 : Int32)), .val (.int (0 : Int32))] [(.int (own_re b1 (p2 &&& (2147483647 : Int32)) b17 (if sy = (0 : Int32) then (p3 &&& (2147483647 : Int32)) else (p2 &&& (2147483647 : Int32))) la lb (nar .byte ((nar .char xa).toInt8.toInt32)) (nar .byte ((nar .char xb).toInt8.toInt32)) (nar .byte ((nar .char ya).toInt8.toInt32)) (nar .byte ((nar .char yb).toInt8.toInt32))))])
                refine own_st (fun t k => XS.iload X208.here hx rfl (hb hby at_328) rfl k) ?_
                refine own_st (fun t k => XS.icmpNo X208.here hx rfl (hb hby at_330) rfl (teq ((own_key ne_b1_b17 hla hxa hxb hya hyb).trans (if_neg (fun q => q.1.2.1.elim c272_93 c279_123)) : (own_re b1 (p2 &&& (2147483647 : Int32)) b17 (if sy = (0 : Int32) then (p3 &&& (2147483647 : Int32)) else (p2 &&& (2147483647 : Int32))) la lb (nar .byte ((nar .char xa).toInt8.toInt32)) (nar .byte ((nar .char xb).toInt8.toInt32)) (nar .byte ((nar .char ya).toInt8.toInt32)) (nar .byte ((nar .char yb).toInt8.toInt32))) = (0 : Int32))).2 k) ?_
                show own_Go _ _ _ _ T208 (mkF m 333 #[.val (.int p0), .val (.int p1), .val (.int p2), .val (.int p3), .val (.int p4), .val (.int p5), .val (.int sn), .val (.int sy), .val (.int la), .val (.int xa), .val (.int xb), .val (.int lb), .val (.int ya), .val (.int yb), .val (.ref b1), .val (.ref b17), .val (.int (p2 &&& (2147483647 : Int32))), .val (.int (if sy = (0 : Int32) then (p3 &&& (2147483647 : Int32)) else (p2 &&& (2147483647 : Int32)))), .val (.ref b40), .val (.int (p5 &&& (3 : Int32))), .val (.ref b73), .val (.int (0 : Int32)), .val (.int (0 : Int32))] [])
                refine own_st (fun t k => XS.aload X208.here hx rfl (hb hby at_333) rfl rfl k) ?_
                refine own_st (fun t k => XS.aload X208.here hx rfl (hb hby at_335) rfl rfl k) ?_
                show own_Go _ _ _ _ T208 (mkF m 337 #[.val (.int p0), .val (.int p1), .val (.int p2), .val (.int p3), .val (.int p4), .val (.int p5), .val (.int sn), .val (.int sy), .val (.int la), .val (.int xa), .val (.int xb), .val (.int lb), .val (.int ya), .val (.int yb), .val (.ref b1), .val (.ref b17), .val (.int (p2 &&& (2147483647 : Int32))), .val (.int (if sy = (0 : Int32) then (p3 &&& (2147483647 : Int32)) else (p2 &&& (2147483647 : Int32)))), .val (.ref b40), .val (.int (p5 &&& (3 : Int32))), .val (.ref b73), .val (.int (0 : Int32)), .val (.int (0 : Int32))] [(.ref b40), (.ref b73)])
                obtain ⟨cq211, kq211, q211a, q211b, q211c⟩ := isOf hZ89 e208 A73_200
                obtain ⟨_, _, ⟨T211, L211, k211, n211⟩, -, X211, ⟨Lc211, hQ211, l211, y211, z211⟩, st211⟩ := X208.virtualBack hx (y := (⟨"com/example/libhorn/libhorn/data/Relation", "equals", "(Ljava/lang/Object;)Z"⟩ : MethodName)) (z := (⟨"com/example/libhorn/libhorn/data/Relation", "equals", "(Ljava/lang/Object;)Z"⟩ : MethodName)) hown89 (mvT hZ89 (hw _ (List.mem_of_getElem? (i := 92) rfl))) (mvT hZ89 (hw _ (List.mem_of_getElem? (i := 93) rfl))) (notFace_of_selects (args := #[]) (mvT hZ89 (hw _ (List.mem_of_getElem? (i := 95) rfl)))) (mvT hZ89 (hw _ (List.mem_of_getElem? (i := 95) rfl))) (mvT hZ89 (hw _ (List.mem_of_getElem? (i := 94) rfl))) (by decide) (backOf (W := 0) (rm15r l Z a0 hw [] b73 b40 b17 (if sy = (0 : Int32) then (p3 &&& (2147483647 : Int32)) else (p2 &&& (2147483647 : Int32))) b1 (p2 &&& (2147483647 : Int32)) b31 b10 k31v k10v lb la (nar .byte ((nar .char ya).toInt8.toInt32)) (nar .byte ((nar .char yb).toInt8.toInt32)) (nar .byte ((nar .char xa).toInt8.toInt32)) (nar .byte ((nar .char xb).toInt8.toInt32)) cs ca cc  T89.heap n0 (Nat.le_trans Z0 K0_209.1) R89a R89b A40_210 R53a_198 R53b_199 A17_206 R89c R89d A1_203 R53c_204 R53d_205 V31_202 V10_201 hlb G O0_207) hZ89 (hw _ (List.mem_of_getElem? (i := 96) rfl)) (hw _ (List.mem_of_getElem? (i := 29) rfl)) (by decide) (by decide)) q211a q211c (g := (mkF m 337 #[.val (.int p0), .val (.int p1), .val (.int p2), .val (.int p3), .val (.int p4), .val (.int p5), .val (.int sn), .val (.int sy), .val (.int la), .val (.int xa), .val (.int xb), .val (.int lb), .val (.int ya), .val (.int yb), .val (.ref b1), .val (.ref b17), .val (.int (p2 &&& (2147483647 : Int32))), .val (.int (if sy = (0 : Int32) then (p3 &&& (2147483647 : Int32)) else (p2 &&& (2147483647 : Int32)))), .val (.ref b40), .val (.int (p5 &&& (3 : Int32))), .val (.ref b73), .val (.int (0 : Int32)), .val (.int (0 : Int32))] [(.ref b40), (.ref b73)])) rfl (by rw [hml]; rfl) (Steps.refl _) (argsL := [(.ref b40)]) (rest := []) (lenOf pd__28Ljava_2flang_2fObject_3b_29Z rfl) rfl (by show 2 * 0 + _ ≤ _; exact Nat.le_of_eq rfl) (hb hby at_337) (fun _ _ => ⟨rfl, e208, (by decide : 22 + 0 ≤ _), (by decide : 80 + 0 ≤ _)⟩)
                dsimp only [Pt.U, Pt.locs, Pt.cells, Pt.slots] at X211 l211 y211 z211 st211 hQ211
                subst l211 y211 z211
                obtain ⟨rfl, N211q, e211⟩ := hQ211
                obtain ⟨_, X211, N211⟩ := own_hide X211 (Fr.app N208 N211q)
                refine own_tr st211 ?_
                show own_Go _ _ _ _ T211 (mkF m 340 #[.val (.int p0), .val (.int p1), .val (.int p2), .val (.int p3), .val (.int p4), .val (.int p5), .val (.int sn), .val (.int sy), .val (.int la), .val (.int xa), .val (.int xb), .val (.int lb), .val (.int ya), .val (.int yb), .val (.ref b1), .val (.ref b17), .val (.int (p2 &&& (2147483647 : Int32))), .val (.int (if sy = (0 : Int32) then (p3 &&& (2147483647 : Int32)) else (p2 &&& (2147483647 : Int32)))), .val (.ref b40), .val (.int (p5 &&& (3 : Int32))), .val (.ref b73), .val (.int (0 : Int32)), .val (.int (0 : Int32))] [(.int (own_re b17 (if sy = (0 : Int32) then (p3 &&& (2147483647 : Int32)) else (p2 &&& (2147483647 : Int32))) b1 (p2 &&& (2147483647 : Int32)) lb la (nar .byte ((nar .char ya).toInt8.toInt32)) (nar .byte ((nar .char yb).toInt8.toInt32)) (nar .byte ((nar .char xa).toInt8.toInt32)) (nar .byte ((nar .char xb).toInt8.toInt32))))])
                refine own_st (fun t k => XS.iload X211.here hx rfl (hb hby at_340) rfl k) ?_
                refine own_st (fun t k => XS.icmpNo X211.here hx rfl (hb hby at_342) rfl (teq ((own_sym _ _ _ _ _ _ _ _ _ _).trans ((own_key ne_b1_b17 hla hxa hxb hya hyb).trans (if_neg (fun q => q.1.2.1.elim c272_93 c279_123))) : (own_re b17 (if sy = (0 : Int32) then (p3 &&& (2147483647 : Int32)) else (p2 &&& (2147483647 : Int32))) b1 (p2 &&& (2147483647 : Int32)) lb la (nar .byte ((nar .char ya).toInt8.toInt32)) (nar .byte ((nar .char yb).toInt8.toInt32)) (nar .byte ((nar .char xa).toInt8.toInt32)) (nar .byte ((nar .char xb).toInt8.toInt32))) = (0 : Int32))).2 k) ?_
                show own_Go _ _ _ _ T211 (mkF m 345 #[.val (.int p0), .val (.int p1), .val (.int p2), .val (.int p3), .val (.int p4), .val (.int p5), .val (.int sn), .val (.int sy), .val (.int la), .val (.int xa), .val (.int xb), .val (.int lb), .val (.int ya), .val (.int yb), .val (.ref b1), .val (.ref b17), .val (.int (p2 &&& (2147483647 : Int32))), .val (.int (if sy = (0 : Int32) then (p3 &&& (2147483647 : Int32)) else (p2 &&& (2147483647 : Int32)))), .val (.ref b40), .val (.int (p5 &&& (3 : Int32))), .val (.ref b73), .val (.int (0 : Int32)), .val (.int (0 : Int32))] [])
                refine own_st (fun t k => XS.iconst X211.here hx rfl (hb hby at_345) k) ?_
                refine own_st (fun t k => XS.goto X211.here hx rfl (pc0 := 346) (pc' := 350) rfl (hb hby at_346) (by decide) (by decide) k) ?_
                show own_Go _ _ _ _ T211 (mkF m 350 #[.val (.int p0), .val (.int p1), .val (.int p2), .val (.int p3), .val (.int p4), .val (.int p5), .val (.int sn), .val (.int sy), .val (.int la), .val (.int xa), .val (.int xb), .val (.int lb), .val (.int ya), .val (.int yb), .val (.ref b1), .val (.ref b17), .val (.int (p2 &&& (2147483647 : Int32))), .val (.int (if sy = (0 : Int32) then (p3 &&& (2147483647 : Int32)) else (p2 &&& (2147483647 : Int32)))), .val (.ref b40), .val (.int (p5 &&& (3 : Int32))), .val (.ref b73), .val (.int (0 : Int32)), .val (.int (0 : Int32))] [(.int (1 : Int32))])
                exact own_retNW X211 hS89 (by rw [e211]; exact (Nat.le_refl T89.heap.size)) hx hlk (t := .boolean) hrt (by simp) (hb hby at_350) ⟨rfl, N211⟩ (by decide) (by decide)
          ·
            refine own_st (fun t k => XS.icmpYes X89.here hx rfl (pc0 := 266) (pc' := 299) rfl (hb hby at_266) rfl (feq c266_92).2 (by decide) (by decide) k) ?_
            show own_Go _ _ _ _ T89 (mkF m 299 #[.val (.int p0), .val (.int p1), .val (.int p2), .val (.int p3), .val (.int p4), .val (.int p5), .val (.int sn), .val (.int sy), .val (.int la), .val (.int xa), .val (.int xb), .val (.int lb), .val (.int ya), .val (.int yb), .val (.ref b1), .val (.ref b17), .val (.int (p2 &&& (2147483647 : Int32))), .val (.int (if sy = (0 : Int32) then (p3 &&& (2147483647 : Int32)) else (p2 &&& (2147483647 : Int32)))), .val (.ref b40), .val (.int (p5 &&& (3 : Int32))), .val (.ref b73), .unset, .unset] [])
            refine own_st (fun t k => XS.iconst X89.here hx rfl (hb hby at_299) k) ?_
            refine own_st (fun t k => XS.istore X89.here hx rfl (hb hby at_300) rfl (l' := #[.val (.int p0), .val (.int p1), .val (.int p2), .val (.int p3), .val (.int p4), .val (.int p5), .val (.int sn), .val (.int sy), .val (.int la), .val (.int xa), .val (.int xb), .val (.int lb), .val (.int ya), .val (.int yb), .val (.ref b1), .val (.ref b17), .val (.int (p2 &&& (2147483647 : Int32))), .val (.int (if sy = (0 : Int32) then (p3 &&& (2147483647 : Int32)) else (p2 &&& (2147483647 : Int32)))), .val (.ref b40), .val (.int (p5 &&& (3 : Int32))), .val (.ref b73), .val (.int (0 : Int32)), .unset]) rfl k) ?_
            show own_Go _ _ _ _ T89 (mkF m 302 #[.val (.int p0), .val (.int p1), .val (.int p2), .val (.int p3), .val (.int p4), .val (.int p5), .val (.int sn), .val (.int sy), .val (.int la), .val (.int xa), .val (.int xb), .val (.int lb), .val (.int ya), .val (.int yb), .val (.ref b1), .val (.ref b17), .val (.int (p2 &&& (2147483647 : Int32))), .val (.int (if sy = (0 : Int32) then (p3 &&& (2147483647 : Int32)) else (p2 &&& (2147483647 : Int32)))), .val (.ref b40), .val (.int (p5 &&& (3 : Int32))), .val (.ref b73), .val (.int (0 : Int32)), .unset] [])
            refine own_st (fun t k => XS.iload X89.here hx rfl (hb hby at_302) rfl k) ?_
            refine own_st (fun t k => XS.ifYes X89.here hx rfl (pc0 := 304) (pc' := 318) rfl (hb hby at_304) rfl ((if0 _ _).trans (teq (by decide : (0 : Int32) = (0 : Int32))).1) (by decide) (by decide) k) ?_
            show own_Go _ _ _ _ T89 (mkF m 318 #[.val (.int p0), .val (.int p1), .val (.int p2), .val (.int p3), .val (.int p4), .val (.int p5), .val (.int sn), .val (.int sy), .val (.int la), .val (.int xa), .val (.int xb), .val (.int lb), .val (.int ya), .val (.int yb), .val (.ref b1), .val (.ref b17), .val (.int (p2 &&& (2147483647 : Int32))), .val (.int (if sy = (0 : Int32) then (p3 &&& (2147483647 : Int32)) else (p2 &&& (2147483647 : Int32)))), .val (.ref b40), .val (.int (p5 &&& (3 : Int32))), .val (.ref b73), .val (.int (0 : Int32)), .unset] [])
            refine own_st (fun t k => XS.iconst X89.here hx rfl (hb hby at_318) k) ?_
            refine own_st (fun t k => XS.istore X89.here hx rfl (hb hby at_319) rfl (l' := #[.val (.int p0), .val (.int p1), .val (.int p2), .val (.int p3), .val (.int p4), .val (.int p5), .val (.int sn), .val (.int sy), .val (.int la), .val (.int xa), .val (.int xb), .val (.int lb), .val (.int ya), .val (.int yb), .val (.ref b1), .val (.ref b17), .val (.int (p2 &&& (2147483647 : Int32))), .val (.int (if sy = (0 : Int32) then (p3 &&& (2147483647 : Int32)) else (p2 &&& (2147483647 : Int32)))), .val (.ref b40), .val (.int (p5 &&& (3 : Int32))), .val (.ref b73), .val (.int (0 : Int32)), .val (.int (0 : Int32))]) rfl k) ?_
            show own_Go _ _ _ _ T89 (mkF m 321 #[.val (.int p0), .val (.int p1), .val (.int p2), .val (.int p3), .val (.int p4), .val (.int p5), .val (.int sn), .val (.int sy), .val (.int la), .val (.int xa), .val (.int xb), .val (.int lb), .val (.int ya), .val (.int yb), .val (.ref b1), .val (.ref b17), .val (.int (p2 &&& (2147483647 : Int32))), .val (.int (if sy = (0 : Int32) then (p3 &&& (2147483647 : Int32)) else (p2 &&& (2147483647 : Int32)))), .val (.ref b40), .val (.int (p5 &&& (3 : Int32))), .val (.ref b73), .val (.int (0 : Int32)), .val (.int (0 : Int32))] [])
            refine own_st (fun t k => XS.aload X89.here hx rfl (hb hby at_321) rfl rfl k) ?_
            refine own_st (fun t k => XS.aload X89.here hx rfl (hb hby at_323) rfl rfl k) ?_
            show own_Go _ _ _ _ T89 (mkF m 325 #[.val (.int p0), .val (.int p1), .val (.int p2), .val (.int p3), .val (.int p4), .val (.int p5), .val (.int sn), .val (.int sy), .val (.int la), .val (.int xa), .val (.int xb), .val (.int lb), .val (.int ya), .val (.int yb), .val (.ref b1), .val (.ref b17), .val (.int (p2 &&& (2147483647 : Int32))), .val (.int (if sy = (0 : Int32) then (p3 &&& (2147483647 : Int32)) else (p2 &&& (2147483647 : Int32)))), .val (.ref b40), .val (.int (p5 &&& (3 : Int32))), .val (.ref b73), .val (.int (0 : Int32)), .val (.int (0 : Int32))] [(.ref b73), (.ref b40)])
            have R53a_212 := ((R53a.ext E73).keep K89 (ninS ne_b40_b73 (ninS (Ne.symm ne_b17_b40) nin0)))
            have R53b_213 := ((R53b.ext E73).keep K89 (ninS ne_b40_b73 (ninS (Ne.symm ne_b17_b40) nin0)))
            have A73_214 := (A73.keep K89)
            have V10_215 := ((V10_76.ext E73).keep K89 (ninS ne_b10_b73 (ninS ne_b10_b17 nin0)))
            have V31_216 := (V31_86.keep K89 (ninS ne_b31_b73 (ninS nb31 nin0)))
            have A1_217 := ((A1_74.ext E73).keep K89)
            have R53c_218 := ((R53c.ext E73).keep K89 (ninS ne_b1_b73 (ninS ne_b1_b17 nin0)))
            have R53d_219 := ((R53d.ext E73).keep K89 (ninS ne_b1_b73 (ninS ne_b1_b17 nin0)))
            have A17_220 := (A17_81.keep K89)
            have O0_221 := (O0_88.keep K89 (allS g_b73 (allS g_b17 all0)))
            have K0_223 := (K0_90.trans K89 (allS ((Or.inr sz_b73)) (allS ((Or.inr sz_b17)) all0)))
            have A40_224 := ((A40_80.ext E73).keep K89)
            obtain ⟨cq222, kq222, q222a, q222b, q222c⟩ := isOf hZ89 rfl A40_224
            obtain ⟨_, _, ⟨T222, L222, k222, n222⟩, -, X222, ⟨Lc222, hQ222, l222, y222, z222⟩, st222⟩ := X89.virtualBack hx (y := (⟨"com/example/libhorn/libhorn/data/Relation", "equals", "(Ljava/lang/Object;)Z"⟩ : MethodName)) (z := (⟨"com/example/libhorn/libhorn/data/Relation", "equals", "(Ljava/lang/Object;)Z"⟩ : MethodName)) hown89 (mvT hZ89 (hw _ (List.mem_of_getElem? (i := 92) rfl))) (mvT hZ89 (hw _ (List.mem_of_getElem? (i := 93) rfl))) (notFace_of_selects (args := #[]) (mvT hZ89 (hw _ (List.mem_of_getElem? (i := 95) rfl)))) (mvT hZ89 (hw _ (List.mem_of_getElem? (i := 95) rfl))) (mvT hZ89 (hw _ (List.mem_of_getElem? (i := 94) rfl))) (by decide) (backOf (W := 0) (rm15r l Z a0 hw [] b40 b73 b1 (p2 &&& (2147483647 : Int32)) b17 (if sy = (0 : Int32) then (p3 &&& (2147483647 : Int32)) else (p2 &&& (2147483647 : Int32))) b10 b31 k10v k31v la lb (nar .byte ((nar .char xa).toInt8.toInt32)) (nar .byte ((nar .char xb).toInt8.toInt32)) (nar .byte ((nar .char ya).toInt8.toInt32)) (nar .byte ((nar .char yb).toInt8.toInt32)) cs ca cc  T89.heap n0 (Nat.le_trans Z0 K0_223.1) R53a_212 R53b_213 A73_214 R89a R89b A1_217 R53c_218 R53d_219 A17_220 R89c R89d V10_215 V31_216 hla G O0_221) hZ89 (hw _ (List.mem_of_getElem? (i := 96) rfl)) (hw _ (List.mem_of_getElem? (i := 29) rfl)) (by decide) (by decide)) q222a q222c (g := (mkF m 325 #[.val (.int p0), .val (.int p1), .val (.int p2), .val (.int p3), .val (.int p4), .val (.int p5), .val (.int sn), .val (.int sy), .val (.int la), .val (.int xa), .val (.int xb), .val (.int lb), .val (.int ya), .val (.int yb), .val (.ref b1), .val (.ref b17), .val (.int (p2 &&& (2147483647 : Int32))), .val (.int (if sy = (0 : Int32) then (p3 &&& (2147483647 : Int32)) else (p2 &&& (2147483647 : Int32)))), .val (.ref b40), .val (.int (p5 &&& (3 : Int32))), .val (.ref b73), .val (.int (0 : Int32)), .val (.int (0 : Int32))] [(.ref b73), (.ref b40)])) rfl (by rw [hml]; rfl) (Steps.refl _) (argsL := [(.ref b73)]) (rest := []) (lenOf pd__28Ljava_2flang_2fObject_3b_29Z rfl) rfl (by show 2 * 0 + _ ≤ _; exact Nat.le_of_eq rfl) (hb hby at_325) (fun _ _ => ⟨rfl, rfl, (by decide : 22 + 0 ≤ _), (by decide : 80 + 0 ≤ _)⟩)
            dsimp only [Pt.U, Pt.locs, Pt.cells, Pt.slots] at X222 l222 y222 z222 st222 hQ222
            subst l222 y222 z222
            obtain ⟨rfl, N222q, e222⟩ := hQ222
            obtain ⟨_, X222, N222⟩ := own_hide X222 (Fr.app N89 N222q)
            refine own_tr st222 ?_
            show own_Go _ _ _ _ T222 (mkF m 328 #[.val (.int p0), .val (.int p1), .val (.int p2), .val (.int p3), .val (.int p4), .val (.int p5), .val (.int sn), .val (.int sy), .val (.int la), .val (.int xa), .val (.int xb), .val (.int lb), .val (.int ya), .val (.int yb), .val (.ref b1), .val (.ref b17), .val (.int (p2 &&& (2147483647 : Int32))), .val (.int (if sy = (0 : Int32) then (p3 &&& (2147483647 : Int32)) else (p2 &&& (2147483647 : Int32)))), .val (.ref b40), .val (.int (p5 &&& (3 : Int32))), .val (.ref b73), .val (.int (0 : Int32)), .val (.int (0 : Int32))] [(.int (own_re b1 (p2 &&& (2147483647 : Int32)) b17 (if sy = (0 : Int32) then (p3 &&& (2147483647 : Int32)) else (p2 &&& (2147483647 : Int32))) la lb (nar .byte ((nar .char xa).toInt8.toInt32)) (nar .byte ((nar .char xb).toInt8.toInt32)) (nar .byte ((nar .char ya).toInt8.toInt32)) (nar .byte ((nar .char yb).toInt8.toInt32))))])
            refine own_st (fun t k => XS.iload X222.here hx rfl (hb hby at_328) rfl k) ?_
            refine own_st (fun t k => XS.icmpNo X222.here hx rfl (hb hby at_330) rfl (teq ((own_key ne_b1_b17 hla hxa hxb hya hyb).trans (if_neg (fun q => c266_92 q.1.1)) : (own_re b1 (p2 &&& (2147483647 : Int32)) b17 (if sy = (0 : Int32) then (p3 &&& (2147483647 : Int32)) else (p2 &&& (2147483647 : Int32))) la lb (nar .byte ((nar .char xa).toInt8.toInt32)) (nar .byte ((nar .char xb).toInt8.toInt32)) (nar .byte ((nar .char ya).toInt8.toInt32)) (nar .byte ((nar .char yb).toInt8.toInt32))) = (0 : Int32))).2 k) ?_
            show own_Go _ _ _ _ T222 (mkF m 333 #[.val (.int p0), .val (.int p1), .val (.int p2), .val (.int p3), .val (.int p4), .val (.int p5), .val (.int sn), .val (.int sy), .val (.int la), .val (.int xa), .val (.int xb), .val (.int lb), .val (.int ya), .val (.int yb), .val (.ref b1), .val (.ref b17), .val (.int (p2 &&& (2147483647 : Int32))), .val (.int (if sy = (0 : Int32) then (p3 &&& (2147483647 : Int32)) else (p2 &&& (2147483647 : Int32)))), .val (.ref b40), .val (.int (p5 &&& (3 : Int32))), .val (.ref b73), .val (.int (0 : Int32)), .val (.int (0 : Int32))] [])
            refine own_st (fun t k => XS.aload X222.here hx rfl (hb hby at_333) rfl rfl k) ?_
            refine own_st (fun t k => XS.aload X222.here hx rfl (hb hby at_335) rfl rfl k) ?_
            show own_Go _ _ _ _ T222 (mkF m 337 #[.val (.int p0), .val (.int p1), .val (.int p2), .val (.int p3), .val (.int p4), .val (.int p5), .val (.int sn), .val (.int sy), .val (.int la), .val (.int xa), .val (.int xb), .val (.int lb), .val (.int ya), .val (.int yb), .val (.ref b1), .val (.ref b17), .val (.int (p2 &&& (2147483647 : Int32))), .val (.int (if sy = (0 : Int32) then (p3 &&& (2147483647 : Int32)) else (p2 &&& (2147483647 : Int32)))), .val (.ref b40), .val (.int (p5 &&& (3 : Int32))), .val (.ref b73), .val (.int (0 : Int32)), .val (.int (0 : Int32))] [(.ref b40), (.ref b73)])
            obtain ⟨cq225, kq225, q225a, q225b, q225c⟩ := isOf hZ89 e222 A73_214
            obtain ⟨_, _, ⟨T225, L225, k225, n225⟩, -, X225, ⟨Lc225, hQ225, l225, y225, z225⟩, st225⟩ := X222.virtualBack hx (y := (⟨"com/example/libhorn/libhorn/data/Relation", "equals", "(Ljava/lang/Object;)Z"⟩ : MethodName)) (z := (⟨"com/example/libhorn/libhorn/data/Relation", "equals", "(Ljava/lang/Object;)Z"⟩ : MethodName)) hown89 (mvT hZ89 (hw _ (List.mem_of_getElem? (i := 92) rfl))) (mvT hZ89 (hw _ (List.mem_of_getElem? (i := 93) rfl))) (notFace_of_selects (args := #[]) (mvT hZ89 (hw _ (List.mem_of_getElem? (i := 95) rfl)))) (mvT hZ89 (hw _ (List.mem_of_getElem? (i := 95) rfl))) (mvT hZ89 (hw _ (List.mem_of_getElem? (i := 94) rfl))) (by decide) (backOf (W := 0) (rm15r l Z a0 hw [] b73 b40 b17 (if sy = (0 : Int32) then (p3 &&& (2147483647 : Int32)) else (p2 &&& (2147483647 : Int32))) b1 (p2 &&& (2147483647 : Int32)) b31 b10 k31v k10v lb la (nar .byte ((nar .char ya).toInt8.toInt32)) (nar .byte ((nar .char yb).toInt8.toInt32)) (nar .byte ((nar .char xa).toInt8.toInt32)) (nar .byte ((nar .char xb).toInt8.toInt32)) cs ca cc  T89.heap n0 (Nat.le_trans Z0 K0_223.1) R89a R89b A40_224 R53a_212 R53b_213 A17_220 R89c R89d A1_217 R53c_218 R53d_219 V31_216 V10_215 hlb G O0_221) hZ89 (hw _ (List.mem_of_getElem? (i := 96) rfl)) (hw _ (List.mem_of_getElem? (i := 29) rfl)) (by decide) (by decide)) q225a q225c (g := (mkF m 337 #[.val (.int p0), .val (.int p1), .val (.int p2), .val (.int p3), .val (.int p4), .val (.int p5), .val (.int sn), .val (.int sy), .val (.int la), .val (.int xa), .val (.int xb), .val (.int lb), .val (.int ya), .val (.int yb), .val (.ref b1), .val (.ref b17), .val (.int (p2 &&& (2147483647 : Int32))), .val (.int (if sy = (0 : Int32) then (p3 &&& (2147483647 : Int32)) else (p2 &&& (2147483647 : Int32)))), .val (.ref b40), .val (.int (p5 &&& (3 : Int32))), .val (.ref b73), .val (.int (0 : Int32)), .val (.int (0 : Int32))] [(.ref b40), (.ref b73)])) rfl (by rw [hml]; rfl) (Steps.refl _) (argsL := [(.ref b40)]) (rest := []) (lenOf pd__28Ljava_2flang_2fObject_3b_29Z rfl) rfl (by show 2 * 0 + _ ≤ _; exact Nat.le_of_eq rfl) (hb hby at_337) (fun _ _ => ⟨rfl, e222, (by decide : 22 + 0 ≤ _), (by decide : 80 + 0 ≤ _)⟩)
            dsimp only [Pt.U, Pt.locs, Pt.cells, Pt.slots] at X225 l225 y225 z225 st225 hQ225
            subst l225 y225 z225
            obtain ⟨rfl, N225q, e225⟩ := hQ225
            obtain ⟨_, X225, N225⟩ := own_hide X225 (Fr.app N222 N225q)
            refine own_tr st225 ?_
            show own_Go _ _ _ _ T225 (mkF m 340 #[.val (.int p0), .val (.int p1), .val (.int p2), .val (.int p3), .val (.int p4), .val (.int p5), .val (.int sn), .val (.int sy), .val (.int la), .val (.int xa), .val (.int xb), .val (.int lb), .val (.int ya), .val (.int yb), .val (.ref b1), .val (.ref b17), .val (.int (p2 &&& (2147483647 : Int32))), .val (.int (if sy = (0 : Int32) then (p3 &&& (2147483647 : Int32)) else (p2 &&& (2147483647 : Int32)))), .val (.ref b40), .val (.int (p5 &&& (3 : Int32))), .val (.ref b73), .val (.int (0 : Int32)), .val (.int (0 : Int32))] [(.int (own_re b17 (if sy = (0 : Int32) then (p3 &&& (2147483647 : Int32)) else (p2 &&& (2147483647 : Int32))) b1 (p2 &&& (2147483647 : Int32)) lb la (nar .byte ((nar .char ya).toInt8.toInt32)) (nar .byte ((nar .char yb).toInt8.toInt32)) (nar .byte ((nar .char xa).toInt8.toInt32)) (nar .byte ((nar .char xb).toInt8.toInt32))))])
            refine own_st (fun t k => XS.iload X225.here hx rfl (hb hby at_340) rfl k) ?_
            refine own_st (fun t k => XS.icmpNo X225.here hx rfl (hb hby at_342) rfl (teq ((own_sym _ _ _ _ _ _ _ _ _ _).trans ((own_key ne_b1_b17 hla hxa hxb hya hyb).trans (if_neg (fun q => c266_92 q.1.1))) : (own_re b17 (if sy = (0 : Int32) then (p3 &&& (2147483647 : Int32)) else (p2 &&& (2147483647 : Int32))) b1 (p2 &&& (2147483647 : Int32)) lb la (nar .byte ((nar .char ya).toInt8.toInt32)) (nar .byte ((nar .char yb).toInt8.toInt32)) (nar .byte ((nar .char xa).toInt8.toInt32)) (nar .byte ((nar .char xb).toInt8.toInt32))) = (0 : Int32))).2 k) ?_
            show own_Go _ _ _ _ T225 (mkF m 345 #[.val (.int p0), .val (.int p1), .val (.int p2), .val (.int p3), .val (.int p4), .val (.int p5), .val (.int sn), .val (.int sy), .val (.int la), .val (.int xa), .val (.int xb), .val (.int lb), .val (.int ya), .val (.int yb), .val (.ref b1), .val (.ref b17), .val (.int (p2 &&& (2147483647 : Int32))), .val (.int (if sy = (0 : Int32) then (p3 &&& (2147483647 : Int32)) else (p2 &&& (2147483647 : Int32)))), .val (.ref b40), .val (.int (p5 &&& (3 : Int32))), .val (.ref b73), .val (.int (0 : Int32)), .val (.int (0 : Int32))] [])
            refine own_st (fun t k => XS.iconst X225.here hx rfl (hb hby at_345) k) ?_
            refine own_st (fun t k => XS.goto X225.here hx rfl (pc0 := 346) (pc' := 350) rfl (hb hby at_346) (by decide) (by decide) k) ?_
            show own_Go _ _ _ _ T225 (mkF m 350 #[.val (.int p0), .val (.int p1), .val (.int p2), .val (.int p3), .val (.int p4), .val (.int p5), .val (.int sn), .val (.int sy), .val (.int la), .val (.int xa), .val (.int xb), .val (.int lb), .val (.int ya), .val (.int yb), .val (.ref b1), .val (.ref b17), .val (.int (p2 &&& (2147483647 : Int32))), .val (.int (if sy = (0 : Int32) then (p3 &&& (2147483647 : Int32)) else (p2 &&& (2147483647 : Int32)))), .val (.ref b40), .val (.int (p5 &&& (3 : Int32))), .val (.ref b73), .val (.int (0 : Int32)), .val (.int (0 : Int32))] [(.int (1 : Int32))])
            exact own_retNW X225 hS89 (by rw [e225]; exact (Nat.le_refl T89.heap.size)) hx hlk (t := .boolean) hrt (by simp) (hb hby at_350) ⟨rfl, N225⟩ (by decide) (by decide)
  show own_Go _ _ _ _ s₁ (mkF m 0 #[.val (.int p0), .val (.int p1), .val (.int p2), .val (.int p3), .val (.int p4), .val (.int p5), .unset, .unset, .unset, .unset, .unset, .unset, .unset, .unset, .unset, .unset, .unset, .unset, .unset, .unset, .unset, .unset, .unset] [])
  refine own_st (fun t k => XS.iload X0.here hx rfl (hb hby at_0) rfl k) ?_
  refine own_st (fun t k => XS.bipush X0.here hx rfl (hb hby at_2) k) ?_
  refine own_st (fun t k => XS.iand X0.here hx rfl (hb hby at_4) rfl k) ?_
  show own_Go _ _ _ _ s₁ (mkF m 5 #[.val (.int p0), .val (.int p1), .val (.int p2), .val (.int p3), .val (.int p4), .val (.int p5), .unset, .unset, .unset, .unset, .unset, .unset, .unset, .unset, .unset, .unset, .unset, .unset, .unset, .unset, .unset, .unset, .unset] [(.int (p5 &&& (8 : Int32)))])
  by_cases c5_226 : (p5 &&& (8 : Int32)) = (0 : Int32)
  ·
    refine own_st (fun t k => XS.ifYes X0.here hx rfl (pc0 := 5) (pc' := 12) rfl (hb hby at_5) rfl ((if0 _ _).trans (teq c5_226).1) (by decide) (by decide) k) ?_
    show own_Go _ _ _ _ s₁ (mkF m 12 #[.val (.int p0), .val (.int p1), .val (.int p2), .val (.int p3), .val (.int p4), .val (.int p5), .unset, .unset, .unset, .unset, .unset, .unset, .unset, .unset, .unset, .unset, .unset, .unset, .unset, .unset, .unset, .unset, .unset] [])
    refine own_st (fun t k => XS.iconst X0.here hx rfl (hb hby at_12) k) ?_
    refine own_st (fun t k => XS.istore X0.here hx rfl (hb hby at_13) rfl (l' := #[.val (.int p0), .val (.int p1), .val (.int p2), .val (.int p3), .val (.int p4), .val (.int p5), .val (.int (0 : Int32)), .unset, .unset, .unset, .unset, .unset, .unset, .unset, .unset, .unset, .unset, .unset, .unset, .unset, .unset, .unset, .unset]) rfl k) ?_
    show own_Go _ _ _ _ s₁ (mkF m 15 #[.val (.int p0), .val (.int p1), .val (.int p2), .val (.int p3), .val (.int p4), .val (.int p5), .val (.int (0 : Int32)), .unset, .unset, .unset, .unset, .unset, .unset, .unset, .unset, .unset, .unset, .unset, .unset, .unset, .unset, .unset, .unset] [])
    refine own_st (fun t k => XS.iload X0.here hx rfl (hb hby at_15) rfl k) ?_
    refine own_st (fun t k => XS.iconst X0.here hx rfl (hb hby at_17) k) ?_
    refine own_st (fun t k => XS.iand X0.here hx rfl (hb hby at_18) rfl k) ?_
    show own_Go _ _ _ _ s₁ (mkF m 19 #[.val (.int p0), .val (.int p1), .val (.int p2), .val (.int p3), .val (.int p4), .val (.int p5), .val (.int (0 : Int32)), .unset, .unset, .unset, .unset, .unset, .unset, .unset, .unset, .unset, .unset, .unset, .unset, .unset, .unset, .unset, .unset] [(.int (p5 &&& (4 : Int32)))])
    by_cases c19_227 : (p5 &&& (4 : Int32)) = (0 : Int32)
    ·
      refine own_st (fun t k => XS.ifYes X0.here hx rfl (pc0 := 19) (pc' := 26) rfl (hb hby at_19) rfl ((if0 _ _).trans (teq c19_227).1) (by decide) (by decide) k) ?_
      show own_Go _ _ _ _ s₁ (mkF m 26 #[.val (.int p0), .val (.int p1), .val (.int p2), .val (.int p3), .val (.int p4), .val (.int p5), .val (.int (0 : Int32)), .unset, .unset, .unset, .unset, .unset, .unset, .unset, .unset, .unset, .unset, .unset, .unset, .unset, .unset, .unset, .unset] [])
      refine own_st (fun t k => XS.iconst X0.here hx rfl (hb hby at_26) k) ?_
      refine own_st (fun t k => XS.istore X0.here hx rfl (hb hby at_27) rfl (l' := #[.val (.int p0), .val (.int p1), .val (.int p2), .val (.int p3), .val (.int p4), .val (.int p5), .val (.int (0 : Int32)), .val (.int (0 : Int32)), .unset, .unset, .unset, .unset, .unset, .unset, .unset, .unset, .unset, .unset, .unset, .unset, .unset, .unset, .unset]) rfl k) ?_
      show own_Go _ _ _ _ s₁ (mkF m 29 #[.val (.int p0), .val (.int p1), .val (.int p2), .val (.int p3), .val (.int p4), .val (.int p5), .val (.int (0 : Int32)), .val (.int (0 : Int32)), .unset, .unset, .unset, .unset, .unset, .unset, .unset, .unset, .unset, .unset, .unset, .unset, .unset, .unset, .unset] [])
      refine own_st (fun t k => XS.iload X0.here hx rfl (hb hby at_29) rfl k) ?_
      refine own_st (fun t k => XS.iconst X0.here hx rfl (hb hby at_31) k) ?_
      refine own_st (fun t k => XS.iand X0.here hx rfl (hb hby at_32) rfl k) ?_
      show own_Go _ _ _ _ s₁ (mkF m 33 #[.val (.int p0), .val (.int p1), .val (.int p2), .val (.int p3), .val (.int p4), .val (.int p5), .val (.int (0 : Int32)), .val (.int (0 : Int32)), .unset, .unset, .unset, .unset, .unset, .unset, .unset, .unset, .unset, .unset, .unset, .unset, .unset, .unset, .unset] [(.int (p4 &&& (3 : Int32)))])
      refine own_st (fun t k => XS.iconst X0.here hx rfl (hb hby at_33) k) ?_
      show own_Go _ _ _ _ s₁ (mkF m 34 #[.val (.int p0), .val (.int p1), .val (.int p2), .val (.int p3), .val (.int p4), .val (.int p5), .val (.int (0 : Int32)), .val (.int (0 : Int32)), .unset, .unset, .unset, .unset, .unset, .unset, .unset, .unset, .unset, .unset, .unset, .unset, .unset, .unset, .unset] [(.int (3 : Int32)), (.int (p4 &&& (3 : Int32)))])
      refine own_st (fun t k => iremM X0 hx rfl (hb hby at_34) rfl (by decide) k) ?_
      show own_Go _ _ _ _ s₁ (mkF m 35 #[.val (.int p0), .val (.int p1), .val (.int p2), .val (.int p3), .val (.int p4), .val (.int p5), .val (.int (0 : Int32)), .val (.int (0 : Int32)), .unset, .unset, .unset, .unset, .unset, .unset, .unset, .unset, .unset, .unset, .unset, .unset, .unset, .unset, .unset] [(.int ((p4 &&& (3 : Int32)) % (3 : Int32)))])
      refine own_st (fun t k => XS.istore X0.here hx rfl (hb hby at_35) rfl (l' := #[.val (.int p0), .val (.int p1), .val (.int p2), .val (.int p3), .val (.int p4), .val (.int p5), .val (.int (0 : Int32)), .val (.int (0 : Int32)), .val (.int ((p4 &&& (3 : Int32)) % (3 : Int32))), .unset, .unset, .unset, .unset, .unset, .unset, .unset, .unset, .unset, .unset, .unset, .unset, .unset, .unset]) rfl k) ?_
      show own_Go _ _ _ _ s₁ (mkF m 37 #[.val (.int p0), .val (.int p1), .val (.int p2), .val (.int p3), .val (.int p4), .val (.int p5), .val (.int (0 : Int32)), .val (.int (0 : Int32)), .val (.int ((p4 &&& (3 : Int32)) % (3 : Int32))), .unset, .unset, .unset, .unset, .unset, .unset, .unset, .unset, .unset, .unset, .unset, .unset, .unset, .unset] [])
      refine own_st (fun t k => XS.iloadN X0.here hx rfl (hb hby at_37) rfl k) ?_
      refine own_st (fun t k => XS.sipush X0.here hx rfl (hb hby at_38) k) ?_
      refine own_st (fun t k => XS.iand X0.here hx rfl (hb hby at_41) rfl k) ?_
      show own_Go _ _ _ _ s₁ (mkF m 42 #[.val (.int p0), .val (.int p1), .val (.int p2), .val (.int p3), .val (.int p4), .val (.int p5), .val (.int (0 : Int32)), .val (.int (0 : Int32)), .val (.int ((p4 &&& (3 : Int32)) % (3 : Int32))), .unset, .unset, .unset, .unset, .unset, .unset, .unset, .unset, .unset, .unset, .unset, .unset, .unset, .unset] [(.int (p0 &&& (255 : Int32)))])
      refine own_st (fun t k => XS.i2c X0.here hx rfl (hb hby at_42) rfl k) ?_
      show own_Go _ _ _ _ s₁ (mkF m 43 #[.val (.int p0), .val (.int p1), .val (.int p2), .val (.int p3), .val (.int p4), .val (.int p5), .val (.int (0 : Int32)), .val (.int (0 : Int32)), .val (.int ((p4 &&& (3 : Int32)) % (3 : Int32))), .unset, .unset, .unset, .unset, .unset, .unset, .unset, .unset, .unset, .unset, .unset, .unset, .unset, .unset] [(.int ((p0 &&& (255 : Int32)).toUInt32.toUInt16.toUInt32.toInt32))])
      refine own_st (fun t k => XS.istore X0.here hx rfl (hb hby at_43) rfl (l' := #[.val (.int p0), .val (.int p1), .val (.int p2), .val (.int p3), .val (.int p4), .val (.int p5), .val (.int (0 : Int32)), .val (.int (0 : Int32)), .val (.int ((p4 &&& (3 : Int32)) % (3 : Int32))), .val (.int ((p0 &&& (255 : Int32)).toUInt32.toUInt16.toUInt32.toInt32)), .unset, .unset, .unset, .unset, .unset, .unset, .unset, .unset, .unset, .unset, .unset, .unset, .unset]) rfl k) ?_
      show own_Go _ _ _ _ s₁ (mkF m 45 #[.val (.int p0), .val (.int p1), .val (.int p2), .val (.int p3), .val (.int p4), .val (.int p5), .val (.int (0 : Int32)), .val (.int (0 : Int32)), .val (.int ((p4 &&& (3 : Int32)) % (3 : Int32))), .val (.int ((p0 &&& (255 : Int32)).toUInt32.toUInt16.toUInt32.toInt32)), .unset, .unset, .unset, .unset, .unset, .unset, .unset, .unset, .unset, .unset, .unset, .unset, .unset] [])
      refine own_st (fun t k => XS.iloadN X0.here hx rfl (hb hby at_45) rfl k) ?_
      refine own_st (fun t k => XS.bipush X0.here hx rfl (hb hby at_46) k) ?_
      show own_Go _ _ _ _ s₁ (mkF m 48 #[.val (.int p0), .val (.int p1), .val (.int p2), .val (.int p3), .val (.int p4), .val (.int p5), .val (.int (0 : Int32)), .val (.int (0 : Int32)), .val (.int ((p4 &&& (3 : Int32)) % (3 : Int32))), .val (.int ((p0 &&& (255 : Int32)).toUInt32.toUInt16.toUInt32.toInt32)), .unset, .unset, .unset, .unset, .unset, .unset, .unset, .unset, .unset, .unset, .unset, .unset, .unset] [(.int (8 : Int32)), (.int p0)])
      refine own_st (fun t k => XS.iushr X0.here hx rfl (hb hby at_48) rfl k) ?_
      show own_Go _ _ _ _ s₁ (mkF m 49 #[.val (.int p0), .val (.int p1), .val (.int p2), .val (.int p3), .val (.int p4), .val (.int p5), .val (.int (0 : Int32)), .val (.int (0 : Int32)), .val (.int ((p4 &&& (3 : Int32)) % (3 : Int32))), .val (.int ((p0 &&& (255 : Int32)).toUInt32.toUInt16.toUInt32.toInt32)), .unset, .unset, .unset, .unset, .unset, .unset, .unset, .unset, .unset, .unset, .unset, .unset, .unset] [(.int ((p0.toUInt32 >>> ((8 : Int32) &&& 31).toUInt32).toInt32))])
      refine own_st (fun t k => XS.sipush X0.here hx rfl (hb hby at_49) k) ?_
      refine own_st (fun t k => XS.iand X0.here hx rfl (hb hby at_52) rfl k) ?_
      show own_Go _ _ _ _ s₁ (mkF m 53 #[.val (.int p0), .val (.int p1), .val (.int p2), .val (.int p3), .val (.int p4), .val (.int p5), .val (.int (0 : Int32)), .val (.int (0 : Int32)), .val (.int ((p4 &&& (3 : Int32)) % (3 : Int32))), .val (.int ((p0 &&& (255 : Int32)).toUInt32.toUInt16.toUInt32.toInt32)), .unset, .unset, .unset, .unset, .unset, .unset, .unset, .unset, .unset, .unset, .unset, .unset, .unset] [(.int (((p0.toUInt32 >>> ((8 : Int32) &&& 31).toUInt32).toInt32) &&& (255 : Int32)))])
      refine own_st (fun t k => XS.i2c X0.here hx rfl (hb hby at_53) rfl k) ?_
      show own_Go _ _ _ _ s₁ (mkF m 54 #[.val (.int p0), .val (.int p1), .val (.int p2), .val (.int p3), .val (.int p4), .val (.int p5), .val (.int (0 : Int32)), .val (.int (0 : Int32)), .val (.int ((p4 &&& (3 : Int32)) % (3 : Int32))), .val (.int ((p0 &&& (255 : Int32)).toUInt32.toUInt16.toUInt32.toInt32)), .unset, .unset, .unset, .unset, .unset, .unset, .unset, .unset, .unset, .unset, .unset, .unset, .unset] [(.int ((((p0.toUInt32 >>> ((8 : Int32) &&& 31).toUInt32).toInt32) &&& (255 : Int32)).toUInt32.toUInt16.toUInt32.toInt32))])
      refine own_st (fun t k => XS.istore X0.here hx rfl (hb hby at_54) rfl (l' := #[.val (.int p0), .val (.int p1), .val (.int p2), .val (.int p3), .val (.int p4), .val (.int p5), .val (.int (0 : Int32)), .val (.int (0 : Int32)), .val (.int ((p4 &&& (3 : Int32)) % (3 : Int32))), .val (.int ((p0 &&& (255 : Int32)).toUInt32.toUInt16.toUInt32.toInt32)), .val (.int ((((p0.toUInt32 >>> ((8 : Int32) &&& 31).toUInt32).toInt32) &&& (255 : Int32)).toUInt32.toUInt16.toUInt32.toInt32)), .unset, .unset, .unset, .unset, .unset, .unset, .unset, .unset, .unset, .unset, .unset, .unset]) rfl k) ?_
      show own_Go _ _ _ _ s₁ (mkF m 56 #[.val (.int p0), .val (.int p1), .val (.int p2), .val (.int p3), .val (.int p4), .val (.int p5), .val (.int (0 : Int32)), .val (.int (0 : Int32)), .val (.int ((p4 &&& (3 : Int32)) % (3 : Int32))), .val (.int ((p0 &&& (255 : Int32)).toUInt32.toUInt16.toUInt32.toInt32)), .val (.int ((((p0.toUInt32 >>> ((8 : Int32) &&& 31).toUInt32).toInt32) &&& (255 : Int32)).toUInt32.toUInt16.toUInt32.toInt32)), .unset, .unset, .unset, .unset, .unset, .unset, .unset, .unset, .unset, .unset, .unset, .unset] [])
      refine own_st (fun t k => XS.iload X0.here hx rfl (hb hby at_56) rfl k) ?_
      refine own_st (fun t k => XS.ifYes X0.here hx rfl (pc0 := 58) (pc' := 66) rfl (hb hby at_58) rfl ((if0 _ _).trans (teq (by decide : (0 : Int32) = (0 : Int32))).1) (by decide) (by decide) k) ?_
      show own_Go _ _ _ _ s₁ (mkF m 66 #[.val (.int p0), .val (.int p1), .val (.int p2), .val (.int p3), .val (.int p4), .val (.int p5), .val (.int (0 : Int32)), .val (.int (0 : Int32)), .val (.int ((p4 &&& (3 : Int32)) % (3 : Int32))), .val (.int ((p0 &&& (255 : Int32)).toUInt32.toUInt16.toUInt32.toInt32)), .val (.int ((((p0.toUInt32 >>> ((8 : Int32) &&& 31).toUInt32).toInt32) &&& (255 : Int32)).toUInt32.toUInt16.toUInt32.toInt32)), .unset, .unset, .unset, .unset, .unset, .unset, .unset, .unset, .unset, .unset, .unset, .unset] [])
      refine own_st (fun t k => XS.iload X0.here hx rfl (hb hby at_66) rfl k) ?_
      refine own_st (fun t k => XS.iconst X0.here hx rfl (hb hby at_68) k) ?_
      show own_Go _ _ _ _ s₁ (mkF m 69 #[.val (.int p0), .val (.int p1), .val (.int p2), .val (.int p3), .val (.int p4), .val (.int p5), .val (.int (0 : Int32)), .val (.int (0 : Int32)), .val (.int ((p4 &&& (3 : Int32)) % (3 : Int32))), .val (.int ((p0 &&& (255 : Int32)).toUInt32.toUInt16.toUInt32.toInt32)), .val (.int ((((p0.toUInt32 >>> ((8 : Int32) &&& 31).toUInt32).toInt32) &&& (255 : Int32)).toUInt32.toUInt16.toUInt32.toInt32)), .unset, .unset, .unset, .unset, .unset, .unset, .unset, .unset, .unset, .unset, .unset, .unset] [(.int (2 : Int32)), (.int p4)])
      refine own_st (fun t k => XS.iushr X0.here hx rfl (hb hby at_69) rfl k) ?_
      show own_Go _ _ _ _ s₁ (mkF m 70 #[.val (.int p0), .val (.int p1), .val (.int p2), .val (.int p3), .val (.int p4), .val (.int p5), .val (.int (0 : Int32)), .val (.int (0 : Int32)), .val (.int ((p4 &&& (3 : Int32)) % (3 : Int32))), .val (.int ((p0 &&& (255 : Int32)).toUInt32.toUInt16.toUInt32.toInt32)), .val (.int ((((p0.toUInt32 >>> ((8 : Int32) &&& 31).toUInt32).toInt32) &&& (255 : Int32)).toUInt32.toUInt16.toUInt32.toInt32)), .unset, .unset, .unset, .unset, .unset, .unset, .unset, .unset, .unset, .unset, .unset, .unset] [(.int ((p4.toUInt32 >>> ((2 : Int32) &&& 31).toUInt32).toInt32))])
      refine own_st (fun t k => XS.iconst X0.here hx rfl (hb hby at_70) k) ?_
      refine own_st (fun t k => XS.iand X0.here hx rfl (hb hby at_71) rfl k) ?_
      show own_Go _ _ _ _ s₁ (mkF m 72 #[.val (.int p0), .val (.int p1), .val (.int p2), .val (.int p3), .val (.int p4), .val (.int p5), .val (.int (0 : Int32)), .val (.int (0 : Int32)), .val (.int ((p4 &&& (3 : Int32)) % (3 : Int32))), .val (.int ((p0 &&& (255 : Int32)).toUInt32.toUInt16.toUInt32.toInt32)), .val (.int ((((p0.toUInt32 >>> ((8 : Int32) &&& 31).toUInt32).toInt32) &&& (255 : Int32)).toUInt32.toUInt16.toUInt32.toInt32)), .unset, .unset, .unset, .unset, .unset, .unset, .unset, .unset, .unset, .unset, .unset, .unset] [(.int (((p4.toUInt32 >>> ((2 : Int32) &&& 31).toUInt32).toInt32) &&& (3 : Int32)))])
      refine own_st (fun t k => XS.iconst X0.here hx rfl (hb hby at_72) k) ?_
      show own_Go _ _ _ _ s₁ (mkF m 73 #[.val (.int p0), .val (.int p1), .val (.int p2), .val (.int p3), .val (.int p4), .val (.int p5), .val (.int (0 : Int32)), .val (.int (0 : Int32)), .val (.int ((p4 &&& (3 : Int32)) % (3 : Int32))), .val (.int ((p0 &&& (255 : Int32)).toUInt32.toUInt16.toUInt32.toInt32)), .val (.int ((((p0.toUInt32 >>> ((8 : Int32) &&& 31).toUInt32).toInt32) &&& (255 : Int32)).toUInt32.toUInt16.toUInt32.toInt32)), .unset, .unset, .unset, .unset, .unset, .unset, .unset, .unset, .unset, .unset, .unset, .unset] [(.int (3 : Int32)), (.int (((p4.toUInt32 >>> ((2 : Int32) &&& 31).toUInt32).toInt32) &&& (3 : Int32)))])
      refine own_st (fun t k => iremM X0 hx rfl (hb hby at_73) rfl (by decide) k) ?_
      show own_Go _ _ _ _ s₁ (mkF m 74 #[.val (.int p0), .val (.int p1), .val (.int p2), .val (.int p3), .val (.int p4), .val (.int p5), .val (.int (0 : Int32)), .val (.int (0 : Int32)), .val (.int ((p4 &&& (3 : Int32)) % (3 : Int32))), .val (.int ((p0 &&& (255 : Int32)).toUInt32.toUInt16.toUInt32.toInt32)), .val (.int ((((p0.toUInt32 >>> ((8 : Int32) &&& 31).toUInt32).toInt32) &&& (255 : Int32)).toUInt32.toUInt16.toUInt32.toInt32)), .unset, .unset, .unset, .unset, .unset, .unset, .unset, .unset, .unset, .unset, .unset, .unset] [(.int ((((p4.toUInt32 >>> ((2 : Int32) &&& 31).toUInt32).toInt32) &&& (3 : Int32)) % (3 : Int32)))])
      refine own_st (fun t k => XS.istore X0.here hx rfl (hb hby at_74) rfl (l' := #[.val (.int p0), .val (.int p1), .val (.int p2), .val (.int p3), .val (.int p4), .val (.int p5), .val (.int (0 : Int32)), .val (.int (0 : Int32)), .val (.int ((p4 &&& (3 : Int32)) % (3 : Int32))), .val (.int ((p0 &&& (255 : Int32)).toUInt32.toUInt16.toUInt32.toInt32)), .val (.int ((((p0.toUInt32 >>> ((8 : Int32) &&& 31).toUInt32).toInt32) &&& (255 : Int32)).toUInt32.toUInt16.toUInt32.toInt32)), .val (.int ((((p4.toUInt32 >>> ((2 : Int32) &&& 31).toUInt32).toInt32) &&& (3 : Int32)) % (3 : Int32))), .unset, .unset, .unset, .unset, .unset, .unset, .unset, .unset, .unset, .unset, .unset]) rfl k) ?_
      show own_Go _ _ _ _ s₁ (mkF m 76 #[.val (.int p0), .val (.int p1), .val (.int p2), .val (.int p3), .val (.int p4), .val (.int p5), .val (.int (0 : Int32)), .val (.int (0 : Int32)), .val (.int ((p4 &&& (3 : Int32)) % (3 : Int32))), .val (.int ((p0 &&& (255 : Int32)).toUInt32.toUInt16.toUInt32.toInt32)), .val (.int ((((p0.toUInt32 >>> ((8 : Int32) &&& 31).toUInt32).toInt32) &&& (255 : Int32)).toUInt32.toUInt16.toUInt32.toInt32)), .val (.int ((((p4.toUInt32 >>> ((2 : Int32) &&& 31).toUInt32).toInt32) &&& (3 : Int32)) % (3 : Int32))), .unset, .unset, .unset, .unset, .unset, .unset, .unset, .unset, .unset, .unset, .unset] [])
      refine own_st (fun t k => XS.iload X0.here hx rfl (hb hby at_76) rfl k) ?_
      refine own_st (fun t k => XS.ifYes X0.here hx rfl (pc0 := 78) (pc' := 86) rfl (hb hby at_78) rfl ((if0 _ _).trans (teq (by decide : (0 : Int32) = (0 : Int32))).1) (by decide) (by decide) k) ?_
      show own_Go _ _ _ _ s₁ (mkF m 86 #[.val (.int p0), .val (.int p1), .val (.int p2), .val (.int p3), .val (.int p4), .val (.int p5), .val (.int (0 : Int32)), .val (.int (0 : Int32)), .val (.int ((p4 &&& (3 : Int32)) % (3 : Int32))), .val (.int ((p0 &&& (255 : Int32)).toUInt32.toUInt16.toUInt32.toInt32)), .val (.int ((((p0.toUInt32 >>> ((8 : Int32) &&& 31).toUInt32).toInt32) &&& (255 : Int32)).toUInt32.toUInt16.toUInt32.toInt32)), .val (.int ((((p4.toUInt32 >>> ((2 : Int32) &&& 31).toUInt32).toInt32) &&& (3 : Int32)) % (3 : Int32))), .unset, .unset, .unset, .unset, .unset, .unset, .unset, .unset, .unset, .unset, .unset] [])
      refine own_st (fun t k => XS.iloadN X0.here hx rfl (hb hby at_86) rfl k) ?_
      refine own_st (fun t k => XS.sipush X0.here hx rfl (hb hby at_87) k) ?_
      refine own_st (fun t k => XS.iand X0.here hx rfl (hb hby at_90) rfl k) ?_
      show own_Go _ _ _ _ s₁ (mkF m 91 #[.val (.int p0), .val (.int p1), .val (.int p2), .val (.int p3), .val (.int p4), .val (.int p5), .val (.int (0 : Int32)), .val (.int (0 : Int32)), .val (.int ((p4 &&& (3 : Int32)) % (3 : Int32))), .val (.int ((p0 &&& (255 : Int32)).toUInt32.toUInt16.toUInt32.toInt32)), .val (.int ((((p0.toUInt32 >>> ((8 : Int32) &&& 31).toUInt32).toInt32) &&& (255 : Int32)).toUInt32.toUInt16.toUInt32.toInt32)), .val (.int ((((p4.toUInt32 >>> ((2 : Int32) &&& 31).toUInt32).toInt32) &&& (3 : Int32)) % (3 : Int32))), .unset, .unset, .unset, .unset, .unset, .unset, .unset, .unset, .unset, .unset, .unset] [(.int (p1 &&& (255 : Int32)))])
      refine own_st (fun t k => XS.i2c X0.here hx rfl (hb hby at_91) rfl k) ?_
      show own_Go _ _ _ _ s₁ (mkF m 92 #[.val (.int p0), .val (.int p1), .val (.int p2), .val (.int p3), .val (.int p4), .val (.int p5), .val (.int (0 : Int32)), .val (.int (0 : Int32)), .val (.int ((p4 &&& (3 : Int32)) % (3 : Int32))), .val (.int ((p0 &&& (255 : Int32)).toUInt32.toUInt16.toUInt32.toInt32)), .val (.int ((((p0.toUInt32 >>> ((8 : Int32) &&& 31).toUInt32).toInt32) &&& (255 : Int32)).toUInt32.toUInt16.toUInt32.toInt32)), .val (.int ((((p4.toUInt32 >>> ((2 : Int32) &&& 31).toUInt32).toInt32) &&& (3 : Int32)) % (3 : Int32))), .unset, .unset, .unset, .unset, .unset, .unset, .unset, .unset, .unset, .unset, .unset] [(.int ((p1 &&& (255 : Int32)).toUInt32.toUInt16.toUInt32.toInt32))])
      refine own_st (fun t k => XS.istore X0.here hx rfl (hb hby at_92) rfl (l' := #[.val (.int p0), .val (.int p1), .val (.int p2), .val (.int p3), .val (.int p4), .val (.int p5), .val (.int (0 : Int32)), .val (.int (0 : Int32)), .val (.int ((p4 &&& (3 : Int32)) % (3 : Int32))), .val (.int ((p0 &&& (255 : Int32)).toUInt32.toUInt16.toUInt32.toInt32)), .val (.int ((((p0.toUInt32 >>> ((8 : Int32) &&& 31).toUInt32).toInt32) &&& (255 : Int32)).toUInt32.toUInt16.toUInt32.toInt32)), .val (.int ((((p4.toUInt32 >>> ((2 : Int32) &&& 31).toUInt32).toInt32) &&& (3 : Int32)) % (3 : Int32))), .val (.int ((p1 &&& (255 : Int32)).toUInt32.toUInt16.toUInt32.toInt32)), .unset, .unset, .unset, .unset, .unset, .unset, .unset, .unset, .unset, .unset]) rfl k) ?_
      show own_Go _ _ _ _ s₁ (mkF m 94 #[.val (.int p0), .val (.int p1), .val (.int p2), .val (.int p3), .val (.int p4), .val (.int p5), .val (.int (0 : Int32)), .val (.int (0 : Int32)), .val (.int ((p4 &&& (3 : Int32)) % (3 : Int32))), .val (.int ((p0 &&& (255 : Int32)).toUInt32.toUInt16.toUInt32.toInt32)), .val (.int ((((p0.toUInt32 >>> ((8 : Int32) &&& 31).toUInt32).toInt32) &&& (255 : Int32)).toUInt32.toUInt16.toUInt32.toInt32)), .val (.int ((((p4.toUInt32 >>> ((2 : Int32) &&& 31).toUInt32).toInt32) &&& (3 : Int32)) % (3 : Int32))), .val (.int ((p1 &&& (255 : Int32)).toUInt32.toUInt16.toUInt32.toInt32)), .unset, .unset, .unset, .unset, .unset, .unset, .unset, .unset, .unset, .unset] [])
      refine own_st (fun t k => XS.iload X0.here hx rfl (hb hby at_94) rfl k) ?_
      refine own_st (fun t k => XS.ifYes X0.here hx rfl (pc0 := 96) (pc' := 104) rfl (hb hby at_96) rfl ((if0 _ _).trans (teq (by decide : (0 : Int32) = (0 : Int32))).1) (by decide) (by decide) k) ?_
      show own_Go _ _ _ _ s₁ (mkF m 104 #[.val (.int p0), .val (.int p1), .val (.int p2), .val (.int p3), .val (.int p4), .val (.int p5), .val (.int (0 : Int32)), .val (.int (0 : Int32)), .val (.int ((p4 &&& (3 : Int32)) % (3 : Int32))), .val (.int ((p0 &&& (255 : Int32)).toUInt32.toUInt16.toUInt32.toInt32)), .val (.int ((((p0.toUInt32 >>> ((8 : Int32) &&& 31).toUInt32).toInt32) &&& (255 : Int32)).toUInt32.toUInt16.toUInt32.toInt32)), .val (.int ((((p4.toUInt32 >>> ((2 : Int32) &&& 31).toUInt32).toInt32) &&& (3 : Int32)) % (3 : Int32))), .val (.int ((p1 &&& (255 : Int32)).toUInt32.toUInt16.toUInt32.toInt32)), .unset, .unset, .unset, .unset, .unset, .unset, .unset, .unset, .unset, .unset] [])
      refine own_st (fun t k => XS.iloadN X0.here hx rfl (hb hby at_104) rfl k) ?_
      refine own_st (fun t k => XS.bipush X0.here hx rfl (hb hby at_105) k) ?_
      show own_Go _ _ _ _ s₁ (mkF m 107 #[.val (.int p0), .val (.int p1), .val (.int p2), .val (.int p3), .val (.int p4), .val (.int p5), .val (.int (0 : Int32)), .val (.int (0 : Int32)), .val (.int ((p4 &&& (3 : Int32)) % (3 : Int32))), .val (.int ((p0 &&& (255 : Int32)).toUInt32.toUInt16.toUInt32.toInt32)), .val (.int ((((p0.toUInt32 >>> ((8 : Int32) &&& 31).toUInt32).toInt32) &&& (255 : Int32)).toUInt32.toUInt16.toUInt32.toInt32)), .val (.int ((((p4.toUInt32 >>> ((2 : Int32) &&& 31).toUInt32).toInt32) &&& (3 : Int32)) % (3 : Int32))), .val (.int ((p1 &&& (255 : Int32)).toUInt32.toUInt16.toUInt32.toInt32)), .unset, .unset, .unset, .unset, .unset, .unset, .unset, .unset, .unset, .unset] [(.int (8 : Int32)), (.int p1)])
      refine own_st (fun t k => XS.iushr X0.here hx rfl (hb hby at_107) rfl k) ?_
      show own_Go _ _ _ _ s₁ (mkF m 108 #[.val (.int p0), .val (.int p1), .val (.int p2), .val (.int p3), .val (.int p4), .val (.int p5), .val (.int (0 : Int32)), .val (.int (0 : Int32)), .val (.int ((p4 &&& (3 : Int32)) % (3 : Int32))), .val (.int ((p0 &&& (255 : Int32)).toUInt32.toUInt16.toUInt32.toInt32)), .val (.int ((((p0.toUInt32 >>> ((8 : Int32) &&& 31).toUInt32).toInt32) &&& (255 : Int32)).toUInt32.toUInt16.toUInt32.toInt32)), .val (.int ((((p4.toUInt32 >>> ((2 : Int32) &&& 31).toUInt32).toInt32) &&& (3 : Int32)) % (3 : Int32))), .val (.int ((p1 &&& (255 : Int32)).toUInt32.toUInt16.toUInt32.toInt32)), .unset, .unset, .unset, .unset, .unset, .unset, .unset, .unset, .unset, .unset] [(.int ((p1.toUInt32 >>> ((8 : Int32) &&& 31).toUInt32).toInt32))])
      refine own_st (fun t k => XS.sipush X0.here hx rfl (hb hby at_108) k) ?_
      refine own_st (fun t k => XS.iand X0.here hx rfl (hb hby at_111) rfl k) ?_
      show own_Go _ _ _ _ s₁ (mkF m 112 #[.val (.int p0), .val (.int p1), .val (.int p2), .val (.int p3), .val (.int p4), .val (.int p5), .val (.int (0 : Int32)), .val (.int (0 : Int32)), .val (.int ((p4 &&& (3 : Int32)) % (3 : Int32))), .val (.int ((p0 &&& (255 : Int32)).toUInt32.toUInt16.toUInt32.toInt32)), .val (.int ((((p0.toUInt32 >>> ((8 : Int32) &&& 31).toUInt32).toInt32) &&& (255 : Int32)).toUInt32.toUInt16.toUInt32.toInt32)), .val (.int ((((p4.toUInt32 >>> ((2 : Int32) &&& 31).toUInt32).toInt32) &&& (3 : Int32)) % (3 : Int32))), .val (.int ((p1 &&& (255 : Int32)).toUInt32.toUInt16.toUInt32.toInt32)), .unset, .unset, .unset, .unset, .unset, .unset, .unset, .unset, .unset, .unset] [(.int (((p1.toUInt32 >>> ((8 : Int32) &&& 31).toUInt32).toInt32) &&& (255 : Int32)))])
      refine own_st (fun t k => XS.i2c X0.here hx rfl (hb hby at_112) rfl k) ?_
      show own_Go _ _ _ _ s₁ (mkF m 113 #[.val (.int p0), .val (.int p1), .val (.int p2), .val (.int p3), .val (.int p4), .val (.int p5), .val (.int (0 : Int32)), .val (.int (0 : Int32)), .val (.int ((p4 &&& (3 : Int32)) % (3 : Int32))), .val (.int ((p0 &&& (255 : Int32)).toUInt32.toUInt16.toUInt32.toInt32)), .val (.int ((((p0.toUInt32 >>> ((8 : Int32) &&& 31).toUInt32).toInt32) &&& (255 : Int32)).toUInt32.toUInt16.toUInt32.toInt32)), .val (.int ((((p4.toUInt32 >>> ((2 : Int32) &&& 31).toUInt32).toInt32) &&& (3 : Int32)) % (3 : Int32))), .val (.int ((p1 &&& (255 : Int32)).toUInt32.toUInt16.toUInt32.toInt32)), .unset, .unset, .unset, .unset, .unset, .unset, .unset, .unset, .unset, .unset] [(.int ((((p1.toUInt32 >>> ((8 : Int32) &&& 31).toUInt32).toInt32) &&& (255 : Int32)).toUInt32.toUInt16.toUInt32.toInt32))])
      refine own_st (fun t k => XS.istore X0.here hx rfl (hb hby at_113) rfl (l' := #[.val (.int p0), .val (.int p1), .val (.int p2), .val (.int p3), .val (.int p4), .val (.int p5), .val (.int (0 : Int32)), .val (.int (0 : Int32)), .val (.int ((p4 &&& (3 : Int32)) % (3 : Int32))), .val (.int ((p0 &&& (255 : Int32)).toUInt32.toUInt16.toUInt32.toInt32)), .val (.int ((((p0.toUInt32 >>> ((8 : Int32) &&& 31).toUInt32).toInt32) &&& (255 : Int32)).toUInt32.toUInt16.toUInt32.toInt32)), .val (.int ((((p4.toUInt32 >>> ((2 : Int32) &&& 31).toUInt32).toInt32) &&& (3 : Int32)) % (3 : Int32))), .val (.int ((p1 &&& (255 : Int32)).toUInt32.toUInt16.toUInt32.toInt32)), .val (.int ((((p1.toUInt32 >>> ((8 : Int32) &&& 31).toUInt32).toInt32) &&& (255 : Int32)).toUInt32.toUInt16.toUInt32.toInt32)), .unset, .unset, .unset, .unset, .unset, .unset, .unset, .unset, .unset]) rfl k) ?_
      show own_Go _ _ _ _ s₁ (mkF m 115 #[.val (.int p0), .val (.int p1), .val (.int p2), .val (.int p3), .val (.int p4), .val (.int p5), .val (.int (0 : Int32)), .val (.int (0 : Int32)), .val (.int ((p4 &&& (3 : Int32)) % (3 : Int32))), .val (.int ((p0 &&& (255 : Int32)).toUInt32.toUInt16.toUInt32.toInt32)), .val (.int ((((p0.toUInt32 >>> ((8 : Int32) &&& 31).toUInt32).toInt32) &&& (255 : Int32)).toUInt32.toUInt16.toUInt32.toInt32)), .val (.int ((((p4.toUInt32 >>> ((2 : Int32) &&& 31).toUInt32).toInt32) &&& (3 : Int32)) % (3 : Int32))), .val (.int ((p1 &&& (255 : Int32)).toUInt32.toUInt16.toUInt32.toInt32)), .val (.int ((((p1.toUInt32 >>> ((8 : Int32) &&& 31).toUInt32).toInt32) &&& (255 : Int32)).toUInt32.toUInt16.toUInt32.toInt32)), .unset, .unset, .unset, .unset, .unset, .unset, .unset, .unset, .unset] [])
      exact JG115 (0 : Int32) (0 : Int32) ((p4 &&& (3 : Int32)) % (3 : Int32)) ((p0 &&& (255 : Int32)).toUInt32.toUInt16.toUInt32.toInt32) ((((p0.toUInt32 >>> ((8 : Int32) &&& 31).toUInt32).toInt32) &&& (255 : Int32)).toUInt32.toUInt16.toUInt32.toInt32) ((((p4.toUInt32 >>> ((2 : Int32) &&& 31).toUInt32).toInt32) &&& (3 : Int32)) % (3 : Int32)) ((p1 &&& (255 : Int32)).toUInt32.toUInt16.toUInt32.toInt32) ((((p1.toUInt32 >>> ((8 : Int32) &&& 31).toUInt32).toInt32) &&& (255 : Int32)).toUInt32.toUInt16.toUInt32.toInt32) s₁ X0 e0 (own_len _) (own_len _) (own_ch_of _) (own_ch_of _) (own_ch_of _) (own_ch_of _)
    ·
      refine own_st (fun t k => XS.ifNo X0.here hx rfl (hb hby at_19) rfl ((if0 _ _).trans (feq c19_227).1) k) ?_
      show own_Go _ _ _ _ s₁ (mkF m 22 #[.val (.int p0), .val (.int p1), .val (.int p2), .val (.int p3), .val (.int p4), .val (.int p5), .val (.int (0 : Int32)), .unset, .unset, .unset, .unset, .unset, .unset, .unset, .unset, .unset, .unset, .unset, .unset, .unset, .unset, .unset, .unset] [])
      refine own_st (fun t k => XS.iconst X0.here hx rfl (hb hby at_22) k) ?_
      refine own_st (fun t k => XS.goto X0.here hx rfl (pc0 := 23) (pc' := 27) rfl (hb hby at_23) (by decide) (by decide) k) ?_
      show own_Go _ _ _ _ s₁ (mkF m 27 #[.val (.int p0), .val (.int p1), .val (.int p2), .val (.int p3), .val (.int p4), .val (.int p5), .val (.int (0 : Int32)), .unset, .unset, .unset, .unset, .unset, .unset, .unset, .unset, .unset, .unset, .unset, .unset, .unset, .unset, .unset, .unset] [(.int (1 : Int32))])
      refine own_st (fun t k => XS.istore X0.here hx rfl (hb hby at_27) rfl (l' := #[.val (.int p0), .val (.int p1), .val (.int p2), .val (.int p3), .val (.int p4), .val (.int p5), .val (.int (0 : Int32)), .val (.int (1 : Int32)), .unset, .unset, .unset, .unset, .unset, .unset, .unset, .unset, .unset, .unset, .unset, .unset, .unset, .unset, .unset]) rfl k) ?_
      show own_Go _ _ _ _ s₁ (mkF m 29 #[.val (.int p0), .val (.int p1), .val (.int p2), .val (.int p3), .val (.int p4), .val (.int p5), .val (.int (0 : Int32)), .val (.int (1 : Int32)), .unset, .unset, .unset, .unset, .unset, .unset, .unset, .unset, .unset, .unset, .unset, .unset, .unset, .unset, .unset] [])
      refine own_st (fun t k => XS.iload X0.here hx rfl (hb hby at_29) rfl k) ?_
      refine own_st (fun t k => XS.iconst X0.here hx rfl (hb hby at_31) k) ?_
      refine own_st (fun t k => XS.iand X0.here hx rfl (hb hby at_32) rfl k) ?_
      show own_Go _ _ _ _ s₁ (mkF m 33 #[.val (.int p0), .val (.int p1), .val (.int p2), .val (.int p3), .val (.int p4), .val (.int p5), .val (.int (0 : Int32)), .val (.int (1 : Int32)), .unset, .unset, .unset, .unset, .unset, .unset, .unset, .unset, .unset, .unset, .unset, .unset, .unset, .unset, .unset] [(.int (p4 &&& (3 : Int32)))])
      refine own_st (fun t k => XS.iconst X0.here hx rfl (hb hby at_33) k) ?_
      show own_Go _ _ _ _ s₁ (mkF m 34 #[.val (.int p0), .val (.int p1), .val (.int p2), .val (.int p3), .val (.int p4), .val (.int p5), .val (.int (0 : Int32)), .val (.int (1 : Int32)), .unset, .unset, .unset, .unset, .unset, .unset, .unset, .unset, .unset, .unset, .unset, .unset, .unset, .unset, .unset] [(.int (3 : Int32)), (.int (p4 &&& (3 : Int32)))])
      refine own_st (fun t k => iremM X0 hx rfl (hb hby at_34) rfl (by decide) k) ?_
      show own_Go _ _ _ _ s₁ (mkF m 35 #[.val (.int p0), .val (.int p1), .val (.int p2), .val (.int p3), .val (.int p4), .val (.int p5), .val (.int (0 : Int32)), .val (.int (1 : Int32)), .unset, .unset, .unset, .unset, .unset, .unset, .unset, .unset, .unset, .unset, .unset, .unset, .unset, .unset, .unset] [(.int ((p4 &&& (3 : Int32)) % (3 : Int32)))])
      refine own_st (fun t k => XS.istore X0.here hx rfl (hb hby at_35) rfl (l' := #[.val (.int p0), .val (.int p1), .val (.int p2), .val (.int p3), .val (.int p4), .val (.int p5), .val (.int (0 : Int32)), .val (.int (1 : Int32)), .val (.int ((p4 &&& (3 : Int32)) % (3 : Int32))), .unset, .unset, .unset, .unset, .unset, .unset, .unset, .unset, .unset, .unset, .unset, .unset, .unset, .unset]) rfl k) ?_
      show own_Go _ _ _ _ s₁ (mkF m 37 #[.val (.int p0), .val (.int p1), .val (.int p2), .val (.int p3), .val (.int p4), .val (.int p5), .val (.int (0 : Int32)), .val (.int (1 : Int32)), .val (.int ((p4 &&& (3 : Int32)) % (3 : Int32))), .unset, .unset, .unset, .unset, .unset, .unset, .unset, .unset, .unset, .unset, .unset, .unset, .unset, .unset] [])
      refine own_st (fun t k => XS.iloadN X0.here hx rfl (hb hby at_37) rfl k) ?_
      refine own_st (fun t k => XS.sipush X0.here hx rfl (hb hby at_38) k) ?_
      refine own_st (fun t k => XS.iand X0.here hx rfl (hb hby at_41) rfl k) ?_
      show own_Go _ _ _ _ s₁ (mkF m 42 #[.val (.int p0), .val (.int p1), .val (.int p2), .val (.int p3), .val (.int p4), .val (.int p5), .val (.int (0 : Int32)), .val (.int (1 : Int32)), .val (.int ((p4 &&& (3 : Int32)) % (3 : Int32))), .unset, .unset, .unset, .unset, .unset, .unset, .unset, .unset, .unset, .unset, .unset, .unset, .unset, .unset] [(.int (p0 &&& (255 : Int32)))])
      refine own_st (fun t k => XS.i2c X0.here hx rfl (hb hby at_42) rfl k) ?_
      show own_Go _ _ _ _ s₁ (mkF m 43 #[.val (.int p0), .val (.int p1), .val (.int p2), .val (.int p3), .val (.int p4), .val (.int p5), .val (.int (0 : Int32)), .val (.int (1 : Int32)), .val (.int ((p4 &&& (3 : Int32)) % (3 : Int32))), .unset, .unset, .unset, .unset, .unset, .unset, .unset, .unset, .unset, .unset, .unset, .unset, .unset, .unset] [(.int ((p0 &&& (255 : Int32)).toUInt32.toUInt16.toUInt32.toInt32))])
      refine own_st (fun t k => XS.istore X0.here hx rfl (hb hby at_43) rfl (l' := #[.val (.int p0), .val (.int p1), .val (.int p2), .val (.int p3), .val (.int p4), .val (.int p5), .val (.int (0 : Int32)), .val (.int (1 : Int32)), .val (.int ((p4 &&& (3 : Int32)) % (3 : Int32))), .val (.int ((p0 &&& (255 : Int32)).toUInt32.toUInt16.toUInt32.toInt32)), .unset, .unset, .unset, .unset, .unset, .unset, .unset, .unset, .unset, .unset, .unset, .unset, .unset]) rfl k) ?_
      show own_Go _ _ _ _ s₁ (mkF m 45 #[.val (.int p0), .val (.int p1), .val (.int p2), .val (.int p3), .val (.int p4), .val (.int p5), .val (.int (0 : Int32)), .val (.int (1 : Int32)), .val (.int ((p4 &&& (3 : Int32)) % (3 : Int32))), .val (.int ((p0 &&& (255 : Int32)).toUInt32.toUInt16.toUInt32.toInt32)), .unset, .unset, .unset, .unset, .unset, .unset, .unset, .unset, .unset, .unset, .unset, .unset, .unset] [])
      refine own_st (fun t k => XS.iloadN X0.here hx rfl (hb hby at_45) rfl k) ?_
      refine own_st (fun t k => XS.bipush X0.here hx rfl (hb hby at_46) k) ?_
      show own_Go _ _ _ _ s₁ (mkF m 48 #[.val (.int p0), .val (.int p1), .val (.int p2), .val (.int p3), .val (.int p4), .val (.int p5), .val (.int (0 : Int32)), .val (.int (1 : Int32)), .val (.int ((p4 &&& (3 : Int32)) % (3 : Int32))), .val (.int ((p0 &&& (255 : Int32)).toUInt32.toUInt16.toUInt32.toInt32)), .unset, .unset, .unset, .unset, .unset, .unset, .unset, .unset, .unset, .unset, .unset, .unset, .unset] [(.int (8 : Int32)), (.int p0)])
      refine own_st (fun t k => XS.iushr X0.here hx rfl (hb hby at_48) rfl k) ?_
      show own_Go _ _ _ _ s₁ (mkF m 49 #[.val (.int p0), .val (.int p1), .val (.int p2), .val (.int p3), .val (.int p4), .val (.int p5), .val (.int (0 : Int32)), .val (.int (1 : Int32)), .val (.int ((p4 &&& (3 : Int32)) % (3 : Int32))), .val (.int ((p0 &&& (255 : Int32)).toUInt32.toUInt16.toUInt32.toInt32)), .unset, .unset, .unset, .unset, .unset, .unset, .unset, .unset, .unset, .unset, .unset, .unset, .unset] [(.int ((p0.toUInt32 >>> ((8 : Int32) &&& 31).toUInt32).toInt32))])
      refine own_st (fun t k => XS.sipush X0.here hx rfl (hb hby at_49) k) ?_
      refine own_st (fun t k => XS.iand X0.here hx rfl (hb hby at_52) rfl k) ?_
      show own_Go _ _ _ _ s₁ (mkF m 53 #[.val (.int p0), .val (.int p1), .val (.int p2), .val (.int p3), .val (.int p4), .val (.int p5), .val (.int (0 : Int32)), .val (.int (1 : Int32)), .val (.int ((p4 &&& (3 : Int32)) % (3 : Int32))), .val (.int ((p0 &&& (255 : Int32)).toUInt32.toUInt16.toUInt32.toInt32)), .unset, .unset, .unset, .unset, .unset, .unset, .unset, .unset, .unset, .unset, .unset, .unset, .unset] [(.int (((p0.toUInt32 >>> ((8 : Int32) &&& 31).toUInt32).toInt32) &&& (255 : Int32)))])
      refine own_st (fun t k => XS.i2c X0.here hx rfl (hb hby at_53) rfl k) ?_
      show own_Go _ _ _ _ s₁ (mkF m 54 #[.val (.int p0), .val (.int p1), .val (.int p2), .val (.int p3), .val (.int p4), .val (.int p5), .val (.int (0 : Int32)), .val (.int (1 : Int32)), .val (.int ((p4 &&& (3 : Int32)) % (3 : Int32))), .val (.int ((p0 &&& (255 : Int32)).toUInt32.toUInt16.toUInt32.toInt32)), .unset, .unset, .unset, .unset, .unset, .unset, .unset, .unset, .unset, .unset, .unset, .unset, .unset] [(.int ((((p0.toUInt32 >>> ((8 : Int32) &&& 31).toUInt32).toInt32) &&& (255 : Int32)).toUInt32.toUInt16.toUInt32.toInt32))])
      refine own_st (fun t k => XS.istore X0.here hx rfl (hb hby at_54) rfl (l' := #[.val (.int p0), .val (.int p1), .val (.int p2), .val (.int p3), .val (.int p4), .val (.int p5), .val (.int (0 : Int32)), .val (.int (1 : Int32)), .val (.int ((p4 &&& (3 : Int32)) % (3 : Int32))), .val (.int ((p0 &&& (255 : Int32)).toUInt32.toUInt16.toUInt32.toInt32)), .val (.int ((((p0.toUInt32 >>> ((8 : Int32) &&& 31).toUInt32).toInt32) &&& (255 : Int32)).toUInt32.toUInt16.toUInt32.toInt32)), .unset, .unset, .unset, .unset, .unset, .unset, .unset, .unset, .unset, .unset, .unset, .unset]) rfl k) ?_
      show own_Go _ _ _ _ s₁ (mkF m 56 #[.val (.int p0), .val (.int p1), .val (.int p2), .val (.int p3), .val (.int p4), .val (.int p5), .val (.int (0 : Int32)), .val (.int (1 : Int32)), .val (.int ((p4 &&& (3 : Int32)) % (3 : Int32))), .val (.int ((p0 &&& (255 : Int32)).toUInt32.toUInt16.toUInt32.toInt32)), .val (.int ((((p0.toUInt32 >>> ((8 : Int32) &&& 31).toUInt32).toInt32) &&& (255 : Int32)).toUInt32.toUInt16.toUInt32.toInt32)), .unset, .unset, .unset, .unset, .unset, .unset, .unset, .unset, .unset, .unset, .unset, .unset] [])
      refine own_st (fun t k => XS.iload X0.here hx rfl (hb hby at_56) rfl k) ?_
      refine own_st (fun t k => XS.ifYes X0.here hx rfl (pc0 := 58) (pc' := 66) rfl (hb hby at_58) rfl ((if0 _ _).trans (teq (by decide : (0 : Int32) = (0 : Int32))).1) (by decide) (by decide) k) ?_
      show own_Go _ _ _ _ s₁ (mkF m 66 #[.val (.int p0), .val (.int p1), .val (.int p2), .val (.int p3), .val (.int p4), .val (.int p5), .val (.int (0 : Int32)), .val (.int (1 : Int32)), .val (.int ((p4 &&& (3 : Int32)) % (3 : Int32))), .val (.int ((p0 &&& (255 : Int32)).toUInt32.toUInt16.toUInt32.toInt32)), .val (.int ((((p0.toUInt32 >>> ((8 : Int32) &&& 31).toUInt32).toInt32) &&& (255 : Int32)).toUInt32.toUInt16.toUInt32.toInt32)), .unset, .unset, .unset, .unset, .unset, .unset, .unset, .unset, .unset, .unset, .unset, .unset] [])
      refine own_st (fun t k => XS.iload X0.here hx rfl (hb hby at_66) rfl k) ?_
      refine own_st (fun t k => XS.iconst X0.here hx rfl (hb hby at_68) k) ?_
      show own_Go _ _ _ _ s₁ (mkF m 69 #[.val (.int p0), .val (.int p1), .val (.int p2), .val (.int p3), .val (.int p4), .val (.int p5), .val (.int (0 : Int32)), .val (.int (1 : Int32)), .val (.int ((p4 &&& (3 : Int32)) % (3 : Int32))), .val (.int ((p0 &&& (255 : Int32)).toUInt32.toUInt16.toUInt32.toInt32)), .val (.int ((((p0.toUInt32 >>> ((8 : Int32) &&& 31).toUInt32).toInt32) &&& (255 : Int32)).toUInt32.toUInt16.toUInt32.toInt32)), .unset, .unset, .unset, .unset, .unset, .unset, .unset, .unset, .unset, .unset, .unset, .unset] [(.int (2 : Int32)), (.int p4)])
      refine own_st (fun t k => XS.iushr X0.here hx rfl (hb hby at_69) rfl k) ?_
      show own_Go _ _ _ _ s₁ (mkF m 70 #[.val (.int p0), .val (.int p1), .val (.int p2), .val (.int p3), .val (.int p4), .val (.int p5), .val (.int (0 : Int32)), .val (.int (1 : Int32)), .val (.int ((p4 &&& (3 : Int32)) % (3 : Int32))), .val (.int ((p0 &&& (255 : Int32)).toUInt32.toUInt16.toUInt32.toInt32)), .val (.int ((((p0.toUInt32 >>> ((8 : Int32) &&& 31).toUInt32).toInt32) &&& (255 : Int32)).toUInt32.toUInt16.toUInt32.toInt32)), .unset, .unset, .unset, .unset, .unset, .unset, .unset, .unset, .unset, .unset, .unset, .unset] [(.int ((p4.toUInt32 >>> ((2 : Int32) &&& 31).toUInt32).toInt32))])
      refine own_st (fun t k => XS.iconst X0.here hx rfl (hb hby at_70) k) ?_
      refine own_st (fun t k => XS.iand X0.here hx rfl (hb hby at_71) rfl k) ?_
      show own_Go _ _ _ _ s₁ (mkF m 72 #[.val (.int p0), .val (.int p1), .val (.int p2), .val (.int p3), .val (.int p4), .val (.int p5), .val (.int (0 : Int32)), .val (.int (1 : Int32)), .val (.int ((p4 &&& (3 : Int32)) % (3 : Int32))), .val (.int ((p0 &&& (255 : Int32)).toUInt32.toUInt16.toUInt32.toInt32)), .val (.int ((((p0.toUInt32 >>> ((8 : Int32) &&& 31).toUInt32).toInt32) &&& (255 : Int32)).toUInt32.toUInt16.toUInt32.toInt32)), .unset, .unset, .unset, .unset, .unset, .unset, .unset, .unset, .unset, .unset, .unset, .unset] [(.int (((p4.toUInt32 >>> ((2 : Int32) &&& 31).toUInt32).toInt32) &&& (3 : Int32)))])
      refine own_st (fun t k => XS.iconst X0.here hx rfl (hb hby at_72) k) ?_
      show own_Go _ _ _ _ s₁ (mkF m 73 #[.val (.int p0), .val (.int p1), .val (.int p2), .val (.int p3), .val (.int p4), .val (.int p5), .val (.int (0 : Int32)), .val (.int (1 : Int32)), .val (.int ((p4 &&& (3 : Int32)) % (3 : Int32))), .val (.int ((p0 &&& (255 : Int32)).toUInt32.toUInt16.toUInt32.toInt32)), .val (.int ((((p0.toUInt32 >>> ((8 : Int32) &&& 31).toUInt32).toInt32) &&& (255 : Int32)).toUInt32.toUInt16.toUInt32.toInt32)), .unset, .unset, .unset, .unset, .unset, .unset, .unset, .unset, .unset, .unset, .unset, .unset] [(.int (3 : Int32)), (.int (((p4.toUInt32 >>> ((2 : Int32) &&& 31).toUInt32).toInt32) &&& (3 : Int32)))])
      refine own_st (fun t k => iremM X0 hx rfl (hb hby at_73) rfl (by decide) k) ?_
      show own_Go _ _ _ _ s₁ (mkF m 74 #[.val (.int p0), .val (.int p1), .val (.int p2), .val (.int p3), .val (.int p4), .val (.int p5), .val (.int (0 : Int32)), .val (.int (1 : Int32)), .val (.int ((p4 &&& (3 : Int32)) % (3 : Int32))), .val (.int ((p0 &&& (255 : Int32)).toUInt32.toUInt16.toUInt32.toInt32)), .val (.int ((((p0.toUInt32 >>> ((8 : Int32) &&& 31).toUInt32).toInt32) &&& (255 : Int32)).toUInt32.toUInt16.toUInt32.toInt32)), .unset, .unset, .unset, .unset, .unset, .unset, .unset, .unset, .unset, .unset, .unset, .unset] [(.int ((((p4.toUInt32 >>> ((2 : Int32) &&& 31).toUInt32).toInt32) &&& (3 : Int32)) % (3 : Int32)))])
      refine own_st (fun t k => XS.istore X0.here hx rfl (hb hby at_74) rfl (l' := #[.val (.int p0), .val (.int p1), .val (.int p2), .val (.int p3), .val (.int p4), .val (.int p5), .val (.int (0 : Int32)), .val (.int (1 : Int32)), .val (.int ((p4 &&& (3 : Int32)) % (3 : Int32))), .val (.int ((p0 &&& (255 : Int32)).toUInt32.toUInt16.toUInt32.toInt32)), .val (.int ((((p0.toUInt32 >>> ((8 : Int32) &&& 31).toUInt32).toInt32) &&& (255 : Int32)).toUInt32.toUInt16.toUInt32.toInt32)), .val (.int ((((p4.toUInt32 >>> ((2 : Int32) &&& 31).toUInt32).toInt32) &&& (3 : Int32)) % (3 : Int32))), .unset, .unset, .unset, .unset, .unset, .unset, .unset, .unset, .unset, .unset, .unset]) rfl k) ?_
      show own_Go _ _ _ _ s₁ (mkF m 76 #[.val (.int p0), .val (.int p1), .val (.int p2), .val (.int p3), .val (.int p4), .val (.int p5), .val (.int (0 : Int32)), .val (.int (1 : Int32)), .val (.int ((p4 &&& (3 : Int32)) % (3 : Int32))), .val (.int ((p0 &&& (255 : Int32)).toUInt32.toUInt16.toUInt32.toInt32)), .val (.int ((((p0.toUInt32 >>> ((8 : Int32) &&& 31).toUInt32).toInt32) &&& (255 : Int32)).toUInt32.toUInt16.toUInt32.toInt32)), .val (.int ((((p4.toUInt32 >>> ((2 : Int32) &&& 31).toUInt32).toInt32) &&& (3 : Int32)) % (3 : Int32))), .unset, .unset, .unset, .unset, .unset, .unset, .unset, .unset, .unset, .unset, .unset] [])
      refine own_st (fun t k => XS.iload X0.here hx rfl (hb hby at_76) rfl k) ?_
      refine own_st (fun t k => XS.ifYes X0.here hx rfl (pc0 := 78) (pc' := 86) rfl (hb hby at_78) rfl ((if0 _ _).trans (teq (by decide : (0 : Int32) = (0 : Int32))).1) (by decide) (by decide) k) ?_
      show own_Go _ _ _ _ s₁ (mkF m 86 #[.val (.int p0), .val (.int p1), .val (.int p2), .val (.int p3), .val (.int p4), .val (.int p5), .val (.int (0 : Int32)), .val (.int (1 : Int32)), .val (.int ((p4 &&& (3 : Int32)) % (3 : Int32))), .val (.int ((p0 &&& (255 : Int32)).toUInt32.toUInt16.toUInt32.toInt32)), .val (.int ((((p0.toUInt32 >>> ((8 : Int32) &&& 31).toUInt32).toInt32) &&& (255 : Int32)).toUInt32.toUInt16.toUInt32.toInt32)), .val (.int ((((p4.toUInt32 >>> ((2 : Int32) &&& 31).toUInt32).toInt32) &&& (3 : Int32)) % (3 : Int32))), .unset, .unset, .unset, .unset, .unset, .unset, .unset, .unset, .unset, .unset, .unset] [])
      refine own_st (fun t k => XS.iloadN X0.here hx rfl (hb hby at_86) rfl k) ?_
      refine own_st (fun t k => XS.sipush X0.here hx rfl (hb hby at_87) k) ?_
      refine own_st (fun t k => XS.iand X0.here hx rfl (hb hby at_90) rfl k) ?_
      show own_Go _ _ _ _ s₁ (mkF m 91 #[.val (.int p0), .val (.int p1), .val (.int p2), .val (.int p3), .val (.int p4), .val (.int p5), .val (.int (0 : Int32)), .val (.int (1 : Int32)), .val (.int ((p4 &&& (3 : Int32)) % (3 : Int32))), .val (.int ((p0 &&& (255 : Int32)).toUInt32.toUInt16.toUInt32.toInt32)), .val (.int ((((p0.toUInt32 >>> ((8 : Int32) &&& 31).toUInt32).toInt32) &&& (255 : Int32)).toUInt32.toUInt16.toUInt32.toInt32)), .val (.int ((((p4.toUInt32 >>> ((2 : Int32) &&& 31).toUInt32).toInt32) &&& (3 : Int32)) % (3 : Int32))), .unset, .unset, .unset, .unset, .unset, .unset, .unset, .unset, .unset, .unset, .unset] [(.int (p1 &&& (255 : Int32)))])
      refine own_st (fun t k => XS.i2c X0.here hx rfl (hb hby at_91) rfl k) ?_
      show own_Go _ _ _ _ s₁ (mkF m 92 #[.val (.int p0), .val (.int p1), .val (.int p2), .val (.int p3), .val (.int p4), .val (.int p5), .val (.int (0 : Int32)), .val (.int (1 : Int32)), .val (.int ((p4 &&& (3 : Int32)) % (3 : Int32))), .val (.int ((p0 &&& (255 : Int32)).toUInt32.toUInt16.toUInt32.toInt32)), .val (.int ((((p0.toUInt32 >>> ((8 : Int32) &&& 31).toUInt32).toInt32) &&& (255 : Int32)).toUInt32.toUInt16.toUInt32.toInt32)), .val (.int ((((p4.toUInt32 >>> ((2 : Int32) &&& 31).toUInt32).toInt32) &&& (3 : Int32)) % (3 : Int32))), .unset, .unset, .unset, .unset, .unset, .unset, .unset, .unset, .unset, .unset, .unset] [(.int ((p1 &&& (255 : Int32)).toUInt32.toUInt16.toUInt32.toInt32))])
      refine own_st (fun t k => XS.istore X0.here hx rfl (hb hby at_92) rfl (l' := #[.val (.int p0), .val (.int p1), .val (.int p2), .val (.int p3), .val (.int p4), .val (.int p5), .val (.int (0 : Int32)), .val (.int (1 : Int32)), .val (.int ((p4 &&& (3 : Int32)) % (3 : Int32))), .val (.int ((p0 &&& (255 : Int32)).toUInt32.toUInt16.toUInt32.toInt32)), .val (.int ((((p0.toUInt32 >>> ((8 : Int32) &&& 31).toUInt32).toInt32) &&& (255 : Int32)).toUInt32.toUInt16.toUInt32.toInt32)), .val (.int ((((p4.toUInt32 >>> ((2 : Int32) &&& 31).toUInt32).toInt32) &&& (3 : Int32)) % (3 : Int32))), .val (.int ((p1 &&& (255 : Int32)).toUInt32.toUInt16.toUInt32.toInt32)), .unset, .unset, .unset, .unset, .unset, .unset, .unset, .unset, .unset, .unset]) rfl k) ?_
      show own_Go _ _ _ _ s₁ (mkF m 94 #[.val (.int p0), .val (.int p1), .val (.int p2), .val (.int p3), .val (.int p4), .val (.int p5), .val (.int (0 : Int32)), .val (.int (1 : Int32)), .val (.int ((p4 &&& (3 : Int32)) % (3 : Int32))), .val (.int ((p0 &&& (255 : Int32)).toUInt32.toUInt16.toUInt32.toInt32)), .val (.int ((((p0.toUInt32 >>> ((8 : Int32) &&& 31).toUInt32).toInt32) &&& (255 : Int32)).toUInt32.toUInt16.toUInt32.toInt32)), .val (.int ((((p4.toUInt32 >>> ((2 : Int32) &&& 31).toUInt32).toInt32) &&& (3 : Int32)) % (3 : Int32))), .val (.int ((p1 &&& (255 : Int32)).toUInt32.toUInt16.toUInt32.toInt32)), .unset, .unset, .unset, .unset, .unset, .unset, .unset, .unset, .unset, .unset] [])
      refine own_st (fun t k => XS.iload X0.here hx rfl (hb hby at_94) rfl k) ?_
      refine own_st (fun t k => XS.ifYes X0.here hx rfl (pc0 := 96) (pc' := 104) rfl (hb hby at_96) rfl ((if0 _ _).trans (teq (by decide : (0 : Int32) = (0 : Int32))).1) (by decide) (by decide) k) ?_
      show own_Go _ _ _ _ s₁ (mkF m 104 #[.val (.int p0), .val (.int p1), .val (.int p2), .val (.int p3), .val (.int p4), .val (.int p5), .val (.int (0 : Int32)), .val (.int (1 : Int32)), .val (.int ((p4 &&& (3 : Int32)) % (3 : Int32))), .val (.int ((p0 &&& (255 : Int32)).toUInt32.toUInt16.toUInt32.toInt32)), .val (.int ((((p0.toUInt32 >>> ((8 : Int32) &&& 31).toUInt32).toInt32) &&& (255 : Int32)).toUInt32.toUInt16.toUInt32.toInt32)), .val (.int ((((p4.toUInt32 >>> ((2 : Int32) &&& 31).toUInt32).toInt32) &&& (3 : Int32)) % (3 : Int32))), .val (.int ((p1 &&& (255 : Int32)).toUInt32.toUInt16.toUInt32.toInt32)), .unset, .unset, .unset, .unset, .unset, .unset, .unset, .unset, .unset, .unset] [])
      refine own_st (fun t k => XS.iloadN X0.here hx rfl (hb hby at_104) rfl k) ?_
      refine own_st (fun t k => XS.bipush X0.here hx rfl (hb hby at_105) k) ?_
      show own_Go _ _ _ _ s₁ (mkF m 107 #[.val (.int p0), .val (.int p1), .val (.int p2), .val (.int p3), .val (.int p4), .val (.int p5), .val (.int (0 : Int32)), .val (.int (1 : Int32)), .val (.int ((p4 &&& (3 : Int32)) % (3 : Int32))), .val (.int ((p0 &&& (255 : Int32)).toUInt32.toUInt16.toUInt32.toInt32)), .val (.int ((((p0.toUInt32 >>> ((8 : Int32) &&& 31).toUInt32).toInt32) &&& (255 : Int32)).toUInt32.toUInt16.toUInt32.toInt32)), .val (.int ((((p4.toUInt32 >>> ((2 : Int32) &&& 31).toUInt32).toInt32) &&& (3 : Int32)) % (3 : Int32))), .val (.int ((p1 &&& (255 : Int32)).toUInt32.toUInt16.toUInt32.toInt32)), .unset, .unset, .unset, .unset, .unset, .unset, .unset, .unset, .unset, .unset] [(.int (8 : Int32)), (.int p1)])
      refine own_st (fun t k => XS.iushr X0.here hx rfl (hb hby at_107) rfl k) ?_
      show own_Go _ _ _ _ s₁ (mkF m 108 #[.val (.int p0), .val (.int p1), .val (.int p2), .val (.int p3), .val (.int p4), .val (.int p5), .val (.int (0 : Int32)), .val (.int (1 : Int32)), .val (.int ((p4 &&& (3 : Int32)) % (3 : Int32))), .val (.int ((p0 &&& (255 : Int32)).toUInt32.toUInt16.toUInt32.toInt32)), .val (.int ((((p0.toUInt32 >>> ((8 : Int32) &&& 31).toUInt32).toInt32) &&& (255 : Int32)).toUInt32.toUInt16.toUInt32.toInt32)), .val (.int ((((p4.toUInt32 >>> ((2 : Int32) &&& 31).toUInt32).toInt32) &&& (3 : Int32)) % (3 : Int32))), .val (.int ((p1 &&& (255 : Int32)).toUInt32.toUInt16.toUInt32.toInt32)), .unset, .unset, .unset, .unset, .unset, .unset, .unset, .unset, .unset, .unset] [(.int ((p1.toUInt32 >>> ((8 : Int32) &&& 31).toUInt32).toInt32))])
      refine own_st (fun t k => XS.sipush X0.here hx rfl (hb hby at_108) k) ?_
      refine own_st (fun t k => XS.iand X0.here hx rfl (hb hby at_111) rfl k) ?_
      show own_Go _ _ _ _ s₁ (mkF m 112 #[.val (.int p0), .val (.int p1), .val (.int p2), .val (.int p3), .val (.int p4), .val (.int p5), .val (.int (0 : Int32)), .val (.int (1 : Int32)), .val (.int ((p4 &&& (3 : Int32)) % (3 : Int32))), .val (.int ((p0 &&& (255 : Int32)).toUInt32.toUInt16.toUInt32.toInt32)), .val (.int ((((p0.toUInt32 >>> ((8 : Int32) &&& 31).toUInt32).toInt32) &&& (255 : Int32)).toUInt32.toUInt16.toUInt32.toInt32)), .val (.int ((((p4.toUInt32 >>> ((2 : Int32) &&& 31).toUInt32).toInt32) &&& (3 : Int32)) % (3 : Int32))), .val (.int ((p1 &&& (255 : Int32)).toUInt32.toUInt16.toUInt32.toInt32)), .unset, .unset, .unset, .unset, .unset, .unset, .unset, .unset, .unset, .unset] [(.int (((p1.toUInt32 >>> ((8 : Int32) &&& 31).toUInt32).toInt32) &&& (255 : Int32)))])
      refine own_st (fun t k => XS.i2c X0.here hx rfl (hb hby at_112) rfl k) ?_
      show own_Go _ _ _ _ s₁ (mkF m 113 #[.val (.int p0), .val (.int p1), .val (.int p2), .val (.int p3), .val (.int p4), .val (.int p5), .val (.int (0 : Int32)), .val (.int (1 : Int32)), .val (.int ((p4 &&& (3 : Int32)) % (3 : Int32))), .val (.int ((p0 &&& (255 : Int32)).toUInt32.toUInt16.toUInt32.toInt32)), .val (.int ((((p0.toUInt32 >>> ((8 : Int32) &&& 31).toUInt32).toInt32) &&& (255 : Int32)).toUInt32.toUInt16.toUInt32.toInt32)), .val (.int ((((p4.toUInt32 >>> ((2 : Int32) &&& 31).toUInt32).toInt32) &&& (3 : Int32)) % (3 : Int32))), .val (.int ((p1 &&& (255 : Int32)).toUInt32.toUInt16.toUInt32.toInt32)), .unset, .unset, .unset, .unset, .unset, .unset, .unset, .unset, .unset, .unset] [(.int ((((p1.toUInt32 >>> ((8 : Int32) &&& 31).toUInt32).toInt32) &&& (255 : Int32)).toUInt32.toUInt16.toUInt32.toInt32))])
      refine own_st (fun t k => XS.istore X0.here hx rfl (hb hby at_113) rfl (l' := #[.val (.int p0), .val (.int p1), .val (.int p2), .val (.int p3), .val (.int p4), .val (.int p5), .val (.int (0 : Int32)), .val (.int (1 : Int32)), .val (.int ((p4 &&& (3 : Int32)) % (3 : Int32))), .val (.int ((p0 &&& (255 : Int32)).toUInt32.toUInt16.toUInt32.toInt32)), .val (.int ((((p0.toUInt32 >>> ((8 : Int32) &&& 31).toUInt32).toInt32) &&& (255 : Int32)).toUInt32.toUInt16.toUInt32.toInt32)), .val (.int ((((p4.toUInt32 >>> ((2 : Int32) &&& 31).toUInt32).toInt32) &&& (3 : Int32)) % (3 : Int32))), .val (.int ((p1 &&& (255 : Int32)).toUInt32.toUInt16.toUInt32.toInt32)), .val (.int ((((p1.toUInt32 >>> ((8 : Int32) &&& 31).toUInt32).toInt32) &&& (255 : Int32)).toUInt32.toUInt16.toUInt32.toInt32)), .unset, .unset, .unset, .unset, .unset, .unset, .unset, .unset, .unset]) rfl k) ?_
      show own_Go _ _ _ _ s₁ (mkF m 115 #[.val (.int p0), .val (.int p1), .val (.int p2), .val (.int p3), .val (.int p4), .val (.int p5), .val (.int (0 : Int32)), .val (.int (1 : Int32)), .val (.int ((p4 &&& (3 : Int32)) % (3 : Int32))), .val (.int ((p0 &&& (255 : Int32)).toUInt32.toUInt16.toUInt32.toInt32)), .val (.int ((((p0.toUInt32 >>> ((8 : Int32) &&& 31).toUInt32).toInt32) &&& (255 : Int32)).toUInt32.toUInt16.toUInt32.toInt32)), .val (.int ((((p4.toUInt32 >>> ((2 : Int32) &&& 31).toUInt32).toInt32) &&& (3 : Int32)) % (3 : Int32))), .val (.int ((p1 &&& (255 : Int32)).toUInt32.toUInt16.toUInt32.toInt32)), .val (.int ((((p1.toUInt32 >>> ((8 : Int32) &&& 31).toUInt32).toInt32) &&& (255 : Int32)).toUInt32.toUInt16.toUInt32.toInt32)), .unset, .unset, .unset, .unset, .unset, .unset, .unset, .unset, .unset] [])
      exact JG115 (0 : Int32) (1 : Int32) ((p4 &&& (3 : Int32)) % (3 : Int32)) ((p0 &&& (255 : Int32)).toUInt32.toUInt16.toUInt32.toInt32) ((((p0.toUInt32 >>> ((8 : Int32) &&& 31).toUInt32).toInt32) &&& (255 : Int32)).toUInt32.toUInt16.toUInt32.toInt32) ((((p4.toUInt32 >>> ((2 : Int32) &&& 31).toUInt32).toInt32) &&& (3 : Int32)) % (3 : Int32)) ((p1 &&& (255 : Int32)).toUInt32.toUInt16.toUInt32.toInt32) ((((p1.toUInt32 >>> ((8 : Int32) &&& 31).toUInt32).toInt32) &&& (255 : Int32)).toUInt32.toUInt16.toUInt32.toInt32) s₁ X0 e0 (own_len _) (own_len _) (own_ch_of _) (own_ch_of _) (own_ch_of _) (own_ch_of _)
  ·
    refine own_st (fun t k => XS.ifNo X0.here hx rfl (hb hby at_5) rfl ((if0 _ _).trans (feq c5_226).1) k) ?_
    show own_Go _ _ _ _ s₁ (mkF m 8 #[.val (.int p0), .val (.int p1), .val (.int p2), .val (.int p3), .val (.int p4), .val (.int p5), .unset, .unset, .unset, .unset, .unset, .unset, .unset, .unset, .unset, .unset, .unset, .unset, .unset, .unset, .unset, .unset, .unset] [])
    refine own_st (fun t k => XS.iconst X0.here hx rfl (hb hby at_8) k) ?_
    refine own_st (fun t k => XS.goto X0.here hx rfl (pc0 := 9) (pc' := 13) rfl (hb hby at_9) (by decide) (by decide) k) ?_
    show own_Go _ _ _ _ s₁ (mkF m 13 #[.val (.int p0), .val (.int p1), .val (.int p2), .val (.int p3), .val (.int p4), .val (.int p5), .unset, .unset, .unset, .unset, .unset, .unset, .unset, .unset, .unset, .unset, .unset, .unset, .unset, .unset, .unset, .unset, .unset] [(.int (1 : Int32))])
    refine own_st (fun t k => XS.istore X0.here hx rfl (hb hby at_13) rfl (l' := #[.val (.int p0), .val (.int p1), .val (.int p2), .val (.int p3), .val (.int p4), .val (.int p5), .val (.int (1 : Int32)), .unset, .unset, .unset, .unset, .unset, .unset, .unset, .unset, .unset, .unset, .unset, .unset, .unset, .unset, .unset, .unset]) rfl k) ?_
    show own_Go _ _ _ _ s₁ (mkF m 15 #[.val (.int p0), .val (.int p1), .val (.int p2), .val (.int p3), .val (.int p4), .val (.int p5), .val (.int (1 : Int32)), .unset, .unset, .unset, .unset, .unset, .unset, .unset, .unset, .unset, .unset, .unset, .unset, .unset, .unset, .unset, .unset] [])
    refine own_st (fun t k => XS.iload X0.here hx rfl (hb hby at_15) rfl k) ?_
    refine own_st (fun t k => XS.iconst X0.here hx rfl (hb hby at_17) k) ?_
    refine own_st (fun t k => XS.iand X0.here hx rfl (hb hby at_18) rfl k) ?_
    show own_Go _ _ _ _ s₁ (mkF m 19 #[.val (.int p0), .val (.int p1), .val (.int p2), .val (.int p3), .val (.int p4), .val (.int p5), .val (.int (1 : Int32)), .unset, .unset, .unset, .unset, .unset, .unset, .unset, .unset, .unset, .unset, .unset, .unset, .unset, .unset, .unset, .unset] [(.int (p5 &&& (4 : Int32)))])
    by_cases c19_228 : (p5 &&& (4 : Int32)) = (0 : Int32)
    ·
      refine own_st (fun t k => XS.ifYes X0.here hx rfl (pc0 := 19) (pc' := 26) rfl (hb hby at_19) rfl ((if0 _ _).trans (teq c19_228).1) (by decide) (by decide) k) ?_
      show own_Go _ _ _ _ s₁ (mkF m 26 #[.val (.int p0), .val (.int p1), .val (.int p2), .val (.int p3), .val (.int p4), .val (.int p5), .val (.int (1 : Int32)), .unset, .unset, .unset, .unset, .unset, .unset, .unset, .unset, .unset, .unset, .unset, .unset, .unset, .unset, .unset, .unset] [])
      refine own_st (fun t k => XS.iconst X0.here hx rfl (hb hby at_26) k) ?_
      refine own_st (fun t k => XS.istore X0.here hx rfl (hb hby at_27) rfl (l' := #[.val (.int p0), .val (.int p1), .val (.int p2), .val (.int p3), .val (.int p4), .val (.int p5), .val (.int (1 : Int32)), .val (.int (0 : Int32)), .unset, .unset, .unset, .unset, .unset, .unset, .unset, .unset, .unset, .unset, .unset, .unset, .unset, .unset, .unset]) rfl k) ?_
      show own_Go _ _ _ _ s₁ (mkF m 29 #[.val (.int p0), .val (.int p1), .val (.int p2), .val (.int p3), .val (.int p4), .val (.int p5), .val (.int (1 : Int32)), .val (.int (0 : Int32)), .unset, .unset, .unset, .unset, .unset, .unset, .unset, .unset, .unset, .unset, .unset, .unset, .unset, .unset, .unset] [])
      refine own_st (fun t k => XS.iload X0.here hx rfl (hb hby at_29) rfl k) ?_
      refine own_st (fun t k => XS.iconst X0.here hx rfl (hb hby at_31) k) ?_
      refine own_st (fun t k => XS.iand X0.here hx rfl (hb hby at_32) rfl k) ?_
      show own_Go _ _ _ _ s₁ (mkF m 33 #[.val (.int p0), .val (.int p1), .val (.int p2), .val (.int p3), .val (.int p4), .val (.int p5), .val (.int (1 : Int32)), .val (.int (0 : Int32)), .unset, .unset, .unset, .unset, .unset, .unset, .unset, .unset, .unset, .unset, .unset, .unset, .unset, .unset, .unset] [(.int (p4 &&& (3 : Int32)))])
      refine own_st (fun t k => XS.iconst X0.here hx rfl (hb hby at_33) k) ?_
      show own_Go _ _ _ _ s₁ (mkF m 34 #[.val (.int p0), .val (.int p1), .val (.int p2), .val (.int p3), .val (.int p4), .val (.int p5), .val (.int (1 : Int32)), .val (.int (0 : Int32)), .unset, .unset, .unset, .unset, .unset, .unset, .unset, .unset, .unset, .unset, .unset, .unset, .unset, .unset, .unset] [(.int (3 : Int32)), (.int (p4 &&& (3 : Int32)))])
      refine own_st (fun t k => iremM X0 hx rfl (hb hby at_34) rfl (by decide) k) ?_
      show own_Go _ _ _ _ s₁ (mkF m 35 #[.val (.int p0), .val (.int p1), .val (.int p2), .val (.int p3), .val (.int p4), .val (.int p5), .val (.int (1 : Int32)), .val (.int (0 : Int32)), .unset, .unset, .unset, .unset, .unset, .unset, .unset, .unset, .unset, .unset, .unset, .unset, .unset, .unset, .unset] [(.int ((p4 &&& (3 : Int32)) % (3 : Int32)))])
      refine own_st (fun t k => XS.istore X0.here hx rfl (hb hby at_35) rfl (l' := #[.val (.int p0), .val (.int p1), .val (.int p2), .val (.int p3), .val (.int p4), .val (.int p5), .val (.int (1 : Int32)), .val (.int (0 : Int32)), .val (.int ((p4 &&& (3 : Int32)) % (3 : Int32))), .unset, .unset, .unset, .unset, .unset, .unset, .unset, .unset, .unset, .unset, .unset, .unset, .unset, .unset]) rfl k) ?_
      show own_Go _ _ _ _ s₁ (mkF m 37 #[.val (.int p0), .val (.int p1), .val (.int p2), .val (.int p3), .val (.int p4), .val (.int p5), .val (.int (1 : Int32)), .val (.int (0 : Int32)), .val (.int ((p4 &&& (3 : Int32)) % (3 : Int32))), .unset, .unset, .unset, .unset, .unset, .unset, .unset, .unset, .unset, .unset, .unset, .unset, .unset, .unset] [])
      refine own_st (fun t k => XS.iloadN X0.here hx rfl (hb hby at_37) rfl k) ?_
      refine own_st (fun t k => XS.sipush X0.here hx rfl (hb hby at_38) k) ?_
      refine own_st (fun t k => XS.iand X0.here hx rfl (hb hby at_41) rfl k) ?_
      show own_Go _ _ _ _ s₁ (mkF m 42 #[.val (.int p0), .val (.int p1), .val (.int p2), .val (.int p3), .val (.int p4), .val (.int p5), .val (.int (1 : Int32)), .val (.int (0 : Int32)), .val (.int ((p4 &&& (3 : Int32)) % (3 : Int32))), .unset, .unset, .unset, .unset, .unset, .unset, .unset, .unset, .unset, .unset, .unset, .unset, .unset, .unset] [(.int (p0 &&& (255 : Int32)))])
      refine own_st (fun t k => XS.i2c X0.here hx rfl (hb hby at_42) rfl k) ?_
      show own_Go _ _ _ _ s₁ (mkF m 43 #[.val (.int p0), .val (.int p1), .val (.int p2), .val (.int p3), .val (.int p4), .val (.int p5), .val (.int (1 : Int32)), .val (.int (0 : Int32)), .val (.int ((p4 &&& (3 : Int32)) % (3 : Int32))), .unset, .unset, .unset, .unset, .unset, .unset, .unset, .unset, .unset, .unset, .unset, .unset, .unset, .unset] [(.int ((p0 &&& (255 : Int32)).toUInt32.toUInt16.toUInt32.toInt32))])
      refine own_st (fun t k => XS.istore X0.here hx rfl (hb hby at_43) rfl (l' := #[.val (.int p0), .val (.int p1), .val (.int p2), .val (.int p3), .val (.int p4), .val (.int p5), .val (.int (1 : Int32)), .val (.int (0 : Int32)), .val (.int ((p4 &&& (3 : Int32)) % (3 : Int32))), .val (.int ((p0 &&& (255 : Int32)).toUInt32.toUInt16.toUInt32.toInt32)), .unset, .unset, .unset, .unset, .unset, .unset, .unset, .unset, .unset, .unset, .unset, .unset, .unset]) rfl k) ?_
      show own_Go _ _ _ _ s₁ (mkF m 45 #[.val (.int p0), .val (.int p1), .val (.int p2), .val (.int p3), .val (.int p4), .val (.int p5), .val (.int (1 : Int32)), .val (.int (0 : Int32)), .val (.int ((p4 &&& (3 : Int32)) % (3 : Int32))), .val (.int ((p0 &&& (255 : Int32)).toUInt32.toUInt16.toUInt32.toInt32)), .unset, .unset, .unset, .unset, .unset, .unset, .unset, .unset, .unset, .unset, .unset, .unset, .unset] [])
      refine own_st (fun t k => XS.iloadN X0.here hx rfl (hb hby at_45) rfl k) ?_
      refine own_st (fun t k => XS.bipush X0.here hx rfl (hb hby at_46) k) ?_
      show own_Go _ _ _ _ s₁ (mkF m 48 #[.val (.int p0), .val (.int p1), .val (.int p2), .val (.int p3), .val (.int p4), .val (.int p5), .val (.int (1 : Int32)), .val (.int (0 : Int32)), .val (.int ((p4 &&& (3 : Int32)) % (3 : Int32))), .val (.int ((p0 &&& (255 : Int32)).toUInt32.toUInt16.toUInt32.toInt32)), .unset, .unset, .unset, .unset, .unset, .unset, .unset, .unset, .unset, .unset, .unset, .unset, .unset] [(.int (8 : Int32)), (.int p0)])
      refine own_st (fun t k => XS.iushr X0.here hx rfl (hb hby at_48) rfl k) ?_
      show own_Go _ _ _ _ s₁ (mkF m 49 #[.val (.int p0), .val (.int p1), .val (.int p2), .val (.int p3), .val (.int p4), .val (.int p5), .val (.int (1 : Int32)), .val (.int (0 : Int32)), .val (.int ((p4 &&& (3 : Int32)) % (3 : Int32))), .val (.int ((p0 &&& (255 : Int32)).toUInt32.toUInt16.toUInt32.toInt32)), .unset, .unset, .unset, .unset, .unset, .unset, .unset, .unset, .unset, .unset, .unset, .unset, .unset] [(.int ((p0.toUInt32 >>> ((8 : Int32) &&& 31).toUInt32).toInt32))])
      refine own_st (fun t k => XS.sipush X0.here hx rfl (hb hby at_49) k) ?_
      refine own_st (fun t k => XS.iand X0.here hx rfl (hb hby at_52) rfl k) ?_
      show own_Go _ _ _ _ s₁ (mkF m 53 #[.val (.int p0), .val (.int p1), .val (.int p2), .val (.int p3), .val (.int p4), .val (.int p5), .val (.int (1 : Int32)), .val (.int (0 : Int32)), .val (.int ((p4 &&& (3 : Int32)) % (3 : Int32))), .val (.int ((p0 &&& (255 : Int32)).toUInt32.toUInt16.toUInt32.toInt32)), .unset, .unset, .unset, .unset, .unset, .unset, .unset, .unset, .unset, .unset, .unset, .unset, .unset] [(.int (((p0.toUInt32 >>> ((8 : Int32) &&& 31).toUInt32).toInt32) &&& (255 : Int32)))])
      refine own_st (fun t k => XS.i2c X0.here hx rfl (hb hby at_53) rfl k) ?_
      show own_Go _ _ _ _ s₁ (mkF m 54 #[.val (.int p0), .val (.int p1), .val (.int p2), .val (.int p3), .val (.int p4), .val (.int p5), .val (.int (1 : Int32)), .val (.int (0 : Int32)), .val (.int ((p4 &&& (3 : Int32)) % (3 : Int32))), .val (.int ((p0 &&& (255 : Int32)).toUInt32.toUInt16.toUInt32.toInt32)), .unset, .unset, .unset, .unset, .unset, .unset, .unset, .unset, .unset, .unset, .unset, .unset, .unset] [(.int ((((p0.toUInt32 >>> ((8 : Int32) &&& 31).toUInt32).toInt32) &&& (255 : Int32)).toUInt32.toUInt16.toUInt32.toInt32))])
      refine own_st (fun t k => XS.istore X0.here hx rfl (hb hby at_54) rfl (l' := #[.val (.int p0), .val (.int p1), .val (.int p2), .val (.int p3), .val (.int p4), .val (.int p5), .val (.int (1 : Int32)), .val (.int (0 : Int32)), .val (.int ((p4 &&& (3 : Int32)) % (3 : Int32))), .val (.int ((p0 &&& (255 : Int32)).toUInt32.toUInt16.toUInt32.toInt32)), .val (.int ((((p0.toUInt32 >>> ((8 : Int32) &&& 31).toUInt32).toInt32) &&& (255 : Int32)).toUInt32.toUInt16.toUInt32.toInt32)), .unset, .unset, .unset, .unset, .unset, .unset, .unset, .unset, .unset, .unset, .unset, .unset]) rfl k) ?_
      show own_Go _ _ _ _ s₁ (mkF m 56 #[.val (.int p0), .val (.int p1), .val (.int p2), .val (.int p3), .val (.int p4), .val (.int p5), .val (.int (1 : Int32)), .val (.int (0 : Int32)), .val (.int ((p4 &&& (3 : Int32)) % (3 : Int32))), .val (.int ((p0 &&& (255 : Int32)).toUInt32.toUInt16.toUInt32.toInt32)), .val (.int ((((p0.toUInt32 >>> ((8 : Int32) &&& 31).toUInt32).toInt32) &&& (255 : Int32)).toUInt32.toUInt16.toUInt32.toInt32)), .unset, .unset, .unset, .unset, .unset, .unset, .unset, .unset, .unset, .unset, .unset, .unset] [])
      refine own_st (fun t k => XS.iload X0.here hx rfl (hb hby at_56) rfl k) ?_
      refine own_st (fun t k => XS.ifNo X0.here hx rfl (hb hby at_58) rfl ((if0 _ _).trans (feq (by decide : ¬ ((1 : Int32) = (0 : Int32)))).1) k) ?_
      show own_Go _ _ _ _ s₁ (mkF m 61 #[.val (.int p0), .val (.int p1), .val (.int p2), .val (.int p3), .val (.int p4), .val (.int p5), .val (.int (1 : Int32)), .val (.int (0 : Int32)), .val (.int ((p4 &&& (3 : Int32)) % (3 : Int32))), .val (.int ((p0 &&& (255 : Int32)).toUInt32.toUInt16.toUInt32.toInt32)), .val (.int ((((p0.toUInt32 >>> ((8 : Int32) &&& 31).toUInt32).toInt32) &&& (255 : Int32)).toUInt32.toUInt16.toUInt32.toInt32)), .unset, .unset, .unset, .unset, .unset, .unset, .unset, .unset, .unset, .unset, .unset, .unset] [])
      refine own_st (fun t k => XS.iload X0.here hx rfl (hb hby at_61) rfl k) ?_
      refine own_st (fun t k => XS.goto X0.here hx rfl (pc0 := 63) (pc' := 74) rfl (hb hby at_63) (by decide) (by decide) k) ?_
      show own_Go _ _ _ _ s₁ (mkF m 74 #[.val (.int p0), .val (.int p1), .val (.int p2), .val (.int p3), .val (.int p4), .val (.int p5), .val (.int (1 : Int32)), .val (.int (0 : Int32)), .val (.int ((p4 &&& (3 : Int32)) % (3 : Int32))), .val (.int ((p0 &&& (255 : Int32)).toUInt32.toUInt16.toUInt32.toInt32)), .val (.int ((((p0.toUInt32 >>> ((8 : Int32) &&& 31).toUInt32).toInt32) &&& (255 : Int32)).toUInt32.toUInt16.toUInt32.toInt32)), .unset, .unset, .unset, .unset, .unset, .unset, .unset, .unset, .unset, .unset, .unset, .unset] [(.int ((p4 &&& (3 : Int32)) % (3 : Int32)))])
      refine own_st (fun t k => XS.istore X0.here hx rfl (hb hby at_74) rfl (l' := #[.val (.int p0), .val (.int p1), .val (.int p2), .val (.int p3), .val (.int p4), .val (.int p5), .val (.int (1 : Int32)), .val (.int (0 : Int32)), .val (.int ((p4 &&& (3 : Int32)) % (3 : Int32))), .val (.int ((p0 &&& (255 : Int32)).toUInt32.toUInt16.toUInt32.toInt32)), .val (.int ((((p0.toUInt32 >>> ((8 : Int32) &&& 31).toUInt32).toInt32) &&& (255 : Int32)).toUInt32.toUInt16.toUInt32.toInt32)), .val (.int ((p4 &&& (3 : Int32)) % (3 : Int32))), .unset, .unset, .unset, .unset, .unset, .unset, .unset, .unset, .unset, .unset, .unset]) rfl k) ?_
      show own_Go _ _ _ _ s₁ (mkF m 76 #[.val (.int p0), .val (.int p1), .val (.int p2), .val (.int p3), .val (.int p4), .val (.int p5), .val (.int (1 : Int32)), .val (.int (0 : Int32)), .val (.int ((p4 &&& (3 : Int32)) % (3 : Int32))), .val (.int ((p0 &&& (255 : Int32)).toUInt32.toUInt16.toUInt32.toInt32)), .val (.int ((((p0.toUInt32 >>> ((8 : Int32) &&& 31).toUInt32).toInt32) &&& (255 : Int32)).toUInt32.toUInt16.toUInt32.toInt32)), .val (.int ((p4 &&& (3 : Int32)) % (3 : Int32))), .unset, .unset, .unset, .unset, .unset, .unset, .unset, .unset, .unset, .unset, .unset] [])
      refine own_st (fun t k => XS.iload X0.here hx rfl (hb hby at_76) rfl k) ?_
      refine own_st (fun t k => XS.ifNo X0.here hx rfl (hb hby at_78) rfl ((if0 _ _).trans (feq (by decide : ¬ ((1 : Int32) = (0 : Int32)))).1) k) ?_
      show own_Go _ _ _ _ s₁ (mkF m 81 #[.val (.int p0), .val (.int p1), .val (.int p2), .val (.int p3), .val (.int p4), .val (.int p5), .val (.int (1 : Int32)), .val (.int (0 : Int32)), .val (.int ((p4 &&& (3 : Int32)) % (3 : Int32))), .val (.int ((p0 &&& (255 : Int32)).toUInt32.toUInt16.toUInt32.toInt32)), .val (.int ((((p0.toUInt32 >>> ((8 : Int32) &&& 31).toUInt32).toInt32) &&& (255 : Int32)).toUInt32.toUInt16.toUInt32.toInt32)), .val (.int ((p4 &&& (3 : Int32)) % (3 : Int32))), .unset, .unset, .unset, .unset, .unset, .unset, .unset, .unset, .unset, .unset, .unset] [])
      refine own_st (fun t k => XS.iload X0.here hx rfl (hb hby at_81) rfl k) ?_
      refine own_st (fun t k => XS.goto X0.here hx rfl (pc0 := 83) (pc' := 92) rfl (hb hby at_83) (by decide) (by decide) k) ?_
      show own_Go _ _ _ _ s₁ (mkF m 92 #[.val (.int p0), .val (.int p1), .val (.int p2), .val (.int p3), .val (.int p4), .val (.int p5), .val (.int (1 : Int32)), .val (.int (0 : Int32)), .val (.int ((p4 &&& (3 : Int32)) % (3 : Int32))), .val (.int ((p0 &&& (255 : Int32)).toUInt32.toUInt16.toUInt32.toInt32)), .val (.int ((((p0.toUInt32 >>> ((8 : Int32) &&& 31).toUInt32).toInt32) &&& (255 : Int32)).toUInt32.toUInt16.toUInt32.toInt32)), .val (.int ((p4 &&& (3 : Int32)) % (3 : Int32))), .unset, .unset, .unset, .unset, .unset, .unset, .unset, .unset, .unset, .unset, .unset] [(.int ((p0 &&& (255 : Int32)).toUInt32.toUInt16.toUInt32.toInt32))])
      refine own_st (fun t k => XS.istore X0.here hx rfl (hb hby at_92) rfl (l' := #[.val (.int p0), .val (.int p1), .val (.int p2), .val (.int p3), .val (.int p4), .val (.int p5), .val (.int (1 : Int32)), .val (.int (0 : Int32)), .val (.int ((p4 &&& (3 : Int32)) % (3 : Int32))), .val (.int ((p0 &&& (255 : Int32)).toUInt32.toUInt16.toUInt32.toInt32)), .val (.int ((((p0.toUInt32 >>> ((8 : Int32) &&& 31).toUInt32).toInt32) &&& (255 : Int32)).toUInt32.toUInt16.toUInt32.toInt32)), .val (.int ((p4 &&& (3 : Int32)) % (3 : Int32))), .val (.int ((p0 &&& (255 : Int32)).toUInt32.toUInt16.toUInt32.toInt32)), .unset, .unset, .unset, .unset, .unset, .unset, .unset, .unset, .unset, .unset]) rfl k) ?_
      show own_Go _ _ _ _ s₁ (mkF m 94 #[.val (.int p0), .val (.int p1), .val (.int p2), .val (.int p3), .val (.int p4), .val (.int p5), .val (.int (1 : Int32)), .val (.int (0 : Int32)), .val (.int ((p4 &&& (3 : Int32)) % (3 : Int32))), .val (.int ((p0 &&& (255 : Int32)).toUInt32.toUInt16.toUInt32.toInt32)), .val (.int ((((p0.toUInt32 >>> ((8 : Int32) &&& 31).toUInt32).toInt32) &&& (255 : Int32)).toUInt32.toUInt16.toUInt32.toInt32)), .val (.int ((p4 &&& (3 : Int32)) % (3 : Int32))), .val (.int ((p0 &&& (255 : Int32)).toUInt32.toUInt16.toUInt32.toInt32)), .unset, .unset, .unset, .unset, .unset, .unset, .unset, .unset, .unset, .unset] [])
      refine own_st (fun t k => XS.iload X0.here hx rfl (hb hby at_94) rfl k) ?_
      refine own_st (fun t k => XS.ifNo X0.here hx rfl (hb hby at_96) rfl ((if0 _ _).trans (feq (by decide : ¬ ((1 : Int32) = (0 : Int32)))).1) k) ?_
      show own_Go _ _ _ _ s₁ (mkF m 99 #[.val (.int p0), .val (.int p1), .val (.int p2), .val (.int p3), .val (.int p4), .val (.int p5), .val (.int (1 : Int32)), .val (.int (0 : Int32)), .val (.int ((p4 &&& (3 : Int32)) % (3 : Int32))), .val (.int ((p0 &&& (255 : Int32)).toUInt32.toUInt16.toUInt32.toInt32)), .val (.int ((((p0.toUInt32 >>> ((8 : Int32) &&& 31).toUInt32).toInt32) &&& (255 : Int32)).toUInt32.toUInt16.toUInt32.toInt32)), .val (.int ((p4 &&& (3 : Int32)) % (3 : Int32))), .val (.int ((p0 &&& (255 : Int32)).toUInt32.toUInt16.toUInt32.toInt32)), .unset, .unset, .unset, .unset, .unset, .unset, .unset, .unset, .unset, .unset] [])
      refine own_st (fun t k => XS.iload X0.here hx rfl (hb hby at_99) rfl k) ?_
      refine own_st (fun t k => XS.goto X0.here hx rfl (pc0 := 101) (pc' := 113) rfl (hb hby at_101) (by decide) (by decide) k) ?_
      show own_Go _ _ _ _ s₁ (mkF m 113 #[.val (.int p0), .val (.int p1), .val (.int p2), .val (.int p3), .val (.int p4), .val (.int p5), .val (.int (1 : Int32)), .val (.int (0 : Int32)), .val (.int ((p4 &&& (3 : Int32)) % (3 : Int32))), .val (.int ((p0 &&& (255 : Int32)).toUInt32.toUInt16.toUInt32.toInt32)), .val (.int ((((p0.toUInt32 >>> ((8 : Int32) &&& 31).toUInt32).toInt32) &&& (255 : Int32)).toUInt32.toUInt16.toUInt32.toInt32)), .val (.int ((p4 &&& (3 : Int32)) % (3 : Int32))), .val (.int ((p0 &&& (255 : Int32)).toUInt32.toUInt16.toUInt32.toInt32)), .unset, .unset, .unset, .unset, .unset, .unset, .unset, .unset, .unset, .unset] [(.int ((((p0.toUInt32 >>> ((8 : Int32) &&& 31).toUInt32).toInt32) &&& (255 : Int32)).toUInt32.toUInt16.toUInt32.toInt32))])
      refine own_st (fun t k => XS.istore X0.here hx rfl (hb hby at_113) rfl (l' := #[.val (.int p0), .val (.int p1), .val (.int p2), .val (.int p3), .val (.int p4), .val (.int p5), .val (.int (1 : Int32)), .val (.int (0 : Int32)), .val (.int ((p4 &&& (3 : Int32)) % (3 : Int32))), .val (.int ((p0 &&& (255 : Int32)).toUInt32.toUInt16.toUInt32.toInt32)), .val (.int ((((p0.toUInt32 >>> ((8 : Int32) &&& 31).toUInt32).toInt32) &&& (255 : Int32)).toUInt32.toUInt16.toUInt32.toInt32)), .val (.int ((p4 &&& (3 : Int32)) % (3 : Int32))), .val (.int ((p0 &&& (255 : Int32)).toUInt32.toUInt16.toUInt32.toInt32)), .val (.int ((((p0.toUInt32 >>> ((8 : Int32) &&& 31).toUInt32).toInt32) &&& (255 : Int32)).toUInt32.toUInt16.toUInt32.toInt32)), .unset, .unset, .unset, .unset, .unset, .unset, .unset, .unset, .unset]) rfl k) ?_
      show own_Go _ _ _ _ s₁ (mkF m 115 #[.val (.int p0), .val (.int p1), .val (.int p2), .val (.int p3), .val (.int p4), .val (.int p5), .val (.int (1 : Int32)), .val (.int (0 : Int32)), .val (.int ((p4 &&& (3 : Int32)) % (3 : Int32))), .val (.int ((p0 &&& (255 : Int32)).toUInt32.toUInt16.toUInt32.toInt32)), .val (.int ((((p0.toUInt32 >>> ((8 : Int32) &&& 31).toUInt32).toInt32) &&& (255 : Int32)).toUInt32.toUInt16.toUInt32.toInt32)), .val (.int ((p4 &&& (3 : Int32)) % (3 : Int32))), .val (.int ((p0 &&& (255 : Int32)).toUInt32.toUInt16.toUInt32.toInt32)), .val (.int ((((p0.toUInt32 >>> ((8 : Int32) &&& 31).toUInt32).toInt32) &&& (255 : Int32)).toUInt32.toUInt16.toUInt32.toInt32)), .unset, .unset, .unset, .unset, .unset, .unset, .unset, .unset, .unset] [])
      exact JG115 (1 : Int32) (0 : Int32) ((p4 &&& (3 : Int32)) % (3 : Int32)) ((p0 &&& (255 : Int32)).toUInt32.toUInt16.toUInt32.toInt32) ((((p0.toUInt32 >>> ((8 : Int32) &&& 31).toUInt32).toInt32) &&& (255 : Int32)).toUInt32.toUInt16.toUInt32.toInt32) ((p4 &&& (3 : Int32)) % (3 : Int32)) ((p0 &&& (255 : Int32)).toUInt32.toUInt16.toUInt32.toInt32) ((((p0.toUInt32 >>> ((8 : Int32) &&& 31).toUInt32).toInt32) &&& (255 : Int32)).toUInt32.toUInt16.toUInt32.toInt32) s₁ X0 e0 (own_len _) (own_len _) (own_ch_of _) (own_ch_of _) (own_ch_of _) (own_ch_of _)
    ·
      refine own_st (fun t k => XS.ifNo X0.here hx rfl (hb hby at_19) rfl ((if0 _ _).trans (feq c19_228).1) k) ?_
      show own_Go _ _ _ _ s₁ (mkF m 22 #[.val (.int p0), .val (.int p1), .val (.int p2), .val (.int p3), .val (.int p4), .val (.int p5), .val (.int (1 : Int32)), .unset, .unset, .unset, .unset, .unset, .unset, .unset, .unset, .unset, .unset, .unset, .unset, .unset, .unset, .unset, .unset] [])
      refine own_st (fun t k => XS.iconst X0.here hx rfl (hb hby at_22) k) ?_
      refine own_st (fun t k => XS.goto X0.here hx rfl (pc0 := 23) (pc' := 27) rfl (hb hby at_23) (by decide) (by decide) k) ?_
      show own_Go _ _ _ _ s₁ (mkF m 27 #[.val (.int p0), .val (.int p1), .val (.int p2), .val (.int p3), .val (.int p4), .val (.int p5), .val (.int (1 : Int32)), .unset, .unset, .unset, .unset, .unset, .unset, .unset, .unset, .unset, .unset, .unset, .unset, .unset, .unset, .unset, .unset] [(.int (1 : Int32))])
      refine own_st (fun t k => XS.istore X0.here hx rfl (hb hby at_27) rfl (l' := #[.val (.int p0), .val (.int p1), .val (.int p2), .val (.int p3), .val (.int p4), .val (.int p5), .val (.int (1 : Int32)), .val (.int (1 : Int32)), .unset, .unset, .unset, .unset, .unset, .unset, .unset, .unset, .unset, .unset, .unset, .unset, .unset, .unset, .unset]) rfl k) ?_
      show own_Go _ _ _ _ s₁ (mkF m 29 #[.val (.int p0), .val (.int p1), .val (.int p2), .val (.int p3), .val (.int p4), .val (.int p5), .val (.int (1 : Int32)), .val (.int (1 : Int32)), .unset, .unset, .unset, .unset, .unset, .unset, .unset, .unset, .unset, .unset, .unset, .unset, .unset, .unset, .unset] [])
      refine own_st (fun t k => XS.iload X0.here hx rfl (hb hby at_29) rfl k) ?_
      refine own_st (fun t k => XS.iconst X0.here hx rfl (hb hby at_31) k) ?_
      refine own_st (fun t k => XS.iand X0.here hx rfl (hb hby at_32) rfl k) ?_
      show own_Go _ _ _ _ s₁ (mkF m 33 #[.val (.int p0), .val (.int p1), .val (.int p2), .val (.int p3), .val (.int p4), .val (.int p5), .val (.int (1 : Int32)), .val (.int (1 : Int32)), .unset, .unset, .unset, .unset, .unset, .unset, .unset, .unset, .unset, .unset, .unset, .unset, .unset, .unset, .unset] [(.int (p4 &&& (3 : Int32)))])
      refine own_st (fun t k => XS.iconst X0.here hx rfl (hb hby at_33) k) ?_
      show own_Go _ _ _ _ s₁ (mkF m 34 #[.val (.int p0), .val (.int p1), .val (.int p2), .val (.int p3), .val (.int p4), .val (.int p5), .val (.int (1 : Int32)), .val (.int (1 : Int32)), .unset, .unset, .unset, .unset, .unset, .unset, .unset, .unset, .unset, .unset, .unset, .unset, .unset, .unset, .unset] [(.int (3 : Int32)), (.int (p4 &&& (3 : Int32)))])
      refine own_st (fun t k => iremM X0 hx rfl (hb hby at_34) rfl (by decide) k) ?_
      show own_Go _ _ _ _ s₁ (mkF m 35 #[.val (.int p0), .val (.int p1), .val (.int p2), .val (.int p3), .val (.int p4), .val (.int p5), .val (.int (1 : Int32)), .val (.int (1 : Int32)), .unset, .unset, .unset, .unset, .unset, .unset, .unset, .unset, .unset, .unset, .unset, .unset, .unset, .unset, .unset] [(.int ((p4 &&& (3 : Int32)) % (3 : Int32)))])
      refine own_st (fun t k => XS.istore X0.here hx rfl (hb hby at_35) rfl (l' := #[.val (.int p0), .val (.int p1), .val (.int p2), .val (.int p3), .val (.int p4), .val (.int p5), .val (.int (1 : Int32)), .val (.int (1 : Int32)), .val (.int ((p4 &&& (3 : Int32)) % (3 : Int32))), .unset, .unset, .unset, .unset, .unset, .unset, .unset, .unset, .unset, .unset, .unset, .unset, .unset, .unset]) rfl k) ?_
      show own_Go _ _ _ _ s₁ (mkF m 37 #[.val (.int p0), .val (.int p1), .val (.int p2), .val (.int p3), .val (.int p4), .val (.int p5), .val (.int (1 : Int32)), .val (.int (1 : Int32)), .val (.int ((p4 &&& (3 : Int32)) % (3 : Int32))), .unset, .unset, .unset, .unset, .unset, .unset, .unset, .unset, .unset, .unset, .unset, .unset, .unset, .unset] [])
      refine own_st (fun t k => XS.iloadN X0.here hx rfl (hb hby at_37) rfl k) ?_
      refine own_st (fun t k => XS.sipush X0.here hx rfl (hb hby at_38) k) ?_
      refine own_st (fun t k => XS.iand X0.here hx rfl (hb hby at_41) rfl k) ?_
      show own_Go _ _ _ _ s₁ (mkF m 42 #[.val (.int p0), .val (.int p1), .val (.int p2), .val (.int p3), .val (.int p4), .val (.int p5), .val (.int (1 : Int32)), .val (.int (1 : Int32)), .val (.int ((p4 &&& (3 : Int32)) % (3 : Int32))), .unset, .unset, .unset, .unset, .unset, .unset, .unset, .unset, .unset, .unset, .unset, .unset, .unset, .unset] [(.int (p0 &&& (255 : Int32)))])
      refine own_st (fun t k => XS.i2c X0.here hx rfl (hb hby at_42) rfl k) ?_
      show own_Go _ _ _ _ s₁ (mkF m 43 #[.val (.int p0), .val (.int p1), .val (.int p2), .val (.int p3), .val (.int p4), .val (.int p5), .val (.int (1 : Int32)), .val (.int (1 : Int32)), .val (.int ((p4 &&& (3 : Int32)) % (3 : Int32))), .unset, .unset, .unset, .unset, .unset, .unset, .unset, .unset, .unset, .unset, .unset, .unset, .unset, .unset] [(.int ((p0 &&& (255 : Int32)).toUInt32.toUInt16.toUInt32.toInt32))])
      refine own_st (fun t k => XS.istore X0.here hx rfl (hb hby at_43) rfl (l' := #[.val (.int p0), .val (.int p1), .val (.int p2), .val (.int p3), .val (.int p4), .val (.int p5), .val (.int (1 : Int32)), .val (.int (1 : Int32)), .val (.int ((p4 &&& (3 : Int32)) % (3 : Int32))), .val (.int ((p0 &&& (255 : Int32)).toUInt32.toUInt16.toUInt32.toInt32)), .unset, .unset, .unset, .unset, .unset, .unset, .unset, .unset, .unset, .unset, .unset, .unset, .unset]) rfl k) ?_
      show own_Go _ _ _ _ s₁ (mkF m 45 #[.val (.int p0), .val (.int p1), .val (.int p2), .val (.int p3), .val (.int p4), .val (.int p5), .val (.int (1 : Int32)), .val (.int (1 : Int32)), .val (.int ((p4 &&& (3 : Int32)) % (3 : Int32))), .val (.int ((p0 &&& (255 : Int32)).toUInt32.toUInt16.toUInt32.toInt32)), .unset, .unset, .unset, .unset, .unset, .unset, .unset, .unset, .unset, .unset, .unset, .unset, .unset] [])
      refine own_st (fun t k => XS.iloadN X0.here hx rfl (hb hby at_45) rfl k) ?_
      refine own_st (fun t k => XS.bipush X0.here hx rfl (hb hby at_46) k) ?_
      show own_Go _ _ _ _ s₁ (mkF m 48 #[.val (.int p0), .val (.int p1), .val (.int p2), .val (.int p3), .val (.int p4), .val (.int p5), .val (.int (1 : Int32)), .val (.int (1 : Int32)), .val (.int ((p4 &&& (3 : Int32)) % (3 : Int32))), .val (.int ((p0 &&& (255 : Int32)).toUInt32.toUInt16.toUInt32.toInt32)), .unset, .unset, .unset, .unset, .unset, .unset, .unset, .unset, .unset, .unset, .unset, .unset, .unset] [(.int (8 : Int32)), (.int p0)])
      refine own_st (fun t k => XS.iushr X0.here hx rfl (hb hby at_48) rfl k) ?_
      show own_Go _ _ _ _ s₁ (mkF m 49 #[.val (.int p0), .val (.int p1), .val (.int p2), .val (.int p3), .val (.int p4), .val (.int p5), .val (.int (1 : Int32)), .val (.int (1 : Int32)), .val (.int ((p4 &&& (3 : Int32)) % (3 : Int32))), .val (.int ((p0 &&& (255 : Int32)).toUInt32.toUInt16.toUInt32.toInt32)), .unset, .unset, .unset, .unset, .unset, .unset, .unset, .unset, .unset, .unset, .unset, .unset, .unset] [(.int ((p0.toUInt32 >>> ((8 : Int32) &&& 31).toUInt32).toInt32))])
      refine own_st (fun t k => XS.sipush X0.here hx rfl (hb hby at_49) k) ?_
      refine own_st (fun t k => XS.iand X0.here hx rfl (hb hby at_52) rfl k) ?_
      show own_Go _ _ _ _ s₁ (mkF m 53 #[.val (.int p0), .val (.int p1), .val (.int p2), .val (.int p3), .val (.int p4), .val (.int p5), .val (.int (1 : Int32)), .val (.int (1 : Int32)), .val (.int ((p4 &&& (3 : Int32)) % (3 : Int32))), .val (.int ((p0 &&& (255 : Int32)).toUInt32.toUInt16.toUInt32.toInt32)), .unset, .unset, .unset, .unset, .unset, .unset, .unset, .unset, .unset, .unset, .unset, .unset, .unset] [(.int (((p0.toUInt32 >>> ((8 : Int32) &&& 31).toUInt32).toInt32) &&& (255 : Int32)))])
      refine own_st (fun t k => XS.i2c X0.here hx rfl (hb hby at_53) rfl k) ?_
      show own_Go _ _ _ _ s₁ (mkF m 54 #[.val (.int p0), .val (.int p1), .val (.int p2), .val (.int p3), .val (.int p4), .val (.int p5), .val (.int (1 : Int32)), .val (.int (1 : Int32)), .val (.int ((p4 &&& (3 : Int32)) % (3 : Int32))), .val (.int ((p0 &&& (255 : Int32)).toUInt32.toUInt16.toUInt32.toInt32)), .unset, .unset, .unset, .unset, .unset, .unset, .unset, .unset, .unset, .unset, .unset, .unset, .unset] [(.int ((((p0.toUInt32 >>> ((8 : Int32) &&& 31).toUInt32).toInt32) &&& (255 : Int32)).toUInt32.toUInt16.toUInt32.toInt32))])
      refine own_st (fun t k => XS.istore X0.here hx rfl (hb hby at_54) rfl (l' := #[.val (.int p0), .val (.int p1), .val (.int p2), .val (.int p3), .val (.int p4), .val (.int p5), .val (.int (1 : Int32)), .val (.int (1 : Int32)), .val (.int ((p4 &&& (3 : Int32)) % (3 : Int32))), .val (.int ((p0 &&& (255 : Int32)).toUInt32.toUInt16.toUInt32.toInt32)), .val (.int ((((p0.toUInt32 >>> ((8 : Int32) &&& 31).toUInt32).toInt32) &&& (255 : Int32)).toUInt32.toUInt16.toUInt32.toInt32)), .unset, .unset, .unset, .unset, .unset, .unset, .unset, .unset, .unset, .unset, .unset, .unset]) rfl k) ?_
      show own_Go _ _ _ _ s₁ (mkF m 56 #[.val (.int p0), .val (.int p1), .val (.int p2), .val (.int p3), .val (.int p4), .val (.int p5), .val (.int (1 : Int32)), .val (.int (1 : Int32)), .val (.int ((p4 &&& (3 : Int32)) % (3 : Int32))), .val (.int ((p0 &&& (255 : Int32)).toUInt32.toUInt16.toUInt32.toInt32)), .val (.int ((((p0.toUInt32 >>> ((8 : Int32) &&& 31).toUInt32).toInt32) &&& (255 : Int32)).toUInt32.toUInt16.toUInt32.toInt32)), .unset, .unset, .unset, .unset, .unset, .unset, .unset, .unset, .unset, .unset, .unset, .unset] [])
      refine own_st (fun t k => XS.iload X0.here hx rfl (hb hby at_56) rfl k) ?_
      refine own_st (fun t k => XS.ifNo X0.here hx rfl (hb hby at_58) rfl ((if0 _ _).trans (feq (by decide : ¬ ((1 : Int32) = (0 : Int32)))).1) k) ?_
      show own_Go _ _ _ _ s₁ (mkF m 61 #[.val (.int p0), .val (.int p1), .val (.int p2), .val (.int p3), .val (.int p4), .val (.int p5), .val (.int (1 : Int32)), .val (.int (1 : Int32)), .val (.int ((p4 &&& (3 : Int32)) % (3 : Int32))), .val (.int ((p0 &&& (255 : Int32)).toUInt32.toUInt16.toUInt32.toInt32)), .val (.int ((((p0.toUInt32 >>> ((8 : Int32) &&& 31).toUInt32).toInt32) &&& (255 : Int32)).toUInt32.toUInt16.toUInt32.toInt32)), .unset, .unset, .unset, .unset, .unset, .unset, .unset, .unset, .unset, .unset, .unset, .unset] [])
      refine own_st (fun t k => XS.iload X0.here hx rfl (hb hby at_61) rfl k) ?_
      refine own_st (fun t k => XS.goto X0.here hx rfl (pc0 := 63) (pc' := 74) rfl (hb hby at_63) (by decide) (by decide) k) ?_
      show own_Go _ _ _ _ s₁ (mkF m 74 #[.val (.int p0), .val (.int p1), .val (.int p2), .val (.int p3), .val (.int p4), .val (.int p5), .val (.int (1 : Int32)), .val (.int (1 : Int32)), .val (.int ((p4 &&& (3 : Int32)) % (3 : Int32))), .val (.int ((p0 &&& (255 : Int32)).toUInt32.toUInt16.toUInt32.toInt32)), .val (.int ((((p0.toUInt32 >>> ((8 : Int32) &&& 31).toUInt32).toInt32) &&& (255 : Int32)).toUInt32.toUInt16.toUInt32.toInt32)), .unset, .unset, .unset, .unset, .unset, .unset, .unset, .unset, .unset, .unset, .unset, .unset] [(.int ((p4 &&& (3 : Int32)) % (3 : Int32)))])
      refine own_st (fun t k => XS.istore X0.here hx rfl (hb hby at_74) rfl (l' := #[.val (.int p0), .val (.int p1), .val (.int p2), .val (.int p3), .val (.int p4), .val (.int p5), .val (.int (1 : Int32)), .val (.int (1 : Int32)), .val (.int ((p4 &&& (3 : Int32)) % (3 : Int32))), .val (.int ((p0 &&& (255 : Int32)).toUInt32.toUInt16.toUInt32.toInt32)), .val (.int ((((p0.toUInt32 >>> ((8 : Int32) &&& 31).toUInt32).toInt32) &&& (255 : Int32)).toUInt32.toUInt16.toUInt32.toInt32)), .val (.int ((p4 &&& (3 : Int32)) % (3 : Int32))), .unset, .unset, .unset, .unset, .unset, .unset, .unset, .unset, .unset, .unset, .unset]) rfl k) ?_
      show own_Go _ _ _ _ s₁ (mkF m 76 #[.val (.int p0), .val (.int p1), .val (.int p2), .val (.int p3), .val (.int p4), .val (.int p5), .val (.int (1 : Int32)), .val (.int (1 : Int32)), .val (.int ((p4 &&& (3 : Int32)) % (3 : Int32))), .val (.int ((p0 &&& (255 : Int32)).toUInt32.toUInt16.toUInt32.toInt32)), .val (.int ((((p0.toUInt32 >>> ((8 : Int32) &&& 31).toUInt32).toInt32) &&& (255 : Int32)).toUInt32.toUInt16.toUInt32.toInt32)), .val (.int ((p4 &&& (3 : Int32)) % (3 : Int32))), .unset, .unset, .unset, .unset, .unset, .unset, .unset, .unset, .unset, .unset, .unset] [])
      refine own_st (fun t k => XS.iload X0.here hx rfl (hb hby at_76) rfl k) ?_
      refine own_st (fun t k => XS.ifNo X0.here hx rfl (hb hby at_78) rfl ((if0 _ _).trans (feq (by decide : ¬ ((1 : Int32) = (0 : Int32)))).1) k) ?_
      show own_Go _ _ _ _ s₁ (mkF m 81 #[.val (.int p0), .val (.int p1), .val (.int p2), .val (.int p3), .val (.int p4), .val (.int p5), .val (.int (1 : Int32)), .val (.int (1 : Int32)), .val (.int ((p4 &&& (3 : Int32)) % (3 : Int32))), .val (.int ((p0 &&& (255 : Int32)).toUInt32.toUInt16.toUInt32.toInt32)), .val (.int ((((p0.toUInt32 >>> ((8 : Int32) &&& 31).toUInt32).toInt32) &&& (255 : Int32)).toUInt32.toUInt16.toUInt32.toInt32)), .val (.int ((p4 &&& (3 : Int32)) % (3 : Int32))), .unset, .unset, .unset, .unset, .unset, .unset, .unset, .unset, .unset, .unset, .unset] [])
      refine own_st (fun t k => XS.iload X0.here hx rfl (hb hby at_81) rfl k) ?_
      refine own_st (fun t k => XS.goto X0.here hx rfl (pc0 := 83) (pc' := 92) rfl (hb hby at_83) (by decide) (by decide) k) ?_
      show own_Go _ _ _ _ s₁ (mkF m 92 #[.val (.int p0), .val (.int p1), .val (.int p2), .val (.int p3), .val (.int p4), .val (.int p5), .val (.int (1 : Int32)), .val (.int (1 : Int32)), .val (.int ((p4 &&& (3 : Int32)) % (3 : Int32))), .val (.int ((p0 &&& (255 : Int32)).toUInt32.toUInt16.toUInt32.toInt32)), .val (.int ((((p0.toUInt32 >>> ((8 : Int32) &&& 31).toUInt32).toInt32) &&& (255 : Int32)).toUInt32.toUInt16.toUInt32.toInt32)), .val (.int ((p4 &&& (3 : Int32)) % (3 : Int32))), .unset, .unset, .unset, .unset, .unset, .unset, .unset, .unset, .unset, .unset, .unset] [(.int ((p0 &&& (255 : Int32)).toUInt32.toUInt16.toUInt32.toInt32))])
      refine own_st (fun t k => XS.istore X0.here hx rfl (hb hby at_92) rfl (l' := #[.val (.int p0), .val (.int p1), .val (.int p2), .val (.int p3), .val (.int p4), .val (.int p5), .val (.int (1 : Int32)), .val (.int (1 : Int32)), .val (.int ((p4 &&& (3 : Int32)) % (3 : Int32))), .val (.int ((p0 &&& (255 : Int32)).toUInt32.toUInt16.toUInt32.toInt32)), .val (.int ((((p0.toUInt32 >>> ((8 : Int32) &&& 31).toUInt32).toInt32) &&& (255 : Int32)).toUInt32.toUInt16.toUInt32.toInt32)), .val (.int ((p4 &&& (3 : Int32)) % (3 : Int32))), .val (.int ((p0 &&& (255 : Int32)).toUInt32.toUInt16.toUInt32.toInt32)), .unset, .unset, .unset, .unset, .unset, .unset, .unset, .unset, .unset, .unset]) rfl k) ?_
      show own_Go _ _ _ _ s₁ (mkF m 94 #[.val (.int p0), .val (.int p1), .val (.int p2), .val (.int p3), .val (.int p4), .val (.int p5), .val (.int (1 : Int32)), .val (.int (1 : Int32)), .val (.int ((p4 &&& (3 : Int32)) % (3 : Int32))), .val (.int ((p0 &&& (255 : Int32)).toUInt32.toUInt16.toUInt32.toInt32)), .val (.int ((((p0.toUInt32 >>> ((8 : Int32) &&& 31).toUInt32).toInt32) &&& (255 : Int32)).toUInt32.toUInt16.toUInt32.toInt32)), .val (.int ((p4 &&& (3 : Int32)) % (3 : Int32))), .val (.int ((p0 &&& (255 : Int32)).toUInt32.toUInt16.toUInt32.toInt32)), .unset, .unset, .unset, .unset, .unset, .unset, .unset, .unset, .unset, .unset] [])
      refine own_st (fun t k => XS.iload X0.here hx rfl (hb hby at_94) rfl k) ?_
      refine own_st (fun t k => XS.ifNo X0.here hx rfl (hb hby at_96) rfl ((if0 _ _).trans (feq (by decide : ¬ ((1 : Int32) = (0 : Int32)))).1) k) ?_
      show own_Go _ _ _ _ s₁ (mkF m 99 #[.val (.int p0), .val (.int p1), .val (.int p2), .val (.int p3), .val (.int p4), .val (.int p5), .val (.int (1 : Int32)), .val (.int (1 : Int32)), .val (.int ((p4 &&& (3 : Int32)) % (3 : Int32))), .val (.int ((p0 &&& (255 : Int32)).toUInt32.toUInt16.toUInt32.toInt32)), .val (.int ((((p0.toUInt32 >>> ((8 : Int32) &&& 31).toUInt32).toInt32) &&& (255 : Int32)).toUInt32.toUInt16.toUInt32.toInt32)), .val (.int ((p4 &&& (3 : Int32)) % (3 : Int32))), .val (.int ((p0 &&& (255 : Int32)).toUInt32.toUInt16.toUInt32.toInt32)), .unset, .unset, .unset, .unset, .unset, .unset, .unset, .unset, .unset, .unset] [])
      refine own_st (fun t k => XS.iload X0.here hx rfl (hb hby at_99) rfl k) ?_
      refine own_st (fun t k => XS.goto X0.here hx rfl (pc0 := 101) (pc' := 113) rfl (hb hby at_101) (by decide) (by decide) k) ?_
      show own_Go _ _ _ _ s₁ (mkF m 113 #[.val (.int p0), .val (.int p1), .val (.int p2), .val (.int p3), .val (.int p4), .val (.int p5), .val (.int (1 : Int32)), .val (.int (1 : Int32)), .val (.int ((p4 &&& (3 : Int32)) % (3 : Int32))), .val (.int ((p0 &&& (255 : Int32)).toUInt32.toUInt16.toUInt32.toInt32)), .val (.int ((((p0.toUInt32 >>> ((8 : Int32) &&& 31).toUInt32).toInt32) &&& (255 : Int32)).toUInt32.toUInt16.toUInt32.toInt32)), .val (.int ((p4 &&& (3 : Int32)) % (3 : Int32))), .val (.int ((p0 &&& (255 : Int32)).toUInt32.toUInt16.toUInt32.toInt32)), .unset, .unset, .unset, .unset, .unset, .unset, .unset, .unset, .unset, .unset] [(.int ((((p0.toUInt32 >>> ((8 : Int32) &&& 31).toUInt32).toInt32) &&& (255 : Int32)).toUInt32.toUInt16.toUInt32.toInt32))])
      refine own_st (fun t k => XS.istore X0.here hx rfl (hb hby at_113) rfl (l' := #[.val (.int p0), .val (.int p1), .val (.int p2), .val (.int p3), .val (.int p4), .val (.int p5), .val (.int (1 : Int32)), .val (.int (1 : Int32)), .val (.int ((p4 &&& (3 : Int32)) % (3 : Int32))), .val (.int ((p0 &&& (255 : Int32)).toUInt32.toUInt16.toUInt32.toInt32)), .val (.int ((((p0.toUInt32 >>> ((8 : Int32) &&& 31).toUInt32).toInt32) &&& (255 : Int32)).toUInt32.toUInt16.toUInt32.toInt32)), .val (.int ((p4 &&& (3 : Int32)) % (3 : Int32))), .val (.int ((p0 &&& (255 : Int32)).toUInt32.toUInt16.toUInt32.toInt32)), .val (.int ((((p0.toUInt32 >>> ((8 : Int32) &&& 31).toUInt32).toInt32) &&& (255 : Int32)).toUInt32.toUInt16.toUInt32.toInt32)), .unset, .unset, .unset, .unset, .unset, .unset, .unset, .unset, .unset]) rfl k) ?_
      show own_Go _ _ _ _ s₁ (mkF m 115 #[.val (.int p0), .val (.int p1), .val (.int p2), .val (.int p3), .val (.int p4), .val (.int p5), .val (.int (1 : Int32)), .val (.int (1 : Int32)), .val (.int ((p4 &&& (3 : Int32)) % (3 : Int32))), .val (.int ((p0 &&& (255 : Int32)).toUInt32.toUInt16.toUInt32.toInt32)), .val (.int ((((p0.toUInt32 >>> ((8 : Int32) &&& 31).toUInt32).toInt32) &&& (255 : Int32)).toUInt32.toUInt16.toUInt32.toInt32)), .val (.int ((p4 &&& (3 : Int32)) % (3 : Int32))), .val (.int ((p0 &&& (255 : Int32)).toUInt32.toUInt16.toUInt32.toInt32)), .val (.int ((((p0.toUInt32 >>> ((8 : Int32) &&& 31).toUInt32).toInt32) &&& (255 : Int32)).toUInt32.toUInt16.toUInt32.toInt32)), .unset, .unset, .unset, .unset, .unset, .unset, .unset, .unset, .unset] [])
      exact JG115 (1 : Int32) (1 : Int32) ((p4 &&& (3 : Int32)) % (3 : Int32)) ((p0 &&& (255 : Int32)).toUInt32.toUInt16.toUInt32.toInt32) ((((p0.toUInt32 >>> ((8 : Int32) &&& 31).toUInt32).toInt32) &&& (255 : Int32)).toUInt32.toUInt16.toUInt32.toInt32) ((p4 &&& (3 : Int32)) % (3 : Int32)) ((p0 &&& (255 : Int32)).toUInt32.toUInt16.toUInt32.toInt32) ((((p0.toUInt32 >>> ((8 : Int32) &&& 31).toUInt32).toInt32) &&& (255 : Int32)).toUInt32.toUInt16.toUInt32.toInt32) s₁ X0 e0 (own_len _) (own_len _) (own_ch_of _) (own_ch_of _) (own_ch_of _) (own_ch_of _)
set_option maxRecDepth 65536 in
set_option maxHeartbeats 40000000 in
theorem comes_1 {Post : Tables → Env → Array Value → State → Outcome → State → Prop} (hpost : ∀ tb e args s v u, (limb_1_1.after args s (.returned v) u = true ∧ limb_1_2.after args s (.returned v) u = true ∧ True) → ReturnedEndW s (.returned v) u (Jvm.fieldLocs frame_1_writes args s ++ Jvm.arrayLocs frame_1_arrays args s ++ Jvm.staticLocs frame_1_statics s) 40 2176 → Post tb e args s (.returned v) u) :
    ArmFor flags0 classFile x code maxLocals ret World_1 tables_1 room_1 Calls_1 rest_1 Pre_1 Post := by
  intro l hfl _ _ p e ha hc hk s m args below hf hA hF happ hP
  obtain ⟨hcalls, hrest, hpre⟩ := hP
  obtain ⟨-, -, -, hnamed, -, -, -, hat⟩ := (Spec.applies_iff hf).mp happ
  obtain ⟨hg, hn⟩ := and_e (Cond.before_iff.mp (show (Jvm.Cond.and given_1 narrow_1).before args s = true from hpre))
  obtain ⟨gc, gr0⟩ := and_e hg
  obtain ⟨ga0, gr1⟩ := and_e gr0
  obtain ⟨ga1, gr2⟩ := and_e gr1
  obtain ⟨ga2, gr3⟩ := and_e gr2
  obtain ⟨ga3, gr4⟩ := and_e gr3
  obtain ⟨ga4, gr5⟩ := and_e gr4
  obtain ⟨w0, w1, w2, w3, w4, w5, rfl⟩ : ∃ w0 w1 w2 w3 w4 w5 : Value, args = #[w0, w1, w2, w3, w4, w5] := by
    have hs : args.size = 6 := by simpa [Cond.value, given_1] using gc
    obtain ⟨L⟩ := args
    match L, hs with
    | [w0, w1, w2, w3, w4, w5], _ => exact ⟨w0, w1, w2, w3, w4, w5, rfl⟩
  have hw := fun d (hd : d ∈ tables_1) => atoms_spec (ws := Jvm.Cond.code x code maxLocals ret :: tables_1) hat d (List.mem_cons_of_mem _ hd)
  have hfit : Fit s := fun {y c} hc i hi => by
    obtain ⟨ha, rfl⟩ := Array.getElem?_eq_some_iff.mp hc
    have q := List.all_eq_true.mp ((Array.all_eq_true_iff_forall_mem.mp hF) _ (Array.getElem_mem ha)) i (List.mem_range.mpr hi)
    simpa [Array.getElem?_eq_getElem hi] using q
  obtain ⟨i0, ei0⟩ := is_v ga0
  obtain rfl : w0 = (.int i0) := Option.some.inj ei0
  obtain ⟨i1, ei1⟩ := is_v ga1
  obtain rfl : w1 = (.int i1) := Option.some.inj ei1
  obtain ⟨i2, ei2⟩ := is_v ga2
  obtain rfl : w2 = (.int i2) := Option.some.inj ei2
  obtain ⟨i3, ei3⟩ := is_v ga3
  obtain rfl : w3 = (.int i3) := Option.some.inj ei3
  obtain ⟨i4, ei4⟩ := is_v ga4
  obtain rfl : w4 = (.int i4) := Option.some.inj ei4
  obtain ⟨i5, ei5⟩ := is_v gr5
  obtain rfl : w5 = (.int i5) := Option.some.inj ei5
  obtain ⟨r0, hr⟩ := and_e (Cond.before_iff.mp (show rest_1_c.before _ s = true from hrest))
  obtain ⟨r1, hr⟩ := and_e hr
  obtain ⟨r2, hr⟩ := and_e hr
  obtain ⟨r3, hr⟩ := and_e hr
  obtain ⟨r4, hr⟩ := and_e hr
  obtain ⟨r5, hr⟩ := and_e hr
  obtain ⟨r6, hr⟩ := and_e hr
  obtain ⟨r7, hr⟩ := and_e hr
  obtain ⟨r8, hr⟩ := and_e hr
  obtain ⟨r9, hr⟩ := and_e hr
  obtain ⟨r10, hr⟩ := and_e hr
  have S_hi := Sta.start (own_eq_int r3) (Or.inl (Cond.before_iff.mpr r1))
  obtain ⟨ca, eca⟩ := arr_v r4
  obtain ⟨cc, Acc⟩ := Arr.start eca r4
  have S_ca := Sta.start eca (Or.inr ⟨(hw _ (List.mem_of_getElem? (i := 52) rfl)), Cond.before_iff.mpr r2⟩)
  have hA := Acc.fin (Vm.Alike.refl _)
  have h31 : cc.slots.size < 2 ^ 31 := Jvm.Free.SBG.length_lt eca hA (own_eq_int r6)
  have h256 : cc.slots.size.toInt32 = (256 : Int32) := by simpa using Option.some.inj ((len_f eca hA h31).symm.trans (own_eq_int r6))
  have BX := Bxs.start (val := fun j => Value.int (j - 128)) (fun _ => eca) Acc h31 h256 (by decide) r7 (fun X j nn hq => eqv_i (Term.sub_int (idx_at nn) (Term.int_eval (128))) hq)
  obtain ⟨cs, ecs⟩ := is_v r9
  have S_cs := Sta.start ecs (Or.inl (Cond.before_iff.mpr r8))
  have hcs : ¬ cs = (0 : Int32) := fun q => by
    have z := (Cond.eq_ints ecs (Term.int_eval (0))).symm.trans (not_v r10)
    simp [q] at z
  have G : own_G s cs ca cc := ⟨S_cs, hcs, S_hi, S_ca, BX⟩
  have hCH : CHv s own_EL s.vm s.heap := CHv.start (own_ew hw) (fun p hp => by cases List.mem_singleton.mp hp; exact hcalls.1 ("java/lang/String", 7) (List.mem_of_getElem? (i := 1) rfl)) (Cond.before_iff.mpr r10) (hw _ (List.mem_of_getElem? (i := 19) rfl)) (hw _ (List.mem_of_getElem? (i := 1) rfl))
  obtain ⟨n, o, h1, h2, h3, _, L, rfl, ⟨rfl, N⟩, hq⟩ := rm0 l s _ hw tables_1 i0 i1 i2 i3 i4 i5 cs ca cc s.heap s.heap.size (Nat.le_refl _) G (Old.start s) p e ha hc hk s m _ below hf ((Spec.applies_iff_loose hf).mp happ).1 ⟨rfl, State.Warmed39.refl s, rfl, hCH⟩ trivial
  refine ⟨n, _, h1, h2, h3, hpost _ _ _ _ _ _ ⟨Cond.after_iff.mpr rfl, Cond.after_iff.mpr (eq_i res_at (Term.int_eval (1)) rfl), trivial⟩ ⟨hq.1, hq.2.1, hq.2.2.1, (hq.2.2.2.sift fun y hy => Or.inr (N y hy)).mono (by decide) (by decide)⟩⟩
theorem main_1_1 : Claimed_1_1 := comes_1 fun _ _ _ _ _ _ h hF => ⟨h.1, hF⟩
theorem main_1_2 : Claimed_1_2 := comes_1 fun _ _ _ _ _ _ h hF => ⟨h.2.1, hF⟩
end Jvm.Pilot.@@N@@
namespace Jvm.Pilot.@@N@@
open Jvm Jvm.ClassFile Sem Op Lib Jvm.Free Jvm.Stand Jvm.Pilot.@@N@@.Jvm.D
/-! MADE BY PROGRAM (witnessworld.py) out of the Statement's table words and the real class files: 27 classes; the members and pool entries that the words name. The judged class is class 1, her method 1. -/
namespace start1
open Jvm.ClassFile
def u (s : String) : CpInfo := .utf8 (stringToUtf16 s)
/-- a pool by its gaps: so many unusable entries, then the entry; so many at the end -/
def gap : Nat → List CpInfo → List CpInfo
  | 0, r => r
  | n + 1, r => .unusable :: gap n r
def poolList (es : List (Nat × CpInfo)) (last : Nat) : List CpInfo := es.foldr (fun e r => gap e.1 (e.2 :: r)) (gap last [])
def pool (es : List (Nat × CpInfo)) (last : Nat) : Array CpInfo := ⟨poolList es last⟩
def fileOf (pool : Array CpInfo) (this : Nat) (attrs : Array Attribute := #[]) (ms : Array MethodInfo := #[]) (fl : Nat := 33) (sup : Nat := 0) (ifs : Array Nat := #[]) (fds : Array FieldInfo := #[]) : ClassFile where
  minorVersion := 0
  majorVersion := 65
  constantPool := pool
  accessFlags := fl
  thisClass := this
  superClass := sup
  interfaces := ifs
  fields := fds
  methods := ms
  attributes := attrs
def plain (name : String) (sup : Option ClassId) : Class where
  name := name
  kind := .ordinary
  loader := none
  accessFlags := 33
  super := sup
  interfaces := #[]
  cf := none
  fields := #[]
  methods := #[]
  instanceTypes := #[]
  staticTypes := #[]
  resolved := #[]
  callSites := []
  init := .initialized
  statics := none
  mirror := none

def pool0 : Array CpInfo := pool [(5, u "<init>"), (0, u "()V"), (1, .class_ 10), (1, u "java/lang/Object"), (16, u "hashCode"), (0, u "()I")] 95

def k0c0 : Code := { maxStack := 0, maxLocals := 1, code := object_method_1_code, exceptionTable := #[], attributes := #[] }
def k0m0 : Method := { name := "<init>", desc := "()V", sig := { parameters := [], returnType := none }, accessFlags := 1, code := some k0c0 }
def k0m1 : Method := { name := "hashCode", desc := "()I", sig := { parameters := [], returnType := some .int }, accessFlags := 257, code := none }
/-- java/lang/Object -/
def k0 : Class := { plain "java/lang/Object" none with
  accessFlags := 33
  interfaces := #[]
  cf := some (fileOf pool0 8 #[] #[{ accessFlags := 1, nameIndex := 5, descriptorIndex := 6, attributes := #[] }, { accessFlags := 257, nameIndex := 27, descriptorIndex := 28, attributes := #[] }] 33 0 #[] #[])
  fields := #[]
  methods := #[k0m0, k0m1]
  instanceTypes := #[]
  staticTypes := #[]
  resolved := Array.replicate 124 none
  statics := none }

def pool1 : Array CpInfo := pool [(2, .class_ 4), (1, u "java/lang/Object"), (0, u "<init>"), (0, u "()V"), (0, .class_ 8), (0, u "java/lang/String"), (0, .methodref 10 11), (0, .class_ 12), (0, .nameAndType 13 14), (0, u "com/example/libhorn/libhorn/data/RelationEqualsPinLaw"), (0, u "mk"), (0, u "(ICC)[C"), (0, .methodref 7 16), (0, .nameAndType 5 17), (0, u "([C)V"), (0, .integer 2147483647), (0, .class_ 20), (0, u "com/example/libhorn/libhorn/data/Relation"), (0, .methodref 19 22), (0, .nameAndType 5 23), (0, u "(Ljava/lang/String;I)V"), (0, .methodref 19 25), (0, .nameAndType 26 27), (0, u "equals"), (0, u "(Ljava/lang/Object;)Z"), (2, u "law"), (0, u "(IIIIII)Z")] 3

def k1m0 : Method := { name := "<init>", desc := "()V", sig := { parameters := [], returnType := none }, accessFlags := 1, code := none }
def k1c1 : Code := { maxStack := 5, maxLocals := 23, code := code, exceptionTable := #[], attributes := #[] }
def k1m1 : Method := { name := "law", desc := "(IIIIII)Z", sig := { parameters := [.int, .int, .int, .int, .int, .int], returnType := some .boolean }, accessFlags := 9, code := some k1c1 }
def k1c2 : Code := { maxStack := 4, maxLocals := 3, code := method_3_code, exceptionTable := #[], attributes := #[] }
def k1m2 : Method := { name := "mk", desc := "(ICC)[C", sig := { parameters := [.int, .char, .char], returnType := some (.array .char) }, accessFlags := 10, code := some k1c2 }
/-- com/example/libhorn/libhorn/data/RelationEqualsPinLaw -/
def k1 : Class := { plain "com/example/libhorn/libhorn/data/RelationEqualsPinLaw" (some 0) with
  accessFlags := 49
  interfaces := #[]
  cf := some (fileOf pool1 10 #[] #[{ accessFlags := 1, nameIndex := 5, descriptorIndex := 6, attributes := #[] }, { accessFlags := 9, nameIndex := 30, descriptorIndex := 31, attributes := #[] }, { accessFlags := 10, nameIndex := 13, descriptorIndex := 14, attributes := #[] }] 49 2 #[] #[])
  fields := #[]
  methods := #[k1m0, k1m1, k1m2]
  instanceTypes := #[]
  staticTypes := #[]
  resolved := Array.replicate 35 none
  statics := none }

def pool2 : Array CpInfo := pool [(1, .class_ 2), (0, u "java/io/Serializable"), (0, .class_ 4), (0, u "java/lang/Object")] 2

/-- java/io/Serializable -/
def k2 : Class := { plain "java/io/Serializable" (some 0) with
  accessFlags := 1537
  interfaces := #[]
  cf := some (fileOf pool2 1 #[] #[] 1537 3 #[] #[])
  fields := #[]
  methods := #[]
  instanceTypes := #[]
  staticTypes := #[]
  resolved := Array.replicate 7 none
  statics := none }

def pool3 : Array CpInfo := pool [(1, .class_ 2), (0, u "java/lang/Comparable"), (0, .class_ 4), (0, u "java/lang/Object")] 7

/-- java/lang/Comparable -/
def k3 : Class := { plain "java/lang/Comparable" (some 0) with
  accessFlags := 1537
  interfaces := #[]
  cf := some (fileOf pool3 1 #[] #[] 1537 3 #[] #[])
  fields := #[]
  methods := #[]
  instanceTypes := #[]
  staticTypes := #[]
  resolved := Array.replicate 12 none
  statics := none }

def pool4 : Array CpInfo := pool [(2, .class_ 4), (1, u "java/lang/CharSequence"), (42, .class_ 48), (0, u "java/lang/CharSequence$1CodePointIterator"), (10, .class_ 60), (0, u "java/lang/CharSequence$1CharIterator"), (5, .class_ 67), (0, u "java/lang/Object")] 63

/-- java/lang/CharSequence -/
def k4 : Class := { plain "java/lang/CharSequence" (some 0) with
  accessFlags := 1537
  interfaces := #[]
  cf := some (fileOf pool4 2 #[.nestMembers #[47, 59]] #[] 1537 66 #[] #[])
  fields := #[]
  methods := #[]
  instanceTypes := #[]
  staticTypes := #[]
  resolved := Array.replicate 131 none
  statics := none }

def pool5 : Array CpInfo := pool [(1, .class_ 2), (0, u "java/lang/constant/Constable"), (0, .class_ 4), (0, u "java/lang/Object")] 6

/-- java/lang/constant/Constable -/
def k5 : Class := { plain "java/lang/constant/Constable" (some 0) with
  accessFlags := 1537
  interfaces := #[]
  cf := some (fileOf pool5 1 #[] #[] 1537 3 #[] #[])
  fields := #[]
  methods := #[]
  instanceTypes := #[]
  staticTypes := #[]
  resolved := Array.replicate 11 none
  statics := none }

def pool6 : Array CpInfo := pool [(1, .class_ 2), (0, u "java/lang/constant/ConstantDesc"), (0, .class_ 4), (0, u "java/lang/Object")] 32

/-- java/lang/constant/ConstantDesc -/
def k6 : Class := { plain "java/lang/constant/ConstantDesc" (some 0) with
  accessFlags := 1537
  interfaces := #[]
  cf := some (fileOf pool6 1 #[] #[] 1537 3 #[] #[])
  fields := #[]
  methods := #[]
  instanceTypes := #[]
  staticTypes := #[]
  resolved := Array.replicate 37 none
  statics := none }

def pool7 : Array CpInfo := pool [(1, .methodref 2 3), (0, .class_ 4), (0, .nameAndType 5 6), (0, u "java/lang/Object"), (0, u "<init>"), (0, u "()V"), (0, .string 8), (0, u ""), (0, .fieldref 10 11), (0, .class_ 12), (0, .nameAndType 13 14), (0, u "java/lang/String"), (0, u "value"), (0, u "[B"), (0, .fieldref 10 16), (0, .nameAndType 17 18), (0, u "coder"), (0, u "B"), (0, .fieldref 10 20), (0, .nameAndType 21 22), (0, u "hash"), (0, u "I"), (0, .fieldref 10 24), (0, .nameAndType 25 26), (0, u "hashIsZero"), (0, u "Z"), (0, .methodref 10 28), (0, .nameAndType 5 29), (0, u "([CIILjava/lang/Void;)V"), (8, .fieldref 10 39), (0, .nameAndType 40 26), (0, u "COMPACT_STRINGS"), (1, .class_ 44), (1, u "java/lang/StringUTF16"), (0, u "compress"), (1, .methodref 42 48), (0, .nameAndType 49 50), (0, u "coderFromArrayLen"), (0, u "([BI)B"), (56, .class_ 109), (1, u "java/lang/StringLatin1"), (32, u "()Z"), (34, .methodref 42 178), (0, .nameAndType 45 179), (0, u "([CII)[B"), (154, u "()I"), (157, .methodref 10 493), (0, .nameAndType 494 142), (0, u "isLatin1"), (46, .methodref 107 542), (0, .nameAndType 543 544), (0, u "equals"), (0, u "([B[B)Z"), (28, u "(Ljava/lang/Object;)Z"), (1, .class_ 576), (0, u "java/lang/CharSequence"), (22, u "CASE_INSENSITIVE_ORDER"), (0, u "Ljava/util/Comparator;"), (27, .methodref 107 629), (0, .nameAndType 630 631), (0, u "hashCode"), (0, u "([B)I"), (378, u "([C)V"), (90, u "serialPersistentFields"), (0, u "[Ljava/io/ObjectStreamField;"), (0, .class_ 1104), (0, u "java/lang/String$CaseInsensitiveComparator"), (1, .class_ 1107), (0, u "java/io/Serializable"), (0, .class_ 1109), (0, u "java/lang/Comparable"), (0, .class_ 1111), (0, u "java/lang/constant/Constable"), (0, .class_ 1113), (0, u "java/lang/constant/ConstantDesc"), (2, u "serialVersionUID"), (0, u "J"), (3, u "REPL"), (0, u "C"), (2, u "LATIN1"), (1, u "UTF16")] 323

def k7m0 : Method := { name := "<init>", desc := "()V", sig := { parameters := [], returnType := none }, accessFlags := 1, code := none }
def k7c1 : Code := { maxStack := 5, maxLocals := 2, code := jdk_42_method_3_code, exceptionTable := #[], attributes := #[] }
def k7m1 : Method := { name := "<init>", desc := "([C)V", sig := { parameters := [(.array .char)], returnType := none }, accessFlags := 1, code := some k7c1 }
def k7c2 : Code := { maxStack := 2, maxLocals := 3, code := jdk_42_method_66_code, exceptionTable := #[], attributes := #[] }
def k7m2 : Method := { name := "equals", desc := "(Ljava/lang/Object;)Z", sig := { parameters := [(.object "java/lang/Object")], returnType := some .boolean }, accessFlags := 1, code := some k7c2 }
def k7c3 : Code := { maxStack := 2, maxLocals := 2, code := jdk_42_method_78_code, exceptionTable := #[], attributes := #[] }
def k7m3 : Method := { name := "hashCode", desc := "()I", sig := { parameters := [], returnType := some .int }, accessFlags := 1, code := some k7c3 }
def k7c4 : Code := { maxStack := 4, maxLocals := 6, code := jdk_42_method_149_code, exceptionTable := #[], attributes := #[] }
def k7m4 : Method := { name := "<init>", desc := "([CIILjava/lang/Void;)V", sig := { parameters := [(.array .char), .int, .int, (.object "java/lang/Void")], returnType := none }, accessFlags := 2, code := some k7c4 }
def k7c5 : Code := { maxStack := 1, maxLocals := 1, code := jdk_42_method_154_code, exceptionTable := #[], attributes := #[] }
def k7m5 : Method := { name := "isLatin1", desc := "()Z", sig := { parameters := [], returnType := some .boolean }, accessFlags := 0, code := some k7c5 }
/-- java/lang/String -/
def k7 : Class := { plain "java/lang/String" (some 0) with
  accessFlags := 49
  interfaces := #[2, 3, 4, 5, 6]
  cf := some (fileOf pool7 10 #[.nestMembers #[1103]] #[{ accessFlags := 1, nameIndex := 5, descriptorIndex := 6, attributes := #[] }, { accessFlags := 1, nameIndex := 5, descriptorIndex := 1010, attributes := #[] }, { accessFlags := 1, nameIndex := 543, descriptorIndex := 573, attributes := #[] }, { accessFlags := 1, nameIndex := 630, descriptorIndex := 334, attributes := #[] }, { accessFlags := 2, nameIndex := 5, descriptorIndex := 29, attributes := #[] }, { accessFlags := 0, nameIndex := 494, descriptorIndex := 142, attributes := #[] }] 49 2 #[1106, 1108, 575, 1110, 1112] #[{ accessFlags := 18, nameIndex := 13, descriptorIndex := 14, attributes := #[] }, { accessFlags := 18, nameIndex := 17, descriptorIndex := 18, attributes := #[] }, { accessFlags := 2, nameIndex := 21, descriptorIndex := 22, attributes := #[] }, { accessFlags := 2, nameIndex := 25, descriptorIndex := 26, attributes := #[] }, { accessFlags := 26, nameIndex := 1116, descriptorIndex := 1117, attributes := #[] }, { accessFlags := 24, nameIndex := 40, descriptorIndex := 26, attributes := #[] }, { accessFlags := 26, nameIndex := 1101, descriptorIndex := 1102, attributes := #[] }, { accessFlags := 26, nameIndex := 1121, descriptorIndex := 1122, attributes := #[] }, { accessFlags := 25, nameIndex := 599, descriptorIndex := 600, attributes := #[] }, { accessFlags := 24, nameIndex := 1125, descriptorIndex := 18, attributes := #[] }, { accessFlags := 24, nameIndex := 1127, descriptorIndex := 18, attributes := #[] }])
  fields := #[{ name := "value", type := (.array .byte), accessFlags := 18, slot := 0, constantValue := 0 }, { name := "coder", type := .byte, accessFlags := 18, slot := 1, constantValue := 0 }, { name := "hash", type := .int, accessFlags := 2, slot := 2, constantValue := 0 }, { name := "hashIsZero", type := .boolean, accessFlags := 2, slot := 3, constantValue := 0 }, { name := "serialVersionUID", type := .long, accessFlags := 26, slot := 0, constantValue := 0 }, { name := "COMPACT_STRINGS", type := .boolean, accessFlags := 24, slot := 1, constantValue := 0 }, { name := "serialPersistentFields", type := (.array (.object "java/io/ObjectStreamField")), accessFlags := 26, slot := 2, constantValue := 0 }, { name := "REPL", type := .char, accessFlags := 26, slot := 3, constantValue := 0 }, { name := "CASE_INSENSITIVE_ORDER", type := (.object "java/util/Comparator"), accessFlags := 25, slot := 4, constantValue := 0 }, { name := "LATIN1", type := .byte, accessFlags := 24, slot := 5, constantValue := 0 }, { name := "UTF16", type := .byte, accessFlags := 24, slot := 6, constantValue := 0 }]
  methods := #[k7m0, k7m1, k7m2, k7m3, k7m4, k7m5]
  instanceTypes := #[(.array .byte), .byte, .int, .boolean]
  staticTypes := #[.long, .boolean, (.array (.object "java/io/ObjectStreamField")), .char, (.object "java/util/Comparator"), .byte, .byte]
  resolved := Array.replicate 1451 none
  statics := some 0 }

def pool8 : Array CpInfo := pool [(1, .methodref 2 3), (0, .class_ 4), (0, .nameAndType 5 6), (0, u "java/lang/Object"), (0, u "<init>"), (0, u "()V"), (9, .string 17), (0, u "name"), (0, .methodref 19 20), (0, .class_ 21), (0, .nameAndType 22 23), (0, u "java/util/Objects"), (0, u "requireNonNull"), (0, u "(Ljava/lang/Object;Ljava/lang/String;)Ljava/lang/Object;"), (0, .class_ 25), (0, u "java/lang/String"), (0, .fieldref 27 28), (0, .class_ 29), (0, .nameAndType 17 30), (0, u "com/example/libhorn/libhorn/data/Relation"), (0, u "Ljava/lang/String;"), (0, .fieldref 27 32), (0, .nameAndType 33 34), (0, u "arity"), (0, u "I"), (0, .methodref 36 37), (0, .class_ 38), (0, .nameAndType 39 40), (0, u "java/lang/Integer"), (0, u "valueOf"), (0, u "(I)Ljava/lang/Integer;"), (0, .methodref 19 42), (0, .nameAndType 43 44), (0, u "hash"), (0, u "([Ljava/lang/Object;)I"), (0, .fieldref 27 46), (0, .nameAndType 43 34), (0, .methodref 24 48), (0, .nameAndType 49 50), (0, u "equals"), (0, u "(Ljava/lang/Object;)Z"), (1, u "(Ljava/lang/String;I)V")] 28

def k8c0 : Code := { maxStack := 5, maxLocals := 3, code := prog_20_method_1_code, exceptionTable := #[], attributes := #[] }
def k8m0 : Method := { name := "<init>", desc := "(Ljava/lang/String;I)V", sig := { parameters := [(.object "java/lang/String"), .int], returnType := none }, accessFlags := 1, code := some k8c0 }
def k8c1 : Code := { maxStack := 2, maxLocals := 3, code := prog_20_method_4_code, exceptionTable := #[], attributes := #[] }
def k8m1 : Method := { name := "equals", desc := "(Ljava/lang/Object;)Z", sig := { parameters := [(.object "java/lang/Object")], returnType := some .boolean }, accessFlags := 1, code := some k8c1 }
/-- com/example/libhorn/libhorn/data/Relation -/
def k8 : Class := { plain "com/example/libhorn/libhorn/data/Relation" (some 0) with
  accessFlags := 33
  interfaces := #[]
  cf := some (fileOf pool8 27 #[] #[{ accessFlags := 1, nameIndex := 5, descriptorIndex := 52, attributes := #[] }, { accessFlags := 1, nameIndex := 49, descriptorIndex := 50, attributes := #[] }] 33 2 #[] #[{ accessFlags := 18, nameIndex := 17, descriptorIndex := 30, attributes := #[] }, { accessFlags := 18, nameIndex := 33, descriptorIndex := 34, attributes := #[] }, { accessFlags := 18, nameIndex := 43, descriptorIndex := 34, attributes := #[] }])
  fields := #[{ name := "name", type := (.object "java/lang/String"), accessFlags := 18, slot := 0, constantValue := 0 }, { name := "arity", type := .int, accessFlags := 18, slot := 1, constantValue := 0 }, { name := "hash", type := .int, accessFlags := 18, slot := 2, constantValue := 0 }]
  methods := #[k8m0, k8m1]
  instanceTypes := #[(.object "java/lang/String"), .int, .int]
  staticTypes := #[]
  resolved := Array.replicate 81 none
  statics := none }

def pool9 : Array CpInfo := pool [(2, .class_ 4), (1, u "java/lang/Object"), (0, u "<init>"), (0, u "()V"), (12, .class_ 21), (1, u "java/util/Arrays"), (4, u "hashCode"), (1, .methodref 19 29), (0, .nameAndType 26 30), (0, u "([Ljava/lang/Object;)I"), (11, .class_ 44), (1, u "java/util/Objects"), (0, u "requireNonNull"), (48, u "(Ljava/lang/Object;Ljava/lang/String;)Ljava/lang/Object;"), (42, u "hash")] 46

def k9m0 : Method := { name := "<init>", desc := "()V", sig := { parameters := [], returnType := none }, accessFlags := 2, code := none }
def k9c1 : Code := { maxStack := 1, maxLocals := 1, code := jdk_31_method_5_code, exceptionTable := #[], attributes := #[] }
def k9m1 : Method := { name := "hash", desc := "([Ljava/lang/Object;)I", sig := { parameters := [(.array (.object "java/lang/Object"))], returnType := some .int }, accessFlags := 137, code := some k9c1 }
def k9c2 : Code := { maxStack := 3, maxLocals := 2, code := jdk_31_method_11_code, exceptionTable := #[], attributes := #[] }
def k9m2 : Method := { name := "requireNonNull", desc := "(Ljava/lang/Object;Ljava/lang/String;)Ljava/lang/Object;", sig := { parameters := [(.object "java/lang/Object"), (.object "java/lang/String")], returnType := some (.object "java/lang/Object") }, accessFlags := 9, code := some k9c2 }
/-- java/util/Objects -/
def k9 : Class := { plain "java/util/Objects" (some 0) with
  accessFlags := 49
  interfaces := #[]
  cf := some (fileOf pool9 42 #[] #[{ accessFlags := 2, nameIndex := 5, descriptorIndex := 6, attributes := #[] }, { accessFlags := 137, nameIndex := 137, descriptorIndex := 30, attributes := #[] }, { accessFlags := 9, nameIndex := 45, descriptorIndex := 94, attributes := #[] }] 49 2 #[] #[])
  fields := #[]
  methods := #[k9m0, k9m1, k9m2]
  instanceTypes := #[]
  staticTypes := #[]
  resolved := Array.replicate 184 none
  statics := none }

def pool10 : Array CpInfo := pool [(1, .methodref 2 3), (0, .class_ 4), (0, .nameAndType 5 6), (0, u "java/lang/Object"), (0, u "<init>"), (0, u "()V"), (1, .class_ 10), (1, u "java/lang/Number"), (2, .class_ 14), (0, u "java/io/Serializable"), (0, u "serialVersionUID"), (0, u "J")] 20

def k10c0 : Code := { maxStack := 1, maxLocals := 1, code := jdk_18_method_1_code, exceptionTable := #[], attributes := #[] }
def k10m0 : Method := { name := "<init>", desc := "()V", sig := { parameters := [], returnType := none }, accessFlags := 1, code := some k10c0 }
/-- java/lang/Number -/
def k10 : Class := { plain "java/lang/Number" (some 0) with
  accessFlags := 1057
  interfaces := #[2]
  cf := some (fileOf pool10 8 #[] #[{ accessFlags := 1, nameIndex := 5, descriptorIndex := 6, attributes := #[] }] 1057 2 #[13] #[{ accessFlags := 26, nameIndex := 15, descriptorIndex := 16, attributes := #[] }])
  fields := #[{ name := "serialVersionUID", type := .long, accessFlags := 26, slot := 0, constantValue := 0 }]
  methods := #[k10m0]
  instanceTypes := #[]
  staticTypes := #[.long]
  resolved := Array.replicate 37 none
  statics := none }

def pool11 : Array CpInfo := pool [(1, .class_ 2), (0, u "java/lang/Integer"), (16, u "digits"), (0, u "[C"), (33, u "(I)I"), (12, u "<init>"), (17, u "DigitOnes"), (0, u "[B"), (2, u "DigitTens"), (10, .nameAndType 67 101), (0, u "()V"), (19, u "()I"), (65, u "valueOf"), (0, u "(I)Ljava/lang/Integer;"), (0, .class_ 190), (0, u "java/lang/Integer$IntegerCache"), (0, .fieldref 189 192), (0, .nameAndType 193 194), (0, u "high"), (0, u "I"), (0, .fieldref 189 196), (0, .nameAndType 197 198), (0, u "cache"), (0, u "[Ljava/lang/Integer;"), (0, .methodref 1 200), (0, .nameAndType 67 201), (0, u "(I)V"), (0, .methodref 203 100), (0, .class_ 204), (0, u "java/lang/Number"), (0, .fieldref 1 206), (0, .nameAndType 207 194), (0, u "value"), (0, .methodref 1 209), (0, .nameAndType 210 54), (0, u "hashCode"), (91, u "TYPE"), (0, u "Ljava/lang/Class;"), (0, .class_ 305), (0, u "java/lang/Comparable"), (0, .class_ 307), (0, u "java/lang/constant/Constable"), (0, .class_ 309), (0, u "java/lang/constant/ConstantDesc"), (0, u "MIN_VALUE"), (1, u "MAX_VALUE"), (3, u "SIZE"), (1, u "BYTES"), (1, u "serialVersionUID"), (0, u "J")] 131

def k11c0 : Code := { maxStack := 3, maxLocals := 1, code := jdk_33_method_22_code, exceptionTable := #[], attributes := #[] }
def k11m0 : Method := { name := "valueOf", desc := "(I)Ljava/lang/Integer;", sig := { parameters := [.int], returnType := some (.object "java/lang/Integer") }, accessFlags := 9, code := some k11c0 }
def k11c1 : Code := { maxStack := 2, maxLocals := 2, code := jdk_33_method_23_code, exceptionTable := #[], attributes := #[] }
def k11m1 : Method := { name := "<init>", desc := "(I)V", sig := { parameters := [.int], returnType := none }, accessFlags := 1, code := some k11c1 }
def k11c2 : Code := { maxStack := 1, maxLocals := 1, code := jdk_33_method_32_code, exceptionTable := #[], attributes := #[] }
def k11m2 : Method := { name := "hashCode", desc := "()I", sig := { parameters := [], returnType := some .int }, accessFlags := 1, code := some k11c2 }
def k11c3 : Code := { maxStack := 1, maxLocals := 1, code := jdk_33_method_33_code, exceptionTable := #[], attributes := #[] }
def k11m3 : Method := { name := "hashCode", desc := "(I)I", sig := { parameters := [.int], returnType := some .int }, accessFlags := 9, code := some k11c3 }
/-- java/lang/Integer -/
def k11 : Class := { plain "java/lang/Integer" (some 10) with
  accessFlags := 49
  interfaces := #[3, 5, 6]
  cf := some (fileOf pool11 1 #[.nestMembers #[189]] #[{ accessFlags := 9, nameIndex := 187, descriptorIndex := 188, attributes := #[] }, { accessFlags := 1, nameIndex := 67, descriptorIndex := 201, attributes := #[] }, { accessFlags := 1, nameIndex := 210, descriptorIndex := 121, attributes := #[] }, { accessFlags := 9, nameIndex := 210, descriptorIndex := 54, attributes := #[] }] 49 203 #[304, 306, 308] #[{ accessFlags := 25, nameIndex := 310, descriptorIndex := 194, attributes := #[] }, { accessFlags := 25, nameIndex := 312, descriptorIndex := 194, attributes := #[] }, { accessFlags := 25, nameIndex := 302, descriptorIndex := 303, attributes := #[] }, { accessFlags := 24, nameIndex := 19, descriptorIndex := 20, attributes := #[] }, { accessFlags := 24, nameIndex := 89, descriptorIndex := 86, attributes := #[] }, { accessFlags := 24, nameIndex := 85, descriptorIndex := 86, attributes := #[] }, { accessFlags := 18, nameIndex := 207, descriptorIndex := 194, attributes := #[] }, { accessFlags := 25, nameIndex := 316, descriptorIndex := 194, attributes := #[] }, { accessFlags := 25, nameIndex := 318, descriptorIndex := 194, attributes := #[] }, { accessFlags := 26, nameIndex := 320, descriptorIndex := 321, attributes := #[] }])
  fields := #[{ name := "MIN_VALUE", type := .int, accessFlags := 25, slot := 0, constantValue := 0 }, { name := "MAX_VALUE", type := .int, accessFlags := 25, slot := 1, constantValue := 0 }, { name := "TYPE", type := (.object "java/lang/Class"), accessFlags := 25, slot := 2, constantValue := 0 }, { name := "digits", type := (.array .char), accessFlags := 24, slot := 3, constantValue := 0 }, { name := "DigitTens", type := (.array .byte), accessFlags := 24, slot := 4, constantValue := 0 }, { name := "DigitOnes", type := (.array .byte), accessFlags := 24, slot := 5, constantValue := 0 }, { name := "value", type := .int, accessFlags := 18, slot := 0, constantValue := 0 }, { name := "SIZE", type := .int, accessFlags := 25, slot := 6, constantValue := 0 }, { name := "BYTES", type := .int, accessFlags := 25, slot := 7, constantValue := 0 }, { name := "serialVersionUID", type := .long, accessFlags := 26, slot := 8, constantValue := 0 }]
  methods := #[k11m0, k11m1, k11m2, k11m3]
  instanceTypes := #[.int]
  staticTypes := #[.int, .int, (.object "java/lang/Class"), (.array .char), (.array .byte), (.array .byte), .int, .int, .long]
  resolved := Array.replicate 453 none
  statics := none }

def pool12 : Array CpInfo := pool [(2, .class_ 4), (1, u "java/lang/Object"), (0, u "<init>"), (0, u "()V"), (0, .class_ 8), (0, u "java/lang/Integer"), (7, .class_ 18), (1, u "java/lang/Integer$IntegerCache"), (0, u "$assertionsDisabled"), (0, u "Z"), (26, u "high"), (0, u "I"), (8, u "archivedCache"), (0, u "[Ljava/lang/Integer;"), (12, u "cache"), (0, u "low")] 27

def k12m0 : Method := { name := "<init>", desc := "()V", sig := { parameters := [], returnType := none }, accessFlags := 2, code := none }
/-- java/lang/Integer$IntegerCache -/
def k12 : Class := { plain "java/lang/Integer$IntegerCache" (some 0) with
  accessFlags := 48
  interfaces := #[]
  cf := some (fileOf pool12 16 #[.nestHost 7] #[{ accessFlags := 2, nameIndex := 5, descriptorIndex := 6, attributes := #[] }] 48 2 #[] #[{ accessFlags := 24, nameIndex := 72, descriptorIndex := 48, attributes := #[] }, { accessFlags := 24, nameIndex := 47, descriptorIndex := 48, attributes := #[] }, { accessFlags := 24, nameIndex := 71, descriptorIndex := 58, attributes := #[] }, { accessFlags := 8, nameIndex := 57, descriptorIndex := 58, attributes := #[] }, { accessFlags := 4120, nameIndex := 19, descriptorIndex := 20, attributes := #[] }])
  fields := #[{ name := "low", type := .int, accessFlags := 24, slot := 0, constantValue := 0 }, { name := "high", type := .int, accessFlags := 24, slot := 1, constantValue := 0 }, { name := "cache", type := (.array (.object "java/lang/Integer")), accessFlags := 24, slot := 2, constantValue := 0 }, { name := "archivedCache", type := (.array (.object "java/lang/Integer")), accessFlags := 8, slot := 3, constantValue := 0 }, { name := "$assertionsDisabled", type := .boolean, accessFlags := 4120, slot := 4, constantValue := 0 }]
  methods := #[k12m0]
  instanceTypes := #[]
  staticTypes := #[.int, .int, (.array (.object "java/lang/Integer")), (.array (.object "java/lang/Integer")), .boolean]
  resolved := Array.replicate 100 none
  statics := some 1 }

def pool13 : Array CpInfo := pool [(2, .class_ 4), (1, u "java/lang/Object"), (0, u "<init>"), (0, u "()V"), (7, .class_ 16), (1, u "java/util/Arrays"), (25, u "()I"), (31, .class_ 76), (1, u "java/util/Arrays$NaturalOrder"), (36, .class_ 115), (1, u "java/util/Arrays$LegacyMergeSort"), (1, u "Z"), (257, .class_ 376), (0, u "java/util/Arrays$ArrayList"), (6, .methodref 2 384), (0, .nameAndType 385 42), (0, u "hashCode"), (3, u "([Ljava/lang/Object;)I"), (55, u "$assertionsDisabled"), (269, u "MIN_ARRAY_SORT_GRAN"), (0, u "I"), (2, u "INSERTIONSORT_THRESHOLD"), (255, .class_ 976), (0, u "java/util/Arrays$ArrayItr")] 52

def k13m0 : Method := { name := "<init>", desc := "()V", sig := { parameters := [], returnType := none }, accessFlags := 2, code := none }
def k13c1 : Code := { maxStack := 2, maxLocals := 6, code := jdk_65_method_157_code, exceptionTable := #[], attributes := #[] }
def k13m1 : Method := { name := "hashCode", desc := "([Ljava/lang/Object;)I", sig := { parameters := [(.array (.object "java/lang/Object"))], returnType := some .int }, accessFlags := 9, code := some k13c1 }
/-- java/util/Arrays -/
def k13 : Class := { plain "java/util/Arrays" (some 0) with
  accessFlags := 49
  interfaces := #[]
  cf := some (fileOf pool13 14 #[.nestMembers #[975, 375, 113, 74]] #[{ accessFlags := 2, nameIndex := 5, descriptorIndex := 6, attributes := #[] }, { accessFlags := 9, nameIndex := 385, descriptorIndex := 389, attributes := #[] }] 49 2 #[] #[{ accessFlags := 26, nameIndex := 715, descriptorIndex := 716, attributes := #[] }, { accessFlags := 26, nameIndex := 719, descriptorIndex := 716, attributes := #[] }, { accessFlags := 4120, nameIndex := 445, descriptorIndex := 117, attributes := #[] }])
  fields := #[{ name := "MIN_ARRAY_SORT_GRAN", type := .int, accessFlags := 26, slot := 0, constantValue := 0 }, { name := "INSERTIONSORT_THRESHOLD", type := .int, accessFlags := 26, slot := 1, constantValue := 0 }, { name := "$assertionsDisabled", type := .boolean, accessFlags := 4120, slot := 2, constantValue := 0 }]
  methods := #[k13m0, k13m1]
  instanceTypes := #[]
  staticTypes := #[.int, .int, .boolean]
  resolved := Array.replicate 1029 none
  statics := none }

def pool14 : Array CpInfo := pool [(4, .class_ 6), (1, u "java/lang/Object"), (0, u "<init>"), (0, u "()V"), (5, .class_ 16), (1, u "java/lang/StringLatin1"), (28, .class_ 47), (1, u "jdk/internal/util/ArraysSupport"), (9, u "([B)I"), (26, .methodref 45 85), (0, .nameAndType 86 87), (0, u "vectorizedHashCode"), (0, u "(Ljava/lang/Object;IIII)I"), (33, u "$assertionsDisabled"), (0, u "Z"), (98, .class_ 223), (1, u "java/lang/StringLatin1$LinesSpliterator"), (57, u "equals"), (0, u "([B[B)Z"), (15, u "hashCode"), (91, .class_ 391), (0, u "java/lang/StringLatin1$CharsSpliterator")] 3

def k14m0 : Method := { name := "<init>", desc := "()V", sig := { parameters := [], returnType := none }, accessFlags := 0, code := none }
def k14c1 : Code := { maxStack := 3, maxLocals := 3, code := jdk_43_method_13_code, exceptionTable := #[], attributes := #[] }
def k14m1 : Method := { name := "equals", desc := "([B[B)Z", sig := { parameters := [(.array .byte), (.array .byte)], returnType := some .boolean }, accessFlags := 9, code := some k14c1 }
def k14c2 : Code := { maxStack := 5, maxLocals := 1, code := jdk_43_method_21_code, exceptionTable := #[], attributes := #[] }
def k14m2 : Method := { name := "hashCode", desc := "([B)I", sig := { parameters := [(.array .byte)], returnType := some .int }, accessFlags := 9, code := some k14c2 }
/-- java/lang/StringLatin1 -/
def k14 : Class := { plain "java/lang/StringLatin1" (some 0) with
  accessFlags := 48
  interfaces := #[]
  cf := some (fileOf pool14 14 #[.nestMembers #[390, 221]] #[{ accessFlags := 0, nameIndex := 7, descriptorIndex := 8, attributes := #[] }, { accessFlags := 9, nameIndex := 281, descriptorIndex := 282, attributes := #[] }, { accessFlags := 9, nameIndex := 298, descriptorIndex := 57, attributes := #[] }] 48 4 #[] #[{ accessFlags := 4120, nameIndex := 121, descriptorIndex := 122, attributes := #[] }])
  fields := #[{ name := "$assertionsDisabled", type := .boolean, accessFlags := 4120, slot := 0, constantValue := 0 }]
  methods := #[k14m0, k14m1, k14m2]
  instanceTypes := #[]
  staticTypes := #[.boolean]
  resolved := Array.replicate 395 none
  statics := none }

def pool15 : Array CpInfo := pool [(6, .class_ 8), (1, u "java/lang/Object"), (0, u "<init>"), (0, u "()V"), (1, .class_ 14), (1, u "java/lang/StringUTF16"), (31, u "$assertionsDisabled"), (0, u "Z"), (13, u "HI_BYTE_SHIFT"), (0, u "I"), (2, u "LO_BYTE_SHIFT"), (49, .methodref 12 116), (0, .nameAndType 117 118), (0, u "compress"), (0, u "([CI[BII)I"), (3, u "([CII)[B"), (138, u "coderFromArrayLen"), (0, u "([BI)B"), (106, .class_ 371), (1, u "java/lang/StringUTF16$LinesSpliterator"), (58, u "MAX_LENGTH"), (196, .class_ 628), (0, u "java/lang/StringUTF16$CodePointsSpliterator"), (0, .class_ 630), (0, u "java/lang/StringUTF16$CharsSpliterator")] 4

def k15m0 : Method := { name := "<init>", desc := "()V", sig := { parameters := [], returnType := none }, accessFlags := 0, code := none }
def k15c1 : Code := { maxStack := 2, maxLocals := 2, code := jdk_52_method_15_code, exceptionTable := #[], attributes := #[] }
def k15m1 : Method := { name := "coderFromArrayLen", desc := "([BI)B", sig := { parameters := [(.array .byte), .int], returnType := some .byte }, accessFlags := 8, code := some k15c1 }
def k15c2 : Code := { maxStack := 5, maxLocals := 6, code := jdk_52_method_16_code, exceptionTable := #[], attributes := #[] }
def k15m2 : Method := { name := "compress", desc := "([CII)[B", sig := { parameters := [(.array .char), .int, .int], returnType := some (.array .byte) }, accessFlags := 9, code := some k15c2 }
def k15c3 : Code := { maxStack := 3, maxLocals := 7, code := jdk_52_method_21_code, exceptionTable := #[], attributes := #[] }
def k15m3 : Method := { name := "compress", desc := "([CI[BII)I", sig := { parameters := [(.array .char), .int, (.array .byte), .int, .int], returnType := some .int }, accessFlags := 9, code := some k15c3 }
/-- java/lang/StringUTF16 -/
def k15 : Class := { plain "java/lang/StringUTF16" (some 0) with
  accessFlags := 48
  interfaces := #[]
  cf := some (fileOf pool15 12 #[.nestMembers #[627, 629, 369]] #[{ accessFlags := 0, nameIndex := 9, descriptorIndex := 10, attributes := #[] }, { accessFlags := 8, nameIndex := 261, descriptorIndex := 262, attributes := #[] }, { accessFlags := 9, nameIndex := 117, descriptorIndex := 122, attributes := #[] }, { accessFlags := 9, nameIndex := 117, descriptorIndex := 118, attributes := #[] }] 48 6 #[] #[{ accessFlags := 26, nameIndex := 61, descriptorIndex := 62, attributes := #[] }, { accessFlags := 26, nameIndex := 65, descriptorIndex := 62, attributes := #[] }, { accessFlags := 24, nameIndex := 430, descriptorIndex := 62, attributes := #[] }, { accessFlags := 4120, nameIndex := 46, descriptorIndex := 47, attributes := #[] }])
  fields := #[{ name := "HI_BYTE_SHIFT", type := .int, accessFlags := 26, slot := 0, constantValue := 0 }, { name := "LO_BYTE_SHIFT", type := .int, accessFlags := 26, slot := 1, constantValue := 0 }, { name := "MAX_LENGTH", type := .int, accessFlags := 24, slot := 2, constantValue := 0 }, { name := "$assertionsDisabled", type := .boolean, accessFlags := 4120, slot := 3, constantValue := 0 }]
  methods := #[k15m0, k15m1, k15m2, k15m3]
  instanceTypes := #[]
  staticTypes := #[.int, .int, .int, .boolean]
  resolved := Array.replicate 635 none
  statics := none }

def pool16 : Array CpInfo := pool [(9, u "<init>"), (6, .class_ 18), (1, u "java/lang/Object"), (0, u "()V"), (1, .class_ 23), (1, u "jdk/internal/util/ArraysSupport"), (0, u "LOG2_ARRAY_LONG_INDEX_SCALE"), (0, u "I"), (2, u "U"), (0, u "Ljdk/internal/misc/Unsafe;"), (8, u "BIG_ENDIAN"), (0, u "Z"), (8, u "LOG2_BYTE_BIT_SIZE"), (4, u "LOG2_ARRAY_INT_INDEX_SCALE"), (6, .class_ 61), (0, u "[B"), (0, .methodref 21 63), (0, .nameAndType 64 65), (0, u "signedHashCode"), (0, u "(I[BII)I"), (42, u "JLA"), (0, u "Ljdk/internal/access/JavaLangAccess;"), (11, u "LOG2_ARRAY_BOOLEAN_INDEX_SCALE"), (9, u "LOG2_ARRAY_BYTE_INDEX_SCALE"), (5, u "LOG2_ARRAY_CHAR_INDEX_SCALE"), (5, u "LOG2_ARRAY_SHORT_INDEX_SCALE"), (18, u "LOG2_ARRAY_FLOAT_INDEX_SCALE"), (24, u "LOG2_ARRAY_DOUBLE_INDEX_SCALE"), (89, u "T_BOOLEAN"), (2, u "T_CHAR"), (1, u "T_FLOAT"), (1, u "T_DOUBLE"), (1, u "T_BYTE"), (1, u "T_SHORT"), (1, u "T_INT"), (1, u "T_LONG"), (1, u "SOFT_MAX_ARRAY_LENGTH"), (26, u "vectorizedHashCode"), (0, u "(Ljava/lang/Object;IIII)I")] 55

def k16m0 : Method := { name := "<init>", desc := "()V", sig := { parameters := [], returnType := none }, accessFlags := 2, code := none }
def k16c1 : Code := { maxStack := 4, maxLocals := 5, code := jdk_48_method_4_code, exceptionTable := #[], attributes := #[] }
def k16m1 : Method := { name := "vectorizedHashCode", desc := "(Ljava/lang/Object;IIII)I", sig := { parameters := [(.object "java/lang/Object"), .int, .int, .int, .int], returnType := some .int }, accessFlags := 9, code := some k16c1 }
def k16c2 : Code := { maxStack := 3, maxLocals := 6, code := jdk_48_method_5_code, exceptionTable := #[], attributes := #[] }
def k16m2 : Method := { name := "signedHashCode", desc := "(I[BII)I", sig := { parameters := [.int, (.array .byte), .int, .int], returnType := some .int }, accessFlags := 10, code := some k16c2 }
/-- jdk/internal/util/ArraysSupport -/
def k16 : Class := { plain "jdk/internal/util/ArraysSupport" (some 0) with
  accessFlags := 33
  interfaces := #[]
  cf := some (fileOf pool16 21 #[] #[{ accessFlags := 2, nameIndex := 9, descriptorIndex := 19, attributes := #[] }, { accessFlags := 9, nameIndex := 321, descriptorIndex := 322, attributes := #[] }, { accessFlags := 10, nameIndex := 64, descriptorIndex := 65, attributes := #[] }] 33 16 #[] #[{ accessFlags := 24, nameIndex := 28, descriptorIndex := 29, attributes := #[] }, { accessFlags := 26, nameIndex := 38, descriptorIndex := 39, attributes := #[] }, { accessFlags := 25, nameIndex := 121, descriptorIndex := 25, attributes := #[] }, { accessFlags := 25, nameIndex := 131, descriptorIndex := 25, attributes := #[] }, { accessFlags := 25, nameIndex := 137, descriptorIndex := 25, attributes := #[] }, { accessFlags := 25, nameIndex := 143, descriptorIndex := 25, attributes := #[] }, { accessFlags := 25, nameIndex := 53, descriptorIndex := 25, attributes := #[] }, { accessFlags := 25, nameIndex := 24, descriptorIndex := 25, attributes := #[] }, { accessFlags := 25, nameIndex := 162, descriptorIndex := 25, attributes := #[] }, { accessFlags := 25, nameIndex := 187, descriptorIndex := 25, attributes := #[] }, { accessFlags := 26, nameIndex := 48, descriptorIndex := 25, attributes := #[] }, { accessFlags := 25, nameIndex := 277, descriptorIndex := 25, attributes := #[] }, { accessFlags := 25, nameIndex := 280, descriptorIndex := 25, attributes := #[] }, { accessFlags := 25, nameIndex := 282, descriptorIndex := 25, attributes := #[] }, { accessFlags := 25, nameIndex := 284, descriptorIndex := 25, attributes := #[] }, { accessFlags := 25, nameIndex := 286, descriptorIndex := 25, attributes := #[] }, { accessFlags := 25, nameIndex := 288, descriptorIndex := 25, attributes := #[] }, { accessFlags := 25, nameIndex := 290, descriptorIndex := 25, attributes := #[] }, { accessFlags := 25, nameIndex := 292, descriptorIndex := 25, attributes := #[] }, { accessFlags := 26, nameIndex := 108, descriptorIndex := 109, attributes := #[] }, { accessFlags := 25, nameIndex := 294, descriptorIndex := 25, attributes := #[] }])
  fields := #[{ name := "U", type := (.object "jdk/internal/misc/Unsafe"), accessFlags := 24, slot := 0, constantValue := 0 }, { name := "BIG_ENDIAN", type := .boolean, accessFlags := 26, slot := 1, constantValue := 0 }, { name := "LOG2_ARRAY_BOOLEAN_INDEX_SCALE", type := .int, accessFlags := 25, slot := 2, constantValue := 0 }, { name := "LOG2_ARRAY_BYTE_INDEX_SCALE", type := .int, accessFlags := 25, slot := 3, constantValue := 0 }, { name := "LOG2_ARRAY_CHAR_INDEX_SCALE", type := .int, accessFlags := 25, slot := 4, constantValue := 0 }, { name := "LOG2_ARRAY_SHORT_INDEX_SCALE", type := .int, accessFlags := 25, slot := 5, constantValue := 0 }, { name := "LOG2_ARRAY_INT_INDEX_SCALE", type := .int, accessFlags := 25, slot := 6, constantValue := 0 }, { name := "LOG2_ARRAY_LONG_INDEX_SCALE", type := .int, accessFlags := 25, slot := 7, constantValue := 0 }, { name := "LOG2_ARRAY_FLOAT_INDEX_SCALE", type := .int, accessFlags := 25, slot := 8, constantValue := 0 }, { name := "LOG2_ARRAY_DOUBLE_INDEX_SCALE", type := .int, accessFlags := 25, slot := 9, constantValue := 0 }, { name := "LOG2_BYTE_BIT_SIZE", type := .int, accessFlags := 26, slot := 10, constantValue := 0 }, { name := "T_BOOLEAN", type := .int, accessFlags := 25, slot := 11, constantValue := 0 }, { name := "T_CHAR", type := .int, accessFlags := 25, slot := 12, constantValue := 0 }, { name := "T_FLOAT", type := .int, accessFlags := 25, slot := 13, constantValue := 0 }, { name := "T_DOUBLE", type := .int, accessFlags := 25, slot := 14, constantValue := 0 }, { name := "T_BYTE", type := .int, accessFlags := 25, slot := 15, constantValue := 0 }, { name := "T_SHORT", type := .int, accessFlags := 25, slot := 16, constantValue := 0 }, { name := "T_INT", type := .int, accessFlags := 25, slot := 17, constantValue := 0 }, { name := "T_LONG", type := .int, accessFlags := 25, slot := 18, constantValue := 0 }, { name := "JLA", type := (.object "jdk/internal/access/JavaLangAccess"), accessFlags := 26, slot := 19, constantValue := 0 }, { name := "SOFT_MAX_ARRAY_LENGTH", type := .int, accessFlags := 25, slot := 20, constantValue := 0 }]
  methods := #[k16m0, k16m1, k16m2]
  instanceTypes := #[]
  staticTypes := #[(.object "jdk/internal/misc/Unsafe"), .boolean, .int, .int, .int, .int, .int, .int, .int, .int, .int, .int, .int, .int, .int, .int, .int, .int, .int, (.object "jdk/internal/access/JavaLangAccess"), .int]
  resolved := Array.replicate 378 none
  statics := none }

def pool17 : Array CpInfo := pool [(2, .class_ 4), (1, u "java/lang/Object"), (0, u "<init>"), (0, u "()V"), (17, .class_ 26), (1, u "jdk/internal/util/Preconditions"), (28, .class_ 56), (0, u "jdk/internal/util/Preconditions$4"), (57, .class_ 115), (0, u "jdk/internal/util/Preconditions$1"), (7, u "SIOOBE_FORMATTER"), (0, u "Ljava/util/function/BiFunction;"), (0, .class_ 126), (0, u "jdk/internal/util/Preconditions$2"), (3, u "AIOOBE_FORMATTER"), (0, .class_ 132), (0, u "jdk/internal/util/Preconditions$3"), (3, u "IOOBE_FORMATTER")] 57

def k17m0 : Method := { name := "<init>", desc := "()V", sig := { parameters := [], returnType := none }, accessFlags := 1, code := none }
/-- jdk/internal/util/Preconditions -/
def k17 : Class := { plain "jdk/internal/util/Preconditions" (some 0) with
  accessFlags := 33
  interfaces := #[]
  cf := some (fileOf pool17 24 #[.nestMembers #[55, 131, 125, 114]] #[{ accessFlags := 1, nameIndex := 5, descriptorIndex := 6, attributes := #[] }] 33 2 #[] #[{ accessFlags := 25, nameIndex := 123, descriptorIndex := 124, attributes := #[] }, { accessFlags := 25, nameIndex := 130, descriptorIndex := 124, attributes := #[] }, { accessFlags := 25, nameIndex := 136, descriptorIndex := 124, attributes := #[] }])
  fields := #[{ name := "SIOOBE_FORMATTER", type := (.object "java/util/function/BiFunction"), accessFlags := 25, slot := 0, constantValue := 0 }, { name := "AIOOBE_FORMATTER", type := (.object "java/util/function/BiFunction"), accessFlags := 25, slot := 1, constantValue := 0 }, { name := "IOOBE_FORMATTER", type := (.object "java/util/function/BiFunction"), accessFlags := 25, slot := 2, constantValue := 0 }]
  methods := #[k17m0]
  instanceTypes := #[]
  staticTypes := #[(.object "java/util/function/BiFunction"), (.object "java/util/function/BiFunction"), (.object "java/util/function/BiFunction")]
  resolved := Array.replicate 194 none
  statics := some 2 }

def pool18 : Array CpInfo := pool [(1, u "java/lang/Cloneable"), (0, .class_ 1), (0, u "java/lang/Object"), (0, .class_ 3)] 3

/-- java/lang/Cloneable -/
def k18 : Class := { plain "java/lang/Cloneable" (some 0) with
  accessFlags := 1537
  interfaces := #[]
  cf := some (fileOf pool18 2 #[] #[] 1537 4 #[] #[])
  fields := #[]
  methods := #[]
  instanceTypes := #[]
  staticTypes := #[]
  resolved := Array.replicate 8 none
  statics := none }

/-- the primitive byte -/
def k19 : Class := { plain "byte" none with kind := .primitive 'B', accessFlags := 0x411 }
/-- [B -/
def k20 : Class := { plain "[B" (some 0) with kind := .array 19 .byte, interfaces := #[18, 2], accessFlags := 1041 }

/-- the primitive char -/
def k21 : Class := { plain "char" none with kind := .primitive 'C', accessFlags := 0x411 }
/-- [C -/
def k22 : Class := { plain "[C" (some 0) with kind := .array 21 .char, interfaces := #[18, 2], accessFlags := 1041 }

/-- the primitive int -/
def k23 : Class := { plain "int" none with kind := .primitive 'I', accessFlags := 0x411 }
/-- [I -/
def k24 : Class := { plain "[I" (some 0) with kind := .array 23 .int, interfaces := #[18, 2], accessFlags := 1041 }

/-- [Ljava/lang/Integer; -/
def k25 : Class := { plain "[Ljava/lang/Integer;" (some 0) with kind := .array 11 (.object "java/lang/Integer"), interfaces := #[18, 2], accessFlags := 1041 }

/-- [Ljava/lang/Object; -/
def k26 : Class := { plain "[Ljava/lang/Object;" (some 0) with kind := .array 0 (.object "java/lang/Object"), interfaces := #[18, 2], accessFlags := 1041 }

def heap : Heap := #[{ cls := 7, slots := #[.long 0, .int 1, .null, .int 0, .null, .int 0, .int 0], vm := .statics 7 },
  { cls := 12, slots := #[.int 0, .int 127, .ref 3, .null, .int 0], vm := .statics 12 },
  { cls := 17, slots := #[.null, .null, .null], vm := .statics 17 },
  { cls := 25, slots := #[.ref 4, .ref 5, .ref 6, .ref 7, .ref 8, .ref 9, .ref 10, .ref 11, .ref 12, .ref 13, .ref 14, .ref 15, .ref 16, .ref 17, .ref 18, .ref 19, .ref 20, .ref 21, .ref 22, .ref 23, .ref 24, .ref 25, .ref 26, .ref 27, .ref 28, .ref 29, .ref 30, .ref 31, .ref 32, .ref 33, .ref 34, .ref 35, .ref 36, .ref 37, .ref 38, .ref 39, .ref 40, .ref 41, .ref 42, .ref 43, .ref 44, .ref 45, .ref 46, .ref 47, .ref 48, .ref 49, .ref 50, .ref 51, .ref 52, .ref 53, .ref 54, .ref 55, .ref 56, .ref 57, .ref 58, .ref 59, .ref 60, .ref 61, .ref 62, .ref 63, .ref 64, .ref 65, .ref 66, .ref 67, .ref 68, .ref 69, .ref 70, .ref 71, .ref 72, .ref 73, .ref 74, .ref 75, .ref 76, .ref 77, .ref 78, .ref 79, .ref 80, .ref 81, .ref 82, .ref 83, .ref 84, .ref 85, .ref 86, .ref 87, .ref 88, .ref 89, .ref 90, .ref 91, .ref 92, .ref 93, .ref 94, .ref 95, .ref 96, .ref 97, .ref 98, .ref 99, .ref 100, .ref 101, .ref 102, .ref 103, .ref 104, .ref 105, .ref 106, .ref 107, .ref 108, .ref 109, .ref 110, .ref 111, .ref 112, .ref 113, .ref 114, .ref 115, .ref 116, .ref 117, .ref 118, .ref 119, .ref 120, .ref 121, .ref 122, .ref 123, .ref 124, .ref 125, .ref 126, .ref 127, .ref 128, .ref 129, .ref 130, .ref 131, .ref 132, .ref 133, .ref 134, .ref 135, .ref 136, .ref 137, .ref 138, .ref 139, .ref 140, .ref 141, .ref 142, .ref 143, .ref 144, .ref 145, .ref 146, .ref 147, .ref 148, .ref 149, .ref 150, .ref 151, .ref 152, .ref 153, .ref 154, .ref 155, .ref 156, .ref 157, .ref 158, .ref 159, .ref 160, .ref 161, .ref 162, .ref 163, .ref 164, .ref 165, .ref 166, .ref 167, .ref 168, .ref 169, .ref 170, .ref 171, .ref 172, .ref 173, .ref 174, .ref 175, .ref 176, .ref 177, .ref 178, .ref 179, .ref 180, .ref 181, .ref 182, .ref 183, .ref 184, .ref 185, .ref 186, .ref 187, .ref 188, .ref 189, .ref 190, .ref 191, .ref 192, .ref 193, .ref 194, .ref 195, .ref 196, .ref 197, .ref 198, .ref 199, .ref 200, .ref 201, .ref 202, .ref 203, .ref 204, .ref 205, .ref 206, .ref 207, .ref 208, .ref 209, .ref 210, .ref 211, .ref 212, .ref 213, .ref 214, .ref 215, .ref 216, .ref 217, .ref 218, .ref 219, .ref 220, .ref 221, .ref 222, .ref 223, .ref 224, .ref 225, .ref 226, .ref 227, .ref 228, .ref 229, .ref 230, .ref 231, .ref 232, .ref 233, .ref 234, .ref 235, .ref 236, .ref 237, .ref 238, .ref 239, .ref 240, .ref 241, .ref 242, .ref 243, .ref 244, .ref 245, .ref 246, .ref 247, .ref 248, .ref 249, .ref 250, .ref 251, .ref 252, .ref 253, .ref 254, .ref 255, .ref 256, .ref 257, .ref 258, .ref 259], vm := .none },
  { cls := 11, slots := #[.int (-128)], vm := .none },
  { cls := 11, slots := #[.int (-127)], vm := .none },
  { cls := 11, slots := #[.int (-126)], vm := .none },
  { cls := 11, slots := #[.int (-125)], vm := .none },
  { cls := 11, slots := #[.int (-124)], vm := .none },
  { cls := 11, slots := #[.int (-123)], vm := .none },
  { cls := 11, slots := #[.int (-122)], vm := .none },
  { cls := 11, slots := #[.int (-121)], vm := .none },
  { cls := 11, slots := #[.int (-120)], vm := .none },
  { cls := 11, slots := #[.int (-119)], vm := .none },
  { cls := 11, slots := #[.int (-118)], vm := .none },
  { cls := 11, slots := #[.int (-117)], vm := .none },
  { cls := 11, slots := #[.int (-116)], vm := .none },
  { cls := 11, slots := #[.int (-115)], vm := .none },
  { cls := 11, slots := #[.int (-114)], vm := .none },
  { cls := 11, slots := #[.int (-113)], vm := .none },
  { cls := 11, slots := #[.int (-112)], vm := .none },
  { cls := 11, slots := #[.int (-111)], vm := .none },
  { cls := 11, slots := #[.int (-110)], vm := .none },
  { cls := 11, slots := #[.int (-109)], vm := .none },
  { cls := 11, slots := #[.int (-108)], vm := .none },
  { cls := 11, slots := #[.int (-107)], vm := .none },
  { cls := 11, slots := #[.int (-106)], vm := .none },
  { cls := 11, slots := #[.int (-105)], vm := .none },
  { cls := 11, slots := #[.int (-104)], vm := .none },
  { cls := 11, slots := #[.int (-103)], vm := .none },
  { cls := 11, slots := #[.int (-102)], vm := .none },
  { cls := 11, slots := #[.int (-101)], vm := .none },
  { cls := 11, slots := #[.int (-100)], vm := .none },
  { cls := 11, slots := #[.int (-99)], vm := .none },
  { cls := 11, slots := #[.int (-98)], vm := .none },
  { cls := 11, slots := #[.int (-97)], vm := .none },
  { cls := 11, slots := #[.int (-96)], vm := .none },
  { cls := 11, slots := #[.int (-95)], vm := .none },
  { cls := 11, slots := #[.int (-94)], vm := .none },
  { cls := 11, slots := #[.int (-93)], vm := .none },
  { cls := 11, slots := #[.int (-92)], vm := .none },
  { cls := 11, slots := #[.int (-91)], vm := .none },
  { cls := 11, slots := #[.int (-90)], vm := .none },
  { cls := 11, slots := #[.int (-89)], vm := .none },
  { cls := 11, slots := #[.int (-88)], vm := .none },
  { cls := 11, slots := #[.int (-87)], vm := .none },
  { cls := 11, slots := #[.int (-86)], vm := .none },
  { cls := 11, slots := #[.int (-85)], vm := .none },
  { cls := 11, slots := #[.int (-84)], vm := .none },
  { cls := 11, slots := #[.int (-83)], vm := .none },
  { cls := 11, slots := #[.int (-82)], vm := .none },
  { cls := 11, slots := #[.int (-81)], vm := .none },
  { cls := 11, slots := #[.int (-80)], vm := .none },
  { cls := 11, slots := #[.int (-79)], vm := .none },
  { cls := 11, slots := #[.int (-78)], vm := .none },
  { cls := 11, slots := #[.int (-77)], vm := .none },
  { cls := 11, slots := #[.int (-76)], vm := .none },
  { cls := 11, slots := #[.int (-75)], vm := .none },
  { cls := 11, slots := #[.int (-74)], vm := .none },
  { cls := 11, slots := #[.int (-73)], vm := .none },
  { cls := 11, slots := #[.int (-72)], vm := .none },
  { cls := 11, slots := #[.int (-71)], vm := .none },
  { cls := 11, slots := #[.int (-70)], vm := .none },
  { cls := 11, slots := #[.int (-69)], vm := .none },
  { cls := 11, slots := #[.int (-68)], vm := .none },
  { cls := 11, slots := #[.int (-67)], vm := .none },
  { cls := 11, slots := #[.int (-66)], vm := .none },
  { cls := 11, slots := #[.int (-65)], vm := .none },
  { cls := 11, slots := #[.int (-64)], vm := .none },
  { cls := 11, slots := #[.int (-63)], vm := .none },
  { cls := 11, slots := #[.int (-62)], vm := .none },
  { cls := 11, slots := #[.int (-61)], vm := .none },
  { cls := 11, slots := #[.int (-60)], vm := .none },
  { cls := 11, slots := #[.int (-59)], vm := .none },
  { cls := 11, slots := #[.int (-58)], vm := .none },
  { cls := 11, slots := #[.int (-57)], vm := .none },
  { cls := 11, slots := #[.int (-56)], vm := .none },
  { cls := 11, slots := #[.int (-55)], vm := .none },
  { cls := 11, slots := #[.int (-54)], vm := .none },
  { cls := 11, slots := #[.int (-53)], vm := .none },
  { cls := 11, slots := #[.int (-52)], vm := .none },
  { cls := 11, slots := #[.int (-51)], vm := .none },
  { cls := 11, slots := #[.int (-50)], vm := .none },
  { cls := 11, slots := #[.int (-49)], vm := .none },
  { cls := 11, slots := #[.int (-48)], vm := .none },
  { cls := 11, slots := #[.int (-47)], vm := .none },
  { cls := 11, slots := #[.int (-46)], vm := .none },
  { cls := 11, slots := #[.int (-45)], vm := .none },
  { cls := 11, slots := #[.int (-44)], vm := .none },
  { cls := 11, slots := #[.int (-43)], vm := .none },
  { cls := 11, slots := #[.int (-42)], vm := .none },
  { cls := 11, slots := #[.int (-41)], vm := .none },
  { cls := 11, slots := #[.int (-40)], vm := .none },
  { cls := 11, slots := #[.int (-39)], vm := .none },
  { cls := 11, slots := #[.int (-38)], vm := .none },
  { cls := 11, slots := #[.int (-37)], vm := .none },
  { cls := 11, slots := #[.int (-36)], vm := .none },
  { cls := 11, slots := #[.int (-35)], vm := .none },
  { cls := 11, slots := #[.int (-34)], vm := .none },
  { cls := 11, slots := #[.int (-33)], vm := .none },
  { cls := 11, slots := #[.int (-32)], vm := .none },
  { cls := 11, slots := #[.int (-31)], vm := .none },
  { cls := 11, slots := #[.int (-30)], vm := .none },
  { cls := 11, slots := #[.int (-29)], vm := .none },
  { cls := 11, slots := #[.int (-28)], vm := .none },
  { cls := 11, slots := #[.int (-27)], vm := .none },
  { cls := 11, slots := #[.int (-26)], vm := .none },
  { cls := 11, slots := #[.int (-25)], vm := .none },
  { cls := 11, slots := #[.int (-24)], vm := .none },
  { cls := 11, slots := #[.int (-23)], vm := .none },
  { cls := 11, slots := #[.int (-22)], vm := .none },
  { cls := 11, slots := #[.int (-21)], vm := .none },
  { cls := 11, slots := #[.int (-20)], vm := .none },
  { cls := 11, slots := #[.int (-19)], vm := .none },
  { cls := 11, slots := #[.int (-18)], vm := .none },
  { cls := 11, slots := #[.int (-17)], vm := .none },
  { cls := 11, slots := #[.int (-16)], vm := .none },
  { cls := 11, slots := #[.int (-15)], vm := .none },
  { cls := 11, slots := #[.int (-14)], vm := .none },
  { cls := 11, slots := #[.int (-13)], vm := .none },
  { cls := 11, slots := #[.int (-12)], vm := .none },
  { cls := 11, slots := #[.int (-11)], vm := .none },
  { cls := 11, slots := #[.int (-10)], vm := .none },
  { cls := 11, slots := #[.int (-9)], vm := .none },
  { cls := 11, slots := #[.int (-8)], vm := .none },
  { cls := 11, slots := #[.int (-7)], vm := .none },
  { cls := 11, slots := #[.int (-6)], vm := .none },
  { cls := 11, slots := #[.int (-5)], vm := .none },
  { cls := 11, slots := #[.int (-4)], vm := .none },
  { cls := 11, slots := #[.int (-3)], vm := .none },
  { cls := 11, slots := #[.int (-2)], vm := .none },
  { cls := 11, slots := #[.int (-1)], vm := .none },
  { cls := 11, slots := #[.int (0)], vm := .none },
  { cls := 11, slots := #[.int (1)], vm := .none },
  { cls := 11, slots := #[.int (2)], vm := .none },
  { cls := 11, slots := #[.int (3)], vm := .none },
  { cls := 11, slots := #[.int (4)], vm := .none },
  { cls := 11, slots := #[.int (5)], vm := .none },
  { cls := 11, slots := #[.int (6)], vm := .none },
  { cls := 11, slots := #[.int (7)], vm := .none },
  { cls := 11, slots := #[.int (8)], vm := .none },
  { cls := 11, slots := #[.int (9)], vm := .none },
  { cls := 11, slots := #[.int (10)], vm := .none },
  { cls := 11, slots := #[.int (11)], vm := .none },
  { cls := 11, slots := #[.int (12)], vm := .none },
  { cls := 11, slots := #[.int (13)], vm := .none },
  { cls := 11, slots := #[.int (14)], vm := .none },
  { cls := 11, slots := #[.int (15)], vm := .none },
  { cls := 11, slots := #[.int (16)], vm := .none },
  { cls := 11, slots := #[.int (17)], vm := .none },
  { cls := 11, slots := #[.int (18)], vm := .none },
  { cls := 11, slots := #[.int (19)], vm := .none },
  { cls := 11, slots := #[.int (20)], vm := .none },
  { cls := 11, slots := #[.int (21)], vm := .none },
  { cls := 11, slots := #[.int (22)], vm := .none },
  { cls := 11, slots := #[.int (23)], vm := .none },
  { cls := 11, slots := #[.int (24)], vm := .none },
  { cls := 11, slots := #[.int (25)], vm := .none },
  { cls := 11, slots := #[.int (26)], vm := .none },
  { cls := 11, slots := #[.int (27)], vm := .none },
  { cls := 11, slots := #[.int (28)], vm := .none },
  { cls := 11, slots := #[.int (29)], vm := .none },
  { cls := 11, slots := #[.int (30)], vm := .none },
  { cls := 11, slots := #[.int (31)], vm := .none },
  { cls := 11, slots := #[.int (32)], vm := .none },
  { cls := 11, slots := #[.int (33)], vm := .none },
  { cls := 11, slots := #[.int (34)], vm := .none },
  { cls := 11, slots := #[.int (35)], vm := .none },
  { cls := 11, slots := #[.int (36)], vm := .none },
  { cls := 11, slots := #[.int (37)], vm := .none },
  { cls := 11, slots := #[.int (38)], vm := .none },
  { cls := 11, slots := #[.int (39)], vm := .none },
  { cls := 11, slots := #[.int (40)], vm := .none },
  { cls := 11, slots := #[.int (41)], vm := .none },
  { cls := 11, slots := #[.int (42)], vm := .none },
  { cls := 11, slots := #[.int (43)], vm := .none },
  { cls := 11, slots := #[.int (44)], vm := .none },
  { cls := 11, slots := #[.int (45)], vm := .none },
  { cls := 11, slots := #[.int (46)], vm := .none },
  { cls := 11, slots := #[.int (47)], vm := .none },
  { cls := 11, slots := #[.int (48)], vm := .none },
  { cls := 11, slots := #[.int (49)], vm := .none },
  { cls := 11, slots := #[.int (50)], vm := .none },
  { cls := 11, slots := #[.int (51)], vm := .none },
  { cls := 11, slots := #[.int (52)], vm := .none },
  { cls := 11, slots := #[.int (53)], vm := .none },
  { cls := 11, slots := #[.int (54)], vm := .none },
  { cls := 11, slots := #[.int (55)], vm := .none },
  { cls := 11, slots := #[.int (56)], vm := .none },
  { cls := 11, slots := #[.int (57)], vm := .none },
  { cls := 11, slots := #[.int (58)], vm := .none },
  { cls := 11, slots := #[.int (59)], vm := .none },
  { cls := 11, slots := #[.int (60)], vm := .none },
  { cls := 11, slots := #[.int (61)], vm := .none },
  { cls := 11, slots := #[.int (62)], vm := .none },
  { cls := 11, slots := #[.int (63)], vm := .none },
  { cls := 11, slots := #[.int (64)], vm := .none },
  { cls := 11, slots := #[.int (65)], vm := .none },
  { cls := 11, slots := #[.int (66)], vm := .none },
  { cls := 11, slots := #[.int (67)], vm := .none },
  { cls := 11, slots := #[.int (68)], vm := .none },
  { cls := 11, slots := #[.int (69)], vm := .none },
  { cls := 11, slots := #[.int (70)], vm := .none },
  { cls := 11, slots := #[.int (71)], vm := .none },
  { cls := 11, slots := #[.int (72)], vm := .none },
  { cls := 11, slots := #[.int (73)], vm := .none },
  { cls := 11, slots := #[.int (74)], vm := .none },
  { cls := 11, slots := #[.int (75)], vm := .none },
  { cls := 11, slots := #[.int (76)], vm := .none },
  { cls := 11, slots := #[.int (77)], vm := .none },
  { cls := 11, slots := #[.int (78)], vm := .none },
  { cls := 11, slots := #[.int (79)], vm := .none },
  { cls := 11, slots := #[.int (80)], vm := .none },
  { cls := 11, slots := #[.int (81)], vm := .none },
  { cls := 11, slots := #[.int (82)], vm := .none },
  { cls := 11, slots := #[.int (83)], vm := .none },
  { cls := 11, slots := #[.int (84)], vm := .none },
  { cls := 11, slots := #[.int (85)], vm := .none },
  { cls := 11, slots := #[.int (86)], vm := .none },
  { cls := 11, slots := #[.int (87)], vm := .none },
  { cls := 11, slots := #[.int (88)], vm := .none },
  { cls := 11, slots := #[.int (89)], vm := .none },
  { cls := 11, slots := #[.int (90)], vm := .none },
  { cls := 11, slots := #[.int (91)], vm := .none },
  { cls := 11, slots := #[.int (92)], vm := .none },
  { cls := 11, slots := #[.int (93)], vm := .none },
  { cls := 11, slots := #[.int (94)], vm := .none },
  { cls := 11, slots := #[.int (95)], vm := .none },
  { cls := 11, slots := #[.int (96)], vm := .none },
  { cls := 11, slots := #[.int (97)], vm := .none },
  { cls := 11, slots := #[.int (98)], vm := .none },
  { cls := 11, slots := #[.int (99)], vm := .none },
  { cls := 11, slots := #[.int (100)], vm := .none },
  { cls := 11, slots := #[.int (101)], vm := .none },
  { cls := 11, slots := #[.int (102)], vm := .none },
  { cls := 11, slots := #[.int (103)], vm := .none },
  { cls := 11, slots := #[.int (104)], vm := .none },
  { cls := 11, slots := #[.int (105)], vm := .none },
  { cls := 11, slots := #[.int (106)], vm := .none },
  { cls := 11, slots := #[.int (107)], vm := .none },
  { cls := 11, slots := #[.int (108)], vm := .none },
  { cls := 11, slots := #[.int (109)], vm := .none },
  { cls := 11, slots := #[.int (110)], vm := .none },
  { cls := 11, slots := #[.int (111)], vm := .none },
  { cls := 11, slots := #[.int (112)], vm := .none },
  { cls := 11, slots := #[.int (113)], vm := .none },
  { cls := 11, slots := #[.int (114)], vm := .none },
  { cls := 11, slots := #[.int (115)], vm := .none },
  { cls := 11, slots := #[.int (116)], vm := .none },
  { cls := 11, slots := #[.int (117)], vm := .none },
  { cls := 11, slots := #[.int (118)], vm := .none },
  { cls := 11, slots := #[.int (119)], vm := .none },
  { cls := 11, slots := #[.int (120)], vm := .none },
  { cls := 11, slots := #[.int (121)], vm := .none },
  { cls := 11, slots := #[.int (122)], vm := .none },
  { cls := 11, slots := #[.int (123)], vm := .none },
  { cls := 11, slots := #[.int (124)], vm := .none },
  { cls := 11, slots := #[.int (125)], vm := .none },
  { cls := 11, slots := #[.int (126)], vm := .none },
  { cls := 11, slots := #[.int (127)], vm := .none }]
def classes : Array Class := #[k0, k1, k2, k3, k4, k5, k6, k7, k8, k9, k10, k11, k12, k13, k14, k15, k16, k17, k18, k19, k20, k21, k22, k23, k24, k25, k26]
def interned : List (Array UInt16 × Addr) := []
def slotsUsed : Nat := 527
def theMethod : MethodId := ⟨1, 1⟩
def args0 : Array Value := #[.int 5, .int 6, .int 7, .int 8, .int 9, .int 0]
def aboutOver (below : List Frame) : State where
  vm := { classes := classes, interned := interned.toArray }
  heap := heap
  slotsUsed := slotsUsed
  threads := #[{ frames := .invoking theMethod args0 :: below }]
def below0 : List Frame := [.native { method := ⟨0, 0⟩, args := #[] }]
def about1 : State := aboutOver below0
def p0 : Program := .bare "" "" ""
def e0 : Env := launch0.env 0 0 0
theorem w_frames : about1.frames = Frame.invoking theMethod args0 :: below0 := rfl
set_option maxRecDepth 65536 in
theorem w_args : argsFit about1.vm theMethod args0 = true := by decide +kernel
set_option maxRecDepth 65536 in
theorem w_heap : heapFits about1 = true := by decide +kernel
set_option maxRecDepth 65536 in
theorem w_runnable : about1.curStatus? = some .runnable := by decide +kernel
set_option maxRecDepth 65536 in
theorem w_alone : about1.alone = true := by decide +kernel
set_option maxRecDepth 65536 in
theorem w_named : about1.methodNamed? x = some theMethod := by decide +kernel
set_option maxRecDepth 65536 in
theorem w_hears : about1.hears theMethod below0 = true := by decide +kernel
set_option maxRecDepth 65536 in
theorem w_ripe : about1.ripe theMethod args0 below0 = true := by decide +kernel
theorem w_running : about1.status = .running := rfl
set_option maxRecDepth 65536 in
theorem w_room : about1.hasRoom e0.platform room_1 = true :=
  launch0.hasRoom_least _ room_1 (by decide +kernel) (by decide +kernel) (by decide +kernel) (by decide +kernel) (by decide +kernel) (by decide +kernel)
theorem allAtoms_all (ts : List Jvm.Cond) (a : Array Jvm.Value) (st : Jvm.State) : (allAtoms ts).before a st = ts.all (fun c => c.before a st) := by
  induction ts with
  | nil => rfl
  | cons c t ih =>
    show (Jvm.Cond.and c (allAtoms t)).before a st = _
    rw [Jvm.Cond.before_and, ih, List.all_cons]
def words1 : List Jvm.Cond := Jvm.Cond.code x code maxLocals ret :: tables_1
/-- a 'code' word, met by the world's own term for the bytes: nothing is compared byte by byte -/
theorem code_word {y : MethodName} {bytes : ByteArray} {mx : Nat} {rt : Option FieldType} {a : Array Value} {s : State} {m : MethodId} {meth : Method} {c : Code} (h1 : s.methodNamed? y = some m) (h2 : s.vm.method? m = some meth) (h3 : meth.code = some c) (h4 : c.code = bytes)
    (h5 : (c.maxLocals == mx && c.exceptionTable.isEmpty && decide (c.maxStack ≤ mostOperands) && decide (meth.sig.returnType = rt) && !meth.locks && decide (parseMethodDescriptor y.desc = some meth.sig)) = true) : (Jvm.Cond.code y bytes mx rt).before a s = true := by
  simp only [Bool.and_eq_true, beq_iff_eq, Bool.not_eq_true', decide_eq_true_eq] at h5
  obtain ⟨⟨⟨⟨⟨g1, g2⟩, g3⟩, g4⟩, g5⟩, g6⟩ := h5
  simp [Cond.before, Cond.holds, Cond.value, h1, h2, h3, h4, g1, g2, g3, g4, g5, g6]
def isCode : Jvm.Cond → Bool
  | .code _ _ _ _ => true
  | _ => false
theorem all_split {L : List Jvm.Cond} {P : Jvm.Cond → Bool} (h1 : L.all (fun c => isCode c || P c) = true) (h2 : ∀ c ∈ L.filter isCode, P c = true) : L.all P = true := by
  refine List.all_eq_true.mpr fun c hc => ?_
  have h := List.all_eq_true.mp h1 c hc
  rcases Bool.eq_false_or_eq_true (isCode c) with hi | hi
  · exact h2 c (List.mem_filter.mpr ⟨hc, hi⟩)
  · simpa [hi] using h
set_option maxRecDepth 65536 in
theorem w_c0 : (Jvm.Cond.code x code maxLocals ret).before args0 about1 = true := code_word (m := ⟨1, 1⟩) (meth := k1m1) (c := k1c1) (by decide +kernel) rfl rfl rfl (by decide +kernel)
set_option maxRecDepth 65536 in
theorem w_c1 : (Jvm.Cond.code ({ cls := "com/example/libhorn/libhorn/data/RelationEqualsPinLaw", name := "mk", desc := "(ICC)[C" } : Jvm.MethodName) method_3_code (3 : Nat) (Option.some (Jvm.ClassFile.FieldType.array Jvm.ClassFile.FieldType.char))).before args0 about1 = true := code_word (m := ⟨1, 2⟩) (meth := k1m2) (c := k1c2) (by decide +kernel) rfl rfl rfl (by decide +kernel)
set_option maxRecDepth 65536 in
theorem w_c2 : (Jvm.Cond.code ({ cls := "java/lang/String", name := "<init>", desc := "([C)V" } : Jvm.MethodName) jdk_42_method_3_code (2 : Nat) (Option.none : Option Jvm.ClassFile.FieldType)).before args0 about1 = true := code_word (m := ⟨7, 1⟩) (meth := k7m1) (c := k7c1) (by decide +kernel) rfl rfl rfl (by decide +kernel)
set_option maxRecDepth 65536 in
theorem w_c3 : (Jvm.Cond.code ({ cls := "java/lang/String", name := "<init>", desc := "([CIILjava/lang/Void;)V" } : Jvm.MethodName) jdk_42_method_149_code (6 : Nat) (Option.none : Option Jvm.ClassFile.FieldType)).before args0 about1 = true := code_word (m := ⟨7, 4⟩) (meth := k7m4) (c := k7c4) (by decide +kernel) rfl rfl rfl (by decide +kernel)
set_option maxRecDepth 65536 in
theorem w_c4 : (Jvm.Cond.code ({ cls := "java/lang/Object", name := "<init>", desc := "()V" } : Jvm.MethodName) object_method_1_code (1 : Nat) (Option.none : Option Jvm.ClassFile.FieldType)).before args0 about1 = true := code_word (m := ⟨0, 0⟩) (meth := k0m0) (c := k0c0) (by decide +kernel) rfl rfl rfl (by decide +kernel)
set_option maxRecDepth 65536 in
theorem w_c5 : (Jvm.Cond.code ({ cls := "com/example/libhorn/libhorn/data/Relation", name := "<init>", desc := "(Ljava/lang/String;I)V" } : Jvm.MethodName) prog_20_method_1_code (3 : Nat) (Option.none : Option Jvm.ClassFile.FieldType)).before args0 about1 = true := code_word (m := ⟨8, 0⟩) (meth := k8m0) (c := k8c0) (by decide +kernel) rfl rfl rfl (by decide +kernel)
set_option maxRecDepth 65536 in
theorem w_c6 : (Jvm.Cond.code ({ cls := "java/util/Objects", name := "requireNonNull", desc := "(Ljava/lang/Object;Ljava/lang/String;)Ljava/lang/Object;" } : Jvm.MethodName) jdk_31_method_11_code (2 : Nat) (Option.some (Jvm.ClassFile.FieldType.object "java/lang/Object"))).before args0 about1 = true := code_word (m := ⟨9, 2⟩) (meth := k9m2) (c := k9c2) (by decide +kernel) rfl rfl rfl (by decide +kernel)
set_option maxRecDepth 65536 in
theorem w_c7 : (Jvm.Cond.code ({ cls := "java/lang/Integer", name := "valueOf", desc := "(I)Ljava/lang/Integer;" } : Jvm.MethodName) jdk_33_method_22_code (1 : Nat) (Option.some (Jvm.ClassFile.FieldType.object "java/lang/Integer"))).before args0 about1 = true := code_word (m := ⟨11, 0⟩) (meth := k11m0) (c := k11c0) (by decide +kernel) rfl rfl rfl (by decide +kernel)
set_option maxRecDepth 65536 in
theorem w_c8 : (Jvm.Cond.code ({ cls := "java/util/Objects", name := "hash", desc := "([Ljava/lang/Object;)I" } : Jvm.MethodName) jdk_31_method_5_code (1 : Nat) (Option.some Jvm.ClassFile.FieldType.int)).before args0 about1 = true := code_word (m := ⟨9, 1⟩) (meth := k9m1) (c := k9c1) (by decide +kernel) rfl rfl rfl (by decide +kernel)
set_option maxRecDepth 65536 in
theorem w_c9 : (Jvm.Cond.code ({ cls := "java/util/Arrays", name := "hashCode", desc := "([Ljava/lang/Object;)I" } : Jvm.MethodName) jdk_65_method_157_code (6 : Nat) (Option.some Jvm.ClassFile.FieldType.int)).before args0 about1 = true := code_word (m := ⟨13, 1⟩) (meth := k13m1) (c := k13c1) (by decide +kernel) rfl rfl rfl (by decide +kernel)
set_option maxRecDepth 65536 in
theorem w_c10 : (Jvm.Cond.code ({ cls := "java/lang/String", name := "hashCode", desc := "()I" } : Jvm.MethodName) jdk_42_method_78_code (2 : Nat) (Option.some Jvm.ClassFile.FieldType.int)).before args0 about1 = true := code_word (m := ⟨7, 3⟩) (meth := k7m3) (c := k7c3) (by decide +kernel) rfl rfl rfl (by decide +kernel)
set_option maxRecDepth 65536 in
theorem w_c11 : (Jvm.Cond.code ({ cls := "java/lang/String", name := "isLatin1", desc := "()Z" } : Jvm.MethodName) jdk_42_method_154_code (1 : Nat) (Option.some Jvm.ClassFile.FieldType.boolean)).before args0 about1 = true := code_word (m := ⟨7, 5⟩) (meth := k7m5) (c := k7c5) (by decide +kernel) rfl rfl rfl (by decide +kernel)
set_option maxRecDepth 65536 in
theorem w_c12 : (Jvm.Cond.code ({ cls := "java/lang/StringLatin1", name := "hashCode", desc := "([B)I" } : Jvm.MethodName) jdk_43_method_21_code (1 : Nat) (Option.some Jvm.ClassFile.FieldType.int)).before args0 about1 = true := code_word (m := ⟨14, 2⟩) (meth := k14m2) (c := k14c2) (by decide +kernel) rfl rfl rfl (by decide +kernel)
set_option maxRecDepth 65536 in
theorem w_c13 : (Jvm.Cond.code ({ cls := "java/lang/Integer", name := "hashCode", desc := "()I" } : Jvm.MethodName) jdk_33_method_32_code (1 : Nat) (Option.some Jvm.ClassFile.FieldType.int)).before args0 about1 = true := code_word (m := ⟨11, 2⟩) (meth := k11m2) (c := k11c2) (by decide +kernel) rfl rfl rfl (by decide +kernel)
set_option maxRecDepth 65536 in
theorem w_c14 : (Jvm.Cond.code ({ cls := "java/lang/Integer", name := "hashCode", desc := "(I)I" } : Jvm.MethodName) jdk_33_method_33_code (1 : Nat) (Option.some Jvm.ClassFile.FieldType.int)).before args0 about1 = true := code_word (m := ⟨11, 3⟩) (meth := k11m3) (c := k11c3) (by decide +kernel) rfl rfl rfl (by decide +kernel)
set_option maxRecDepth 65536 in
theorem w_c15 : (Jvm.Cond.code ({ cls := "com/example/libhorn/libhorn/data/Relation", name := "equals", desc := "(Ljava/lang/Object;)Z" } : Jvm.MethodName) prog_20_method_4_code (3 : Nat) (Option.some Jvm.ClassFile.FieldType.boolean)).before args0 about1 = true := code_word (m := ⟨8, 1⟩) (meth := k8m1) (c := k8c1) (by decide +kernel) rfl rfl rfl (by decide +kernel)
set_option maxRecDepth 65536 in
theorem w_c16 : (Jvm.Cond.code ({ cls := "java/lang/String", name := "equals", desc := "(Ljava/lang/Object;)Z" } : Jvm.MethodName) jdk_42_method_66_code (3 : Nat) (Option.some Jvm.ClassFile.FieldType.boolean)).before args0 about1 = true := code_word (m := ⟨7, 2⟩) (meth := k7m2) (c := k7c2) (by decide +kernel) rfl rfl rfl (by decide +kernel)
set_option maxRecDepth 65536 in
theorem w_c17 : (Jvm.Cond.code ({ cls := "java/lang/StringUTF16", name := "compress", desc := "([CII)[B" } : Jvm.MethodName) jdk_52_method_16_code (6 : Nat) (Option.some (Jvm.ClassFile.FieldType.array Jvm.ClassFile.FieldType.byte))).before args0 about1 = true := code_word (m := ⟨15, 2⟩) (meth := k15m2) (c := k15c2) (by decide +kernel) rfl rfl rfl (by decide +kernel)
set_option maxRecDepth 65536 in
theorem w_c18 : (Jvm.Cond.code ({ cls := "java/lang/StringUTF16", name := "compress", desc := "([CI[BII)I" } : Jvm.MethodName) jdk_52_method_21_code (7 : Nat) (Option.some Jvm.ClassFile.FieldType.int)).before args0 about1 = true := code_word (m := ⟨15, 3⟩) (meth := k15m3) (c := k15c3) (by decide +kernel) rfl rfl rfl (by decide +kernel)
set_option maxRecDepth 65536 in
theorem w_c19 : (Jvm.Cond.code ({ cls := "java/lang/StringUTF16", name := "coderFromArrayLen", desc := "([BI)B" } : Jvm.MethodName) jdk_52_method_15_code (2 : Nat) (Option.some Jvm.ClassFile.FieldType.byte)).before args0 about1 = true := code_word (m := ⟨15, 1⟩) (meth := k15m1) (c := k15c1) (by decide +kernel) rfl rfl rfl (by decide +kernel)
set_option maxRecDepth 65536 in
theorem w_c20 : (Jvm.Cond.code ({ cls := "java/lang/Integer", name := "<init>", desc := "(I)V" } : Jvm.MethodName) jdk_33_method_23_code (2 : Nat) (Option.none : Option Jvm.ClassFile.FieldType)).before args0 about1 = true := code_word (m := ⟨11, 1⟩) (meth := k11m1) (c := k11c1) (by decide +kernel) rfl rfl rfl (by decide +kernel)
set_option maxRecDepth 65536 in
theorem w_c21 : (Jvm.Cond.code ({ cls := "java/lang/Number", name := "<init>", desc := "()V" } : Jvm.MethodName) jdk_18_method_1_code (1 : Nat) (Option.none : Option Jvm.ClassFile.FieldType)).before args0 about1 = true := code_word (m := ⟨10, 0⟩) (meth := k10m0) (c := k10c0) (by decide +kernel) rfl rfl rfl (by decide +kernel)
set_option maxRecDepth 65536 in
theorem w_c22 : (Jvm.Cond.code ({ cls := "java/lang/StringLatin1", name := "equals", desc := "([B[B)Z" } : Jvm.MethodName) jdk_43_method_13_code (3 : Nat) (Option.some Jvm.ClassFile.FieldType.boolean)).before args0 about1 = true := code_word (m := ⟨14, 1⟩) (meth := k14m1) (c := k14c1) (by decide +kernel) rfl rfl rfl (by decide +kernel)
set_option maxRecDepth 65536 in
theorem w_c23 : (Jvm.Cond.code ({ cls := "jdk/internal/util/ArraysSupport", name := "vectorizedHashCode", desc := "(Ljava/lang/Object;IIII)I" } : Jvm.MethodName) jdk_48_method_4_code (5 : Nat) (Option.some Jvm.ClassFile.FieldType.int)).before args0 about1 = true := code_word (m := ⟨16, 1⟩) (meth := k16m1) (c := k16c1) (by decide +kernel) rfl rfl rfl (by decide +kernel)
set_option maxRecDepth 65536 in
theorem w_c24 : (Jvm.Cond.code ({ cls := "jdk/internal/util/ArraysSupport", name := "signedHashCode", desc := "(I[BII)I" } : Jvm.MethodName) jdk_48_method_5_code (6 : Nat) (Option.some Jvm.ClassFile.FieldType.int)).before args0 about1 = true := code_word (m := ⟨16, 2⟩) (meth := k16m2) (c := k16c2) (by decide +kernel) rfl rfl rfl (by decide +kernel)
def codes1 : List Jvm.Cond := [Jvm.Cond.code x code maxLocals ret, Jvm.Cond.code ({ cls := "com/example/libhorn/libhorn/data/RelationEqualsPinLaw", name := "mk", desc := "(ICC)[C" } : Jvm.MethodName) method_3_code (3 : Nat) (Option.some (Jvm.ClassFile.FieldType.array Jvm.ClassFile.FieldType.char)), Jvm.Cond.code ({ cls := "java/lang/String", name := "<init>", desc := "([C)V" } : Jvm.MethodName) jdk_42_method_3_code (2 : Nat) (Option.none : Option Jvm.ClassFile.FieldType), Jvm.Cond.code ({ cls := "java/lang/String", name := "<init>", desc := "([CIILjava/lang/Void;)V" } : Jvm.MethodName) jdk_42_method_149_code (6 : Nat) (Option.none : Option Jvm.ClassFile.FieldType), Jvm.Cond.code ({ cls := "java/lang/Object", name := "<init>", desc := "()V" } : Jvm.MethodName) object_method_1_code (1 : Nat) (Option.none : Option Jvm.ClassFile.FieldType), Jvm.Cond.code ({ cls := "com/example/libhorn/libhorn/data/Relation", name := "<init>", desc := "(Ljava/lang/String;I)V" } : Jvm.MethodName) prog_20_method_1_code (3 : Nat) (Option.none : Option Jvm.ClassFile.FieldType), Jvm.Cond.code ({ cls := "java/util/Objects", name := "requireNonNull", desc := "(Ljava/lang/Object;Ljava/lang/String;)Ljava/lang/Object;" } : Jvm.MethodName) jdk_31_method_11_code (2 : Nat) (Option.some (Jvm.ClassFile.FieldType.object "java/lang/Object")), Jvm.Cond.code ({ cls := "java/lang/Integer", name := "valueOf", desc := "(I)Ljava/lang/Integer;" } : Jvm.MethodName) jdk_33_method_22_code (1 : Nat) (Option.some (Jvm.ClassFile.FieldType.object "java/lang/Integer")), Jvm.Cond.code ({ cls := "java/util/Objects", name := "hash", desc := "([Ljava/lang/Object;)I" } : Jvm.MethodName) jdk_31_method_5_code (1 : Nat) (Option.some Jvm.ClassFile.FieldType.int), Jvm.Cond.code ({ cls := "java/util/Arrays", name := "hashCode", desc := "([Ljava/lang/Object;)I" } : Jvm.MethodName) jdk_65_method_157_code (6 : Nat) (Option.some Jvm.ClassFile.FieldType.int), Jvm.Cond.code ({ cls := "java/lang/String", name := "hashCode", desc := "()I" } : Jvm.MethodName) jdk_42_method_78_code (2 : Nat) (Option.some Jvm.ClassFile.FieldType.int), Jvm.Cond.code ({ cls := "java/lang/String", name := "isLatin1", desc := "()Z" } : Jvm.MethodName) jdk_42_method_154_code (1 : Nat) (Option.some Jvm.ClassFile.FieldType.boolean), Jvm.Cond.code ({ cls := "java/lang/StringLatin1", name := "hashCode", desc := "([B)I" } : Jvm.MethodName) jdk_43_method_21_code (1 : Nat) (Option.some Jvm.ClassFile.FieldType.int), Jvm.Cond.code ({ cls := "java/lang/Integer", name := "hashCode", desc := "()I" } : Jvm.MethodName) jdk_33_method_32_code (1 : Nat) (Option.some Jvm.ClassFile.FieldType.int), Jvm.Cond.code ({ cls := "java/lang/Integer", name := "hashCode", desc := "(I)I" } : Jvm.MethodName) jdk_33_method_33_code (1 : Nat) (Option.some Jvm.ClassFile.FieldType.int), Jvm.Cond.code ({ cls := "com/example/libhorn/libhorn/data/Relation", name := "equals", desc := "(Ljava/lang/Object;)Z" } : Jvm.MethodName) prog_20_method_4_code (3 : Nat) (Option.some Jvm.ClassFile.FieldType.boolean), Jvm.Cond.code ({ cls := "java/lang/String", name := "equals", desc := "(Ljava/lang/Object;)Z" } : Jvm.MethodName) jdk_42_method_66_code (3 : Nat) (Option.some Jvm.ClassFile.FieldType.boolean), Jvm.Cond.code ({ cls := "java/lang/StringUTF16", name := "compress", desc := "([CII)[B" } : Jvm.MethodName) jdk_52_method_16_code (6 : Nat) (Option.some (Jvm.ClassFile.FieldType.array Jvm.ClassFile.FieldType.byte)), Jvm.Cond.code ({ cls := "java/lang/StringUTF16", name := "compress", desc := "([CI[BII)I" } : Jvm.MethodName) jdk_52_method_21_code (7 : Nat) (Option.some Jvm.ClassFile.FieldType.int), Jvm.Cond.code ({ cls := "java/lang/StringUTF16", name := "coderFromArrayLen", desc := "([BI)B" } : Jvm.MethodName) jdk_52_method_15_code (2 : Nat) (Option.some Jvm.ClassFile.FieldType.byte), Jvm.Cond.code ({ cls := "java/lang/Integer", name := "<init>", desc := "(I)V" } : Jvm.MethodName) jdk_33_method_23_code (2 : Nat) (Option.none : Option Jvm.ClassFile.FieldType), Jvm.Cond.code ({ cls := "java/lang/Number", name := "<init>", desc := "()V" } : Jvm.MethodName) jdk_18_method_1_code (1 : Nat) (Option.none : Option Jvm.ClassFile.FieldType), Jvm.Cond.code ({ cls := "java/lang/StringLatin1", name := "equals", desc := "([B[B)Z" } : Jvm.MethodName) jdk_43_method_13_code (3 : Nat) (Option.some Jvm.ClassFile.FieldType.boolean), Jvm.Cond.code ({ cls := "jdk/internal/util/ArraysSupport", name := "vectorizedHashCode", desc := "(Ljava/lang/Object;IIII)I" } : Jvm.MethodName) jdk_48_method_4_code (5 : Nat) (Option.some Jvm.ClassFile.FieldType.int), Jvm.Cond.code ({ cls := "jdk/internal/util/ArraysSupport", name := "signedHashCode", desc := "(I[BII)I" } : Jvm.MethodName) jdk_48_method_5_code (6 : Nat) (Option.some Jvm.ClassFile.FieldType.int)]
set_option maxRecDepth 65536 in
theorem codes_eq : words1.filter isCode = codes1 := rfl
theorem w_codes : ∀ c ∈ words1.filter isCode, c.before args0 about1 = true := by
  rw [codes_eq]
  intro c hc
  simp only [codes1, List.mem_cons, List.not_mem_nil, or_false] at hc
  rcases hc with rfl | rfl | rfl | rfl | rfl | rfl | rfl | rfl | rfl | rfl | rfl | rfl | rfl | rfl | rfl | rfl | rfl | rfl | rfl | rfl | rfl | rfl | rfl | rfl | rfl
  · exact w_c0
  · exact w_c1
  · exact w_c2
  · exact w_c3
  · exact w_c4
  · exact w_c5
  · exact w_c6
  · exact w_c7
  · exact w_c8
  · exact w_c9
  · exact w_c10
  · exact w_c11
  · exact w_c12
  · exact w_c13
  · exact w_c14
  · exact w_c15
  · exact w_c16
  · exact w_c17
  · exact w_c18
  · exact w_c19
  · exact w_c20
  · exact w_c21
  · exact w_c22
  · exact w_c23
  · exact w_c24
set_option maxRecDepth 65536 in
theorem w_t1 : (words1.take 24).all (fun c => isCode c || c.before args0 about1) = true := by decide +kernel
set_option maxRecDepth 65536 in
theorem w_t2 : ((words1.drop 24).take 24).all (fun c => isCode c || c.before args0 about1) = true := by decide +kernel
set_option maxRecDepth 65536 in
theorem w_t3 : (((words1.drop 24).drop 24).take 24).all (fun c => isCode c || c.before args0 about1) = true := by decide +kernel
set_option maxRecDepth 65536 in
theorem w_t4 : ((((words1.drop 24).drop 24).drop 24).take 24).all (fun c => isCode c || c.before args0 about1) = true := by decide +kernel
set_option maxRecDepth 65536 in
theorem w_t5 : (((((words1.drop 24).drop 24).drop 24).drop 24).take 24).all (fun c => isCode c || c.before args0 about1) = true := by decide +kernel
set_option maxRecDepth 65536 in
theorem w_t6 : (((((words1.drop 24).drop 24).drop 24).drop 24).drop 24).all (fun c => isCode c || c.before args0 about1) = true := by decide +kernel
theorem w_tables : (allAtoms (Jvm.Cond.code x code maxLocals ret :: tables_1)).before args0 about1 = true := by
  rw [allAtoms_all]
  show words1.all (fun c => c.before args0 about1) = true
  refine all_split ?_ w_codes
  rw [← List.take_append_drop 24 words1, List.all_append, w_t1, ← List.take_append_drop 24 (words1.drop 24), List.all_append, w_t2, ← List.take_append_drop 24 ((words1.drop 24).drop 24), List.all_append, w_t3, ← List.take_append_drop 24 (((words1.drop 24).drop 24).drop 24), List.all_append, w_t4, ← List.take_append_drop 24 ((((words1.drop 24).drop 24).drop 24).drop 24), List.all_append, w_t5, w_t6]
  rfl
set_option maxRecDepth 65536 in
theorem w_rest : rest_1_c.before args0 about1 = true := by decide +kernel
set_option maxRecDepth 65536 in
theorem w_case : (Jvm.Cond.and given_1 narrow_1).before args0 about1 = true := by decide +kernel
set_option maxRecDepth 65536 in
theorem w_consts : constsHeld consts_1 about1 := Jvm.Lit.constsHeldB_iff.mp (by decide +kernel)
theorem w_applies : (headSpec (Jvm.Cond.code x code maxLocals ret :: tables_1) room_1).applies x e0.platform about1 = true :=
  (Spec.applies_iff w_frames).mpr ⟨w_running, w_runnable, w_alone, w_named, w_hears, w_ripe, w_room, w_tables⟩
theorem atStart : AtStart classFile x code maxLocals ret World_1 tables_1 room_1 Calls_1 rest_1 Pre_1 launch0 p0 e0 about1 theMethod args0 below0 :=
  ⟨lists_1, trivial, launch0.admits_env _ _ _, launch0.least_env, fairChoices_fair.cas, fairChoices_fair.clock, w_frames, w_args, w_heap, w_applies, ⟨w_consts, trivial⟩, w_rest, w_case⟩
end start1
theorem witness_1 : WitnessClaimed_1 := ⟨start1.p0, start1.e0, start1.about1, start1.theMethod, start1.args0, start1.below0, start1.atStart⟩
end Jvm.Pilot.@@N@@
