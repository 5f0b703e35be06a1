import JvmDerived
import JvmDerived.Pilot.@@N@@Statement
import JvmDerived.Pilot.@@N@@Code
set_option linter.unusedVariables false
set_option linter.unusedSimpArgs false
namespace Jvm.RoadKit
open Sem ClassFile Op Lib Jvm.Stand Jvm.Free Jvm.LawKit
section OwnGo
/-- from the state T with the frame g on top the run comes to a state of which K holds -/
def own_Go (tb : Tables) (e : Env) (below : List Frame) (K : State → Prop) (T : State) (g : JFrame) : Prop := ∃ t, Steps tb e below (T.setTop g) t ∧ K t
/-- the invocation has ended by a return, with what Q says of the value, the heap and the written places -/
def own_Fin (below : List Frame) (s : State) (Q : Option Value → Heap → List Loc → Prop) (k n : Nat) (t : State) : Prop := ∃ o, t.status = .running ∧ Ended t below o ∧ ∃ v L, o = .returned v ∧ Q v t.heap L ∧ FrameEnd s o t L k n
variable {p : Program} {l : Launch} {e : Env} {R : Room} {s : State} {m : MethodId} {args : Array Value} {below : List Frame} {meth : Method} {c : Code} {T : State} {locs : List Loc} {cells slots : Nat}
variable {K : State → Prop} {T' : State} {g g' : JFrame} {tb : Tables} {Q : Option Value → Heap → List Loc → Prop} {k n : Nat}
theorem own_st (h : ∀ t, Steps tb e below (T'.setTop g') t → Steps tb e below (T.setTop g) t) (q : own_Go tb e below K T' g') : own_Go tb e below K T g := by
  obtain ⟨t, h1, h2⟩ := q
  exact ⟨t, h _ h1, h2⟩
theorem own_tr (h : Steps tb e below (T.setTop g) (T'.setTop g')) (q : own_Go tb e below K T' g') : own_Go tb e below K T g := by
  obtain ⟨t, h1, h2⟩ := q
  exact ⟨t, h.trans h1, h2⟩
theorem own_in (h : g = g') (q : own_Go tb e below K T g') : own_Go tb e below K T g := h ▸ q
theorem own_out (q : own_Go tb e below (own_Fin below s Q k n) T g) : ∃ s₂ o, Steps tb e below (T.setTop g) s₂ ∧ s₂.status = .running ∧ Ended s₂ below o ∧ ∃ v L, o = .returned v ∧ Q v s₂.heap L ∧ FrameEnd s o s₂ L k n := by
  obtain ⟨t, h1, o, h2, h3, h4⟩ := q
  exact ⟨t, o, h1, h2, h3, h4⟩
theorem own_leave (X : Stand p l e R s m args below meth c T locs cells slots) (hlk : meth.locks = false) {v : Option Value} (hv : meth.sig.returnType = none → v = none) (hq : Q v T.heap locs) (hk : cells ≤ k) (hn : slots ≤ n)
    (st : ∀ fs, (∀ (f : JFrame) (acts : List Action), f.method = m → f.locked = none → f.entered = [] → (doReturn e (T.setTop f) acts v).1 = T.setFrames fs) → Steps p.tables e below (T.setTop g) (T.setFrames fs)) :
    own_Go p.tables e below (own_Fin below s Q k n) T g := by
  obtain ⟨fs, hr, hrun, hended, hW, hsame⟩ := X.leave (v := v) hv hlk
  exact ⟨_, st fs hr, _, hrun, hended, _, _, rfl, hq, ⟨_, rfl⟩, hW, hsame.mono hk hn⟩
variable {pc : Nat} {Ls : Array Slot} {rest : List Value}
theorem own_retV (X : Stand p l e R s m args below meth c T locs cells slots) (hx : p.tables.exec = Jvm.exec) (hlk : meth.locks = false) (hret : meth.sig.returnType = none) (hd : decode c.code pc = .ok (.return_, 1)) (hq : Q none T.heap locs) (hk : cells ≤ k) (hn : slots ≤ n) :
    own_Go p.tables e below (own_Fin below s Q k n) T (mkF m pc Ls []) :=
  own_leave X hlk (fun _ => rfl) hq hk hn fun _ hr => X.returnOut hx hret hd hr
theorem own_retW (X : Stand p l e R s m args below meth c T locs cells slots) (hx : p.tables.exec = Jvm.exec) (hlk : meth.locks = false) {w : Value} {t : FieldType} {i : Instr} (hret : meth.sig.returnType = some t) (hn' : narrow t w = w)
    (hi : (i = .ireturn ∧ (t = .int ∨ t = .boolean ∨ t = .byte ∨ t = .char ∨ t = .short) ∧ ∃ z, w = .int z) ∨ (i = .lreturn ∧ t = .long ∧ ∃ z, w = .long z) ∨ (i = .dreturn ∧ t = .double ∧ ∃ z, w = .double z) ∨ (i = .freturn ∧ t = .float ∧ ∃ z, w = .float z) ∨ (i = .areturn ∧ t.isReference = true ∧ w.isRef = true))
    (hd : decode c.code pc = .ok (i, 1)) (hq : Q (some w) T.heap locs) (hk : cells ≤ k) (hn : slots ≤ n) :
    own_Go p.tables e below (own_Fin below s Q k n) T (mkF m pc Ls (w :: rest)) :=
  own_leave X hlk (fun h => by rw [hret] at h; cases h) hq hk hn fun _ hr => retOut X hx hret hn' hi hd hr
theorem own_retI (X : Stand p l e R s m args below meth c T locs cells slots) (hx : p.tables.exec = Jvm.exec) (hlk : meth.locks = false) {z : Int32} (hret : meth.sig.returnType = some .int) (hd : decode c.code pc = .ok (.ireturn, 1)) (hq : Q (some (.int z)) T.heap locs) (hk : cells ≤ k) (hn : slots ≤ n) :
    own_Go p.tables e below (own_Fin below s Q k n) T (mkF m pc Ls (.int z :: rest)) :=
  own_retW X hx hlk hret rfl (Or.inl ⟨rfl, Or.inl rfl, _, rfl⟩) hd hq hk hn
theorem own_retJ (X : Stand p l e R s m args below meth c T locs cells slots) (hx : p.tables.exec = Jvm.exec) (hlk : meth.locks = false) {z : Int64} (hret : meth.sig.returnType = some .long) (hd : decode c.code pc = .ok (.lreturn, 1)) (hq : Q (some (.long z)) T.heap locs) (hk : cells ≤ k) (hn : slots ≤ n) :
    own_Go p.tables e below (own_Fin below s Q k n) T (mkF m pc Ls (.long z :: rest)) :=
  own_retW X hx hlk hret rfl (Or.inr (Or.inl ⟨rfl, rfl, _, rfl⟩)) hd hq hk hn
theorem own_retR (X : Stand p l e R s m args below meth c T locs cells slots) (hx : p.tables.exec = Jvm.exec) (hlk : meth.locks = false) {w : Value} {t : FieldType} (hret : meth.sig.returnType = some t) (ht : t.isReference = true) (hw : w.isRef = true) (hn' : narrow t w = w) (hd : decode c.code pc = .ok (.areturn, 1)) (hq : Q (some w) T.heap locs) (hk : cells ≤ k) (hn : slots ≤ n) :
    own_Go p.tables e below (own_Fin below s Q k n) T (mkF m pc Ls (w :: rest)) :=
  own_retW X hx hlk hret hn' (Or.inr (Or.inr (Or.inr (Or.inr ⟨rfl, ht, hw⟩)))) hd hq hk hn
theorem own_retN (X : Stand p l e R s m args below meth c T locs cells slots) (hx : p.tables.exec = Jvm.exec) (hlk : meth.locks = false) {z : Int32} {t : FieldType} (hret : meth.sig.returnType = some t) (ht : t = .boolean ∨ t = .byte ∨ t = .char ∨ t = .short) (hd : decode c.code pc = .ok (.ireturn, 1)) (hq : Q (some (.int (nar t z))) T.heap locs) (hk : cells ≤ k) (hn : slots ≤ n) :
    own_Go p.tables e below (own_Fin below s Q k n) T (mkF m pc Ls (.int z :: rest)) :=
  own_leave X hlk (fun h => by rw [hret] at h; cases h) hq hk hn fun _ hr => retN X hx hret ht hd hr
/-- the same, where String constants may have been resolved -/
def own_FinW (below : List Frame) (s : State) (Q : Option Value → Heap → List Loc → Prop) (k n : Nat) (t : State) : Prop := ∃ o, t.status = .running ∧ Ended t below o ∧ ∃ v L, o = .returned v ∧ Q v t.heap L ∧ ReturnedEndW s o t L k n
theorem own_outW (q : own_Go tb e below (own_FinW below s Q k n) T g) : ∃ s₂ o, Steps tb e below (T.setTop g) s₂ ∧ s₂.status = .running ∧ Ended s₂ below o ∧ ∃ v L, o = .returned v ∧ Q v s₂.heap L ∧ ReturnedEndW s o s₂ L k n := by
  obtain ⟨t, h1, o, h2, h3, h4⟩ := q
  exact ⟨t, o, h1, h2, h3, h4⟩
theorem own_leaveW {vm0 : Vm} {k0 : Nat} (X : Stand p l e R (s.setVm vm0) m args below meth c T locs cells slots) (hS : s.Since vm0 k0) (hk0 : k0 ≤ T.heap.size) (hlk : meth.locks = false) {v : Option Value} (hv : meth.sig.returnType = none → v = none) (hq : Q v T.heap locs) (hk : cells ≤ k) (hn : slots ≤ n)
    (st : ∀ fs, (∀ (f : JFrame) (acts : List Action), f.method = m → f.locked = none → f.entered = [] → (doReturn e (T.setTop f) acts v).1 = T.setFrames fs) → Steps p.tables e below (T.setTop g) (T.setFrames fs)) :
    own_Go p.tables e below (own_FinW below s Q k n) T g := by
  obtain ⟨fs, hr, hrun, hended, h1, h2, h3, h4⟩ := X.leaveW hS hk0 (v := v) hv hlk
  exact ⟨_, st fs hr, _, hrun, hended, _, _, rfl, hq, h1, h2, h3, h4.mono hk hn⟩
theorem own_retVW {vm0 : Vm} {k0 : Nat} (X : Stand p l e R (s.setVm vm0) m args below meth c T locs cells slots) (hS : s.Since vm0 k0) (hk0 : k0 ≤ T.heap.size) (hx : p.tables.exec = Jvm.exec) (hlk : meth.locks = false) (hret : meth.sig.returnType = none) (hd : decode c.code pc = .ok (.return_, 1)) (hq : Q none T.heap locs) (hk : cells ≤ k) (hn : slots ≤ n) :
    own_Go p.tables e below (own_FinW below s Q k n) T (mkF m pc Ls []) :=
  own_leaveW X hS hk0 hlk (fun _ => rfl) hq hk hn fun _ hr => X.returnOut hx hret hd hr
theorem own_retWW {vm0 : Vm} {k0 : Nat} (X : Stand p l e R (s.setVm vm0) m args below meth c T locs cells slots) (hS : s.Since vm0 k0) (hk0 : k0 ≤ T.heap.size) (hx : p.tables.exec = Jvm.exec) (hlk : meth.locks = false) {w : Value} {t : FieldType} {i : Instr} (hret : meth.sig.returnType = some t) (hn' : narrow t w = w)
    (hi : (i = .ireturn ∧ (t = .int ∨ t = .boolean ∨ t = .byte ∨ t = .char ∨ t = .short) ∧ ∃ z, w = .int z) ∨ (i = .lreturn ∧ t = .long ∧ ∃ z, w = .long z) ∨ (i = .dreturn ∧ t = .double ∧ ∃ z, w = .double z) ∨ (i = .freturn ∧ t = .float ∧ ∃ z, w = .float z) ∨ (i = .areturn ∧ t.isReference = true ∧ w.isRef = true))
    (hd : decode c.code pc = .ok (i, 1)) (hq : Q (some w) T.heap locs) (hk : cells ≤ k) (hn : slots ≤ n) :
    own_Go p.tables e below (own_FinW below s Q k n) T (mkF m pc Ls (w :: rest)) :=
  own_leaveW X hS hk0 hlk (fun h => by rw [hret] at h; cases h) hq hk hn fun _ hr => retOut X hx hret hn' hi hd hr
theorem own_retNW {vm0 : Vm} {k0 : Nat} (X : Stand p l e R (s.setVm vm0) m args below meth c T locs cells slots) (hS : s.Since vm0 k0) (hk0 : k0 ≤ T.heap.size) (hx : p.tables.exec = Jvm.exec) (hlk : meth.locks = false) {z : Int32} {t : FieldType} (hret : meth.sig.returnType = some t) (ht : t = .boolean ∨ t = .byte ∨ t = .char ∨ t = .short) (hd : decode c.code pc = .ok (.ireturn, 1)) (hq : Q (some (.int (nar t z))) T.heap locs) (hk : cells ≤ k) (hn : slots ≤ n) :
    own_Go p.tables e below (own_FinW below s Q k n) T (mkF m pc Ls (.int z :: rest)) :=
  own_leaveW X hS hk0 hlk (fun h => by rw [hret] at h; cases h) hq hk hn fun _ hr => retN X hx hret ht hd hr
theorem own_wz {Z : State} {vm0 vm1 : Vm} {k1 : Nat} (hZ : Z.Warmed39 vm0) (hs : (s.setVm vm0).Since vm1 k1) : Z.Warmed39 (s.setVm vm1).vm := State.Warmed39.trans (t := s.setVm vm0) hZ hs.1
theorem own_wo {vm0 vm1 : Vm} {k1 : Nat} {own : String} {q : ClassId} (h : (s.setVm vm0).vm.findClass own = some q) (hs : (s.setVm vm0).Since vm1 k1) : (s.setVm vm1).vm.findClass own = some q := by
  rw [show (s.setVm vm1).vm = vm1 from rfl, hs.1.alike.findClass]; exact h
theorem own_sta_keep {Z : State} {h h' : Heap} {C f d : String} {v : Value} {ws : List Addr} (F : Sta Z h C f d v) (K : Keep h h' ws) (hs : ∀ x ∈ ws, ∀ cl : Cell, h[x]? = some cl → cl.vm.isStatics = false) : Sta Z h' C f d v := by
  obtain ⟨cf, i, k, f', st, cell, h1, h2, h3, h4, h5, h6, h7⟩ := F
  refine ⟨cf, i, k, f', st, cell, h1, h2, h3, h4, K.2.1 _ _ h5 fun q => ?_, h6, h7⟩
  rw [hs st q cell h5] at h6
  cases h6
theorem own_hide {k0 : Nat} (X : Stand p l e R s m args below meth c T locs cells slots) (N : Fr k0 locs) : ∃ L : List Loc, Stand p l e R s m args below meth c T L cells slots ∧ Fr k0 L := ⟨_, X, N⟩
theorem own_getD_int (es : List Int32) (i : Nat) : (es.map Value.int).getD i (.int 0) = .int (es.getD i 0) := by
  induction es generalizing i with
  | nil => rfl
  | cons a t ih => cases i with
    | zero => rfl
    | succ j => simpa using ih j
theorem own_getD_long (es : List Int64) (i : Nat) : (es.map Value.long).getD i (.long 0) = .long (es.getD i 0) := by
  induction es generalizing i with
  | nil => rfl
  | cons a t ih => cases i with
    | zero => rfl
    | succ j => simpa using ih j
theorem own_eq_int {args : Array Value} {s : State} {t : Term} {k : Int32} (h : (Cond.eq t (.int k)).value args s none s [] = some true) : t.eval args s none [] s = some (.int k) := by
  obtain ⟨x, y, e1, e2, hk, hk'⟩ := cmp_v (Or.inl h)
  have e3 : y = .int k := by simpa [Term.eval] using e2.symm
  subst e3
  cases x with
  | int z => simp [Cond.value, e1, e2] at h; rw [e1, h]
  | _ => simp [Kin] at hk'
end OwnGo
end Jvm.RoadKit
namespace Jvm.Pilot.@@N@@
open Jvm Jvm.ClassFile Sem Op Lib Jvm.Free Jvm.Stand Jvm.LawKit Jvm.RoadKit Bundle Jvm.Pilot.@@N@@.Jvm.D
/-! body 1: Rdf.isNameStart -/
theorem d1_0 : decode prog_50_method_4_code 0 = .ok (.iload_n 0, 1) := by decide +kernel
theorem d1_1 : decode prog_50_method_4_code 1 = .ok (.bipush 97, 2) := by decide +kernel
theorem d1_3 : decode prog_50_method_4_code 3 = .ok (.if_icmp .lt 9, 3) := by decide +kernel
theorem d1_6 : decode prog_50_method_4_code 6 = .ok (.iload_n 0, 1) := by decide +kernel
theorem d1_7 : decode prog_50_method_4_code 7 = .ok (.bipush 122, 2) := by decide +kernel
theorem d1_9 : decode prog_50_method_4_code 9 = .ok (.if_icmp .le 182, 3) := by decide +kernel
theorem d1_12 : decode prog_50_method_4_code 12 = .ok (.iload_n 0, 1) := by decide +kernel
theorem d1_13 : decode prog_50_method_4_code 13 = .ok (.bipush 65, 2) := by decide +kernel
theorem d1_15 : decode prog_50_method_4_code 15 = .ok (.if_icmp .lt 9, 3) := by decide +kernel
theorem d1_18 : decode prog_50_method_4_code 18 = .ok (.iload_n 0, 1) := by decide +kernel
theorem d1_19 : decode prog_50_method_4_code 19 = .ok (.bipush 90, 2) := by decide +kernel
theorem d1_21 : decode prog_50_method_4_code 21 = .ok (.if_icmp .le 170, 3) := by decide +kernel
theorem d1_24 : decode prog_50_method_4_code 24 = .ok (.iload_n 0, 1) := by decide +kernel
theorem d1_25 : decode prog_50_method_4_code 25 = .ok (.bipush 95, 2) := by decide +kernel
theorem d1_27 : decode prog_50_method_4_code 27 = .ok (.if_icmp .eq 164, 3) := by decide +kernel
theorem d1_30 : decode prog_50_method_4_code 30 = .ok (.iload_n 0, 1) := by decide +kernel
theorem d1_31 : decode prog_50_method_4_code 31 = .ok (.sipush 192, 3) := by decide +kernel
theorem d1_34 : decode prog_50_method_4_code 34 = .ok (.if_icmp .lt 10, 3) := by decide +kernel
theorem d1_37 : decode prog_50_method_4_code 37 = .ok (.iload_n 0, 1) := by decide +kernel
theorem d1_38 : decode prog_50_method_4_code 38 = .ok (.sipush 214, 3) := by decide +kernel
theorem d1_41 : decode prog_50_method_4_code 41 = .ok (.if_icmp .le 150, 3) := by decide +kernel
theorem d1_44 : decode prog_50_method_4_code 44 = .ok (.iload_n 0, 1) := by decide +kernel
theorem d1_45 : decode prog_50_method_4_code 45 = .ok (.sipush 216, 3) := by decide +kernel
theorem d1_48 : decode prog_50_method_4_code 48 = .ok (.if_icmp .lt 10, 3) := by decide +kernel
theorem d1_51 : decode prog_50_method_4_code 51 = .ok (.iload_n 0, 1) := by decide +kernel
theorem d1_52 : decode prog_50_method_4_code 52 = .ok (.sipush 246, 3) := by decide +kernel
theorem d1_55 : decode prog_50_method_4_code 55 = .ok (.if_icmp .le 136, 3) := by decide +kernel
theorem d1_58 : decode prog_50_method_4_code 58 = .ok (.iload_n 0, 1) := by decide +kernel
theorem d1_59 : decode prog_50_method_4_code 59 = .ok (.sipush 248, 3) := by decide +kernel
theorem d1_62 : decode prog_50_method_4_code 62 = .ok (.if_icmp .lt 10, 3) := by decide +kernel
theorem d1_65 : decode prog_50_method_4_code 65 = .ok (.iload_n 0, 1) := by decide +kernel
theorem d1_66 : decode prog_50_method_4_code 66 = .ok (.sipush 767, 3) := by decide +kernel
theorem d1_69 : decode prog_50_method_4_code 69 = .ok (.if_icmp .le 122, 3) := by decide +kernel
theorem d1_72 : decode prog_50_method_4_code 72 = .ok (.iload_n 0, 1) := by decide +kernel
theorem d1_73 : decode prog_50_method_4_code 73 = .ok (.sipush 880, 3) := by decide +kernel
theorem d1_76 : decode prog_50_method_4_code 76 = .ok (.if_icmp .lt 10, 3) := by decide +kernel
theorem d1_79 : decode prog_50_method_4_code 79 = .ok (.iload_n 0, 1) := by decide +kernel
theorem d1_80 : decode prog_50_method_4_code 80 = .ok (.sipush 893, 3) := by decide +kernel
theorem d1_83 : decode prog_50_method_4_code 83 = .ok (.if_icmp .le 108, 3) := by decide +kernel
theorem d1_86 : decode prog_50_method_4_code 86 = .ok (.iload_n 0, 1) := by decide +kernel
theorem d1_87 : decode prog_50_method_4_code 87 = .ok (.sipush 895, 3) := by decide +kernel
theorem d1_90 : decode prog_50_method_4_code 90 = .ok (.if_icmp .lt 10, 3) := by decide +kernel
theorem d1_93 : decode prog_50_method_4_code 93 = .ok (.iload_n 0, 1) := by decide +kernel
theorem d1_94 : decode prog_50_method_4_code 94 = .ok (.sipush 8191, 3) := by decide +kernel
theorem d1_97 : decode prog_50_method_4_code 97 = .ok (.if_icmp .le 94, 3) := by decide +kernel
theorem d1_100 : decode prog_50_method_4_code 100 = .ok (.iload_n 0, 1) := by decide +kernel
theorem d1_101 : decode prog_50_method_4_code 101 = .ok (.sipush 8204, 3) := by decide +kernel
theorem d1_104 : decode prog_50_method_4_code 104 = .ok (.if_icmp .lt 10, 3) := by decide +kernel
theorem d1_107 : decode prog_50_method_4_code 107 = .ok (.iload_n 0, 1) := by decide +kernel
theorem d1_108 : decode prog_50_method_4_code 108 = .ok (.sipush 8205, 3) := by decide +kernel
theorem d1_111 : decode prog_50_method_4_code 111 = .ok (.if_icmp .le 80, 3) := by decide +kernel
theorem d1_114 : decode prog_50_method_4_code 114 = .ok (.iload_n 0, 1) := by decide +kernel
theorem d1_115 : decode prog_50_method_4_code 115 = .ok (.sipush 8304, 3) := by decide +kernel
theorem d1_118 : decode prog_50_method_4_code 118 = .ok (.if_icmp .lt 10, 3) := by decide +kernel
theorem d1_121 : decode prog_50_method_4_code 121 = .ok (.iload_n 0, 1) := by decide +kernel
theorem d1_122 : decode prog_50_method_4_code 122 = .ok (.sipush 8591, 3) := by decide +kernel
theorem d1_125 : decode prog_50_method_4_code 125 = .ok (.if_icmp .le 66, 3) := by decide +kernel
theorem d1_128 : decode prog_50_method_4_code 128 = .ok (.iload_n 0, 1) := by decide +kernel
theorem d1_129 : decode prog_50_method_4_code 129 = .ok (.sipush 11264, 3) := by decide +kernel
theorem d1_132 : decode prog_50_method_4_code 132 = .ok (.if_icmp .lt 10, 3) := by decide +kernel
theorem d1_135 : decode prog_50_method_4_code 135 = .ok (.iload_n 0, 1) := by decide +kernel
theorem d1_136 : decode prog_50_method_4_code 136 = .ok (.sipush 12271, 3) := by decide +kernel
theorem d1_139 : decode prog_50_method_4_code 139 = .ok (.if_icmp .le 52, 3) := by decide +kernel
theorem d1_142 : decode prog_50_method_4_code 142 = .ok (.iload_n 0, 1) := by decide +kernel
theorem d1_143 : decode prog_50_method_4_code 143 = .ok (.sipush 12289, 3) := by decide +kernel
theorem d1_146 : decode prog_50_method_4_code 146 = .ok (.if_icmp .lt 9, 3) := by decide +kernel
theorem d1_149 : decode prog_50_method_4_code 149 = .ok (.iload_n 0, 1) := by decide +kernel
theorem d1_150 : decode prog_50_method_4_code 150 = .ok (.ldc 76, 2) := by decide +kernel
theorem d1_152 : decode prog_50_method_4_code 152 = .ok (.if_icmp .le 39, 3) := by decide +kernel
theorem d1_155 : decode prog_50_method_4_code 155 = .ok (.iload_n 0, 1) := by decide +kernel
theorem d1_156 : decode prog_50_method_4_code 156 = .ok (.ldc 77, 2) := by decide +kernel
theorem d1_158 : decode prog_50_method_4_code 158 = .ok (.if_icmp .lt 9, 3) := by decide +kernel
theorem d1_161 : decode prog_50_method_4_code 161 = .ok (.iload_n 0, 1) := by decide +kernel
theorem d1_162 : decode prog_50_method_4_code 162 = .ok (.ldc 78, 2) := by decide +kernel
theorem d1_164 : decode prog_50_method_4_code 164 = .ok (.if_icmp .le 27, 3) := by decide +kernel
theorem d1_167 : decode prog_50_method_4_code 167 = .ok (.iload_n 0, 1) := by decide +kernel
theorem d1_168 : decode prog_50_method_4_code 168 = .ok (.ldc 79, 2) := by decide +kernel
theorem d1_170 : decode prog_50_method_4_code 170 = .ok (.if_icmp .lt 9, 3) := by decide +kernel
theorem d1_173 : decode prog_50_method_4_code 173 = .ok (.iload_n 0, 1) := by decide +kernel
theorem d1_174 : decode prog_50_method_4_code 174 = .ok (.ldc 80, 2) := by decide +kernel
theorem d1_176 : decode prog_50_method_4_code 176 = .ok (.if_icmp .le 15, 3) := by decide +kernel
theorem d1_179 : decode prog_50_method_4_code 179 = .ok (.iload_n 0, 1) := by decide +kernel
theorem d1_180 : decode prog_50_method_4_code 180 = .ok (.ldc 81, 2) := by decide +kernel
theorem d1_182 : decode prog_50_method_4_code 182 = .ok (.if_icmp .lt 13, 3) := by decide +kernel
theorem d1_185 : decode prog_50_method_4_code 185 = .ok (.iload_n 0, 1) := by decide +kernel
theorem d1_186 : decode prog_50_method_4_code 186 = .ok (.ldc 82, 2) := by decide +kernel
theorem d1_188 : decode prog_50_method_4_code 188 = .ok (.if_icmp .gt 7, 3) := by decide +kernel
theorem d1_191 : decode prog_50_method_4_code 191 = .ok (.iconst 1, 1) := by decide +kernel
theorem d1_192 : decode prog_50_method_4_code 192 = .ok (.goto 4, 3) := by decide +kernel
theorem d1_195 : decode prog_50_method_4_code 195 = .ok (.iconst 0, 1) := by decide +kernel
theorem d1_196 : decode prog_50_method_4_code 196 = .ok (.ireturn, 1) := by decide +kernel
theorem pn_shelfmark_Rdf : plainName "shelfmark/Rdf" = true := by first | (simp [plainName, overriddenIn]; done) | decide +kernel
theorem ef_1 (m : MethodId) (x0 : Int32) : entryFrame m #[(.int x0)] 1 = mkF m 0 #[.val (.int x0)] [] := by first | (simp [entryFrame, mkF, argsToLocals, Value.category]; done) | rfl
def own_f1_195 (p0 : Int32) : Int32 := (0 : Int32)
def own_f1_191 (p0 : Int32) : Int32 := (1 : Int32)
def own_f1_179 (p0 : Int32) : Int32 := (if p0 < (65536 : Int32) then (own_f1_195 p0) else (if (983039 : Int32) < p0 then (own_f1_195 p0) else (own_f1_191 p0)))
def own_f1_167 (p0 : Int32) : Int32 := (if p0 < (65008 : Int32) then (own_f1_179 p0) else (if (65533 : Int32) < p0 then (own_f1_179 p0) else (own_f1_191 p0)))
def own_f1_155 (p0 : Int32) : Int32 := (if p0 < (63744 : Int32) then (own_f1_167 p0) else (if (64975 : Int32) < p0 then (own_f1_167 p0) else (own_f1_191 p0)))
def own_f1_142 (p0 : Int32) : Int32 := (if p0 < (12289 : Int32) then (own_f1_155 p0) else (if (55295 : Int32) < p0 then (own_f1_155 p0) else (own_f1_191 p0)))
def own_f1_128 (p0 : Int32) : Int32 := (if p0 < (11264 : Int32) then (own_f1_142 p0) else (if (12271 : Int32) < p0 then (own_f1_142 p0) else (own_f1_191 p0)))
def own_f1_114 (p0 : Int32) : Int32 := (if p0 < (8304 : Int32) then (own_f1_128 p0) else (if (8591 : Int32) < p0 then (own_f1_128 p0) else (own_f1_191 p0)))
def own_f1_100 (p0 : Int32) : Int32 := (if p0 < (8204 : Int32) then (own_f1_114 p0) else (if (8205 : Int32) < p0 then (own_f1_114 p0) else (own_f1_191 p0)))
def own_f1_86 (p0 : Int32) : Int32 := (if p0 < (895 : Int32) then (own_f1_100 p0) else (if (8191 : Int32) < p0 then (own_f1_100 p0) else (own_f1_191 p0)))
def own_f1_72 (p0 : Int32) : Int32 := (if p0 < (880 : Int32) then (own_f1_86 p0) else (if (893 : Int32) < p0 then (own_f1_86 p0) else (own_f1_191 p0)))
def own_f1_58 (p0 : Int32) : Int32 := (if p0 < (248 : Int32) then (own_f1_72 p0) else (if (767 : Int32) < p0 then (own_f1_72 p0) else (own_f1_191 p0)))
def own_f1_44 (p0 : Int32) : Int32 := (if p0 < (216 : Int32) then (own_f1_58 p0) else (if (246 : Int32) < p0 then (own_f1_58 p0) else (own_f1_191 p0)))
def own_f1_24 (p0 : Int32) : Int32 := (if p0 = (95 : Int32) then (own_f1_191 p0) else (if p0 < (192 : Int32) then (own_f1_44 p0) else (if (214 : Int32) < p0 then (own_f1_44 p0) else (own_f1_191 p0))))
def own_f1_12 (p0 : Int32) : Int32 := (if p0 < (65 : Int32) then (own_f1_24 p0) else (if (90 : Int32) < p0 then (own_f1_24 p0) else (own_f1_191 p0)))
def own_f1 (p0 : Int32) : Int32 := (if p0 < (97 : Int32) then (own_f1_12 p0) else (if (122 : Int32) < p0 then (own_f1_12 p0) else (own_f1_191 p0)))
def Q1 (Z : State) (p0 : Int32) (h0 : Heap) (n0 : Nat) (v : Option Value) (h : Heap) (L : List Loc) : Prop := v = some (.int (own_f1 p0)) ∧ Fr n0 L ∧ h = h0
set_option maxRecDepth 65536 in
set_option maxHeartbeats 40000000 in
theorem rm1 (l : Launch) (Z : State) (a0 : Array Value) (hw : ∀ d ∈ tables_1, d.before a0 Z = true) (ws : List Jvm.Cond) (p0 : Int32) (h0 : Heap) (n0 : Nat) (Z0 : n0 ≤ h0.size) :
    MetFree l (⟨"shelfmark/Rdf", "isNameStart", "(I)Z"⟩ : MethodName) (head1 (Jvm.Cond.code (⟨"shelfmark/Rdf", "isNameStart", "(I)Z"⟩ : MethodName) prog_50_method_4_code 1 (some .boolean) :: ws) ({ frames := 0, cells := 0, slots := 0, locals := 0 } : Room)) (fun a U => a = #[(.int p0)] ∧ Z.Warmed39 U.vm ∧ U.heap = h0) (fun _ _ _ _ _ => True) (fun _ U o U' => ∃ v L, o = .returned v ∧ Q1 Z p0 h0 n0 v U'.heap L ∧ FrameEnd U o U' L ({ frames := 0, cells := 0, slots := 0, locals := 0 } : Room).cells ({ frames := 0, cells := 0, slots := 0, locals := 0 } : Room).slots) := by
  refine MetFree.of_bodySF (plainFor_of_name pn_shelfmark_Rdf) hisR ?_
  intro p e s m args below meth c s₁ Bd hml0 hP hK
  obtain ⟨rfl, hZ, hh⟩ := hP
  have hx := Bd.exec
  have hby := Bd.bytes
  have hlk := Bd.notSynchronized
  have hrt := Bd.returns
  have hml : c.maxLocals = 1 := hml0
  have hown : s.vm.findClass "shelfmark/Rdf" = some m.cls := findClass_of_methodNamed Bd.named
  have hnm := (name_of_methodNamed Bd.named Bd.method).1
  have X0 : Stand p l e ({ frames := 0, cells := 0, slots := 0, locals := 0 } : Room) s m #[(.int p0)] below meth c s₁ [] 0 0 := Stand.of_body Bd
  have e0 : s₁.heap = h0 := by rw [← hh, Bd.state]; rfl
  have N0 := Fr.nil n0
  have K0 := Keep.refl h0 []
  refine own_out (Q := Q1 Z p0 h0 n0) ?_
  refine own_in (ef_1 m p0) ?_
  have J195 : own_f1 p0 = own_f1_195 p0 → own_Go p.tables e below (own_Fin below s (Q1 Z p0 h0 n0) ({ frames := 0, cells := 0, slots := 0, locals := 0 } : Room).cells ({ frames := 0, cells := 0, slots := 0, locals := 0 } : Room).slots) s₁ (mkF m 195 #[.val (.int p0)] []) := by
    intro hf195
    show own_Go _ _ _ _ s₁ (mkF m 195 #[.val (.int p0)] [])
    refine own_st (fun t k => XS.iconst X0.here hx rfl (hb hby d1_195) k) ?_
    show own_Go _ _ _ _ s₁ (mkF m 196 #[.val (.int p0)] [(.int (0 : Int32))])
    exact own_retN X0 hx hlk (t := .boolean) hrt (by simp) (hb hby d1_196) ⟨(by rw [hf195]; simp only [own_f1_195]; first | rfl | done), N0, e0⟩ (by decide) (by decide)
  have J191 : own_f1 p0 = own_f1_191 p0 → own_Go p.tables e below (own_Fin below s (Q1 Z p0 h0 n0) ({ frames := 0, cells := 0, slots := 0, locals := 0 } : Room).cells ({ frames := 0, cells := 0, slots := 0, locals := 0 } : Room).slots) s₁ (mkF m 191 #[.val (.int p0)] []) := by
    intro hf191
    show own_Go _ _ _ _ s₁ (mkF m 191 #[.val (.int p0)] [])
    refine own_st (fun t k => XS.iconst X0.here hx rfl (hb hby d1_191) k) ?_
    show own_Go _ _ _ _ s₁ (mkF m 192 #[.val (.int p0)] [(.int (1 : Int32))])
    refine own_st (fun t k => XS.goto X0.here hx rfl (pc0 := 192) (pc' := 196) rfl (hb hby d1_192) (by decide) (by decide) k) ?_
    show own_Go _ _ _ _ s₁ (mkF m 196 #[.val (.int p0)] [(.int (1 : Int32))])
    exact own_retN X0 hx hlk (t := .boolean) hrt (by simp) (hb hby d1_196) ⟨(by rw [hf191]; simp only [own_f1_191]; first | rfl | done), N0, e0⟩ (by decide) (by decide)
  have J179 : own_f1 p0 = own_f1_179 p0 → own_Go p.tables e below (own_Fin below s (Q1 Z p0 h0 n0) ({ frames := 0, cells := 0, slots := 0, locals := 0 } : Room).cells ({ frames := 0, cells := 0, slots := 0, locals := 0 } : Room).slots) s₁ (mkF m 179 #[.val (.int p0)] []) := by
    intro hf179
    show own_Go _ _ _ _ s₁ (mkF m 179 #[.val (.int p0)] [])
    refine own_st (fun t k => XS.iloadN X0.here hx rfl (hb hby d1_179) rfl k) ?_
    show own_Go _ _ _ _ s₁ (mkF m 180 #[.val (.int p0)] [(.int p0)])
    refine own_st (X0.ldcInt hx hown (mvT hZ (hw _ (List.mem_of_getElem? (i := 16) rfl))) (g := (mkF m 180 #[.val (.int p0)] [(.int p0)])) rfl (hb hby d1_180)) ?_
    show own_Go _ _ _ _ s₁ (mkF m 182 #[.val (.int p0)] [(.int (65536 : Int32)), (.int p0)])
    by_cases c182_1 : p0 < (65536 : Int32)
    ·
      refine own_st (fun t k => XS.icmpYes X0.here hx rfl (pc0 := 182) (pc' := 195) rfl (hb hby d1_182) rfl (tlt c182_1).1 (by decide) (by decide) k) ?_
      show own_Go _ _ _ _ s₁ (mkF m 195 #[.val (.int p0)] [])
      exact J195 (hf179.trans (by simp only [own_f1_179, if_pos c182_1]; first | rfl | done))
    ·
      refine own_st (fun t k => XS.icmpNo X0.here hx rfl (hb hby d1_182) rfl (flt c182_1).1 k) ?_
      show own_Go _ _ _ _ s₁ (mkF m 185 #[.val (.int p0)] [])
      refine own_st (fun t k => XS.iloadN X0.here hx rfl (hb hby d1_185) rfl k) ?_
      show own_Go _ _ _ _ s₁ (mkF m 186 #[.val (.int p0)] [(.int p0)])
      refine own_st (X0.ldcInt hx hown (mvT hZ (hw _ (List.mem_of_getElem? (i := 27) rfl))) (g := (mkF m 186 #[.val (.int p0)] [(.int p0)])) rfl (hb hby d1_186)) ?_
      show own_Go _ _ _ _ s₁ (mkF m 188 #[.val (.int p0)] [(.int (983039 : Int32)), (.int p0)])
      by_cases c188_2 : (983039 : Int32) < p0
      ·
        refine own_st (fun t k => XS.icmpYes X0.here hx rfl (pc0 := 188) (pc' := 195) rfl (hb hby d1_188) rfl (tlt c188_2).2.2.1 (by decide) (by decide) k) ?_
        show own_Go _ _ _ _ s₁ (mkF m 195 #[.val (.int p0)] [])
        exact J195 (hf179.trans (by simp only [own_f1_179, if_neg c182_1, if_pos c188_2]; first | rfl | done))
      ·
        refine own_st (fun t k => XS.icmpNo X0.here hx rfl (hb hby d1_188) rfl (flt c188_2).2.2.1 k) ?_
        show own_Go _ _ _ _ s₁ (mkF m 191 #[.val (.int p0)] [])
        exact J191 (hf179.trans (by simp only [own_f1_179, if_neg c182_1, if_neg c188_2]; first | rfl | done))
  have J167 : own_f1 p0 = own_f1_167 p0 → own_Go p.tables e below (own_Fin below s (Q1 Z p0 h0 n0) ({ frames := 0, cells := 0, slots := 0, locals := 0 } : Room).cells ({ frames := 0, cells := 0, slots := 0, locals := 0 } : Room).slots) s₁ (mkF m 167 #[.val (.int p0)] []) := by
    intro hf167
    show own_Go _ _ _ _ s₁ (mkF m 167 #[.val (.int p0)] [])
    refine own_st (fun t k => XS.iloadN X0.here hx rfl (hb hby d1_167) rfl k) ?_
    show own_Go _ _ _ _ s₁ (mkF m 168 #[.val (.int p0)] [(.int p0)])
    refine own_st (X0.ldcInt hx hown (mvT hZ (hw _ (List.mem_of_getElem? (i := 15) rfl))) (g := (mkF m 168 #[.val (.int p0)] [(.int p0)])) rfl (hb hby d1_168)) ?_
    show own_Go _ _ _ _ s₁ (mkF m 170 #[.val (.int p0)] [(.int (65008 : Int32)), (.int p0)])
    by_cases c170_3 : p0 < (65008 : Int32)
    ·
      refine own_st (fun t k => XS.icmpYes X0.here hx rfl (pc0 := 170) (pc' := 179) rfl (hb hby d1_170) rfl (tlt c170_3).1 (by decide) (by decide) k) ?_
      show own_Go _ _ _ _ s₁ (mkF m 179 #[.val (.int p0)] [])
      exact J179 (hf167.trans (by simp only [own_f1_167, if_pos c170_3]; first | rfl | done))
    ·
      refine own_st (fun t k => XS.icmpNo X0.here hx rfl (hb hby d1_170) rfl (flt c170_3).1 k) ?_
      show own_Go _ _ _ _ s₁ (mkF m 173 #[.val (.int p0)] [])
      refine own_st (fun t k => XS.iloadN X0.here hx rfl (hb hby d1_173) rfl k) ?_
      show own_Go _ _ _ _ s₁ (mkF m 174 #[.val (.int p0)] [(.int p0)])
      refine own_st (X0.ldcInt hx hown (mvT hZ (hw _ (List.mem_of_getElem? (i := 26) rfl))) (g := (mkF m 174 #[.val (.int p0)] [(.int p0)])) rfl (hb hby d1_174)) ?_
      show own_Go _ _ _ _ s₁ (mkF m 176 #[.val (.int p0)] [(.int (65533 : Int32)), (.int p0)])
      by_cases c176_4 : (65533 : Int32) < p0
      ·
        refine own_st (fun t k => XS.icmpNo X0.here hx rfl (hb hby d1_176) rfl (tlt c176_4).2.2.2 k) ?_
        show own_Go _ _ _ _ s₁ (mkF m 179 #[.val (.int p0)] [])
        exact J179 (hf167.trans (by simp only [own_f1_167, if_neg c170_3, if_pos c176_4]; first | rfl | done))
      ·
        refine own_st (fun t k => XS.icmpYes X0.here hx rfl (pc0 := 176) (pc' := 191) rfl (hb hby d1_176) rfl (flt c176_4).2.2.2 (by decide) (by decide) k) ?_
        show own_Go _ _ _ _ s₁ (mkF m 191 #[.val (.int p0)] [])
        exact J191 (hf167.trans (by simp only [own_f1_167, if_neg c170_3, if_neg c176_4]; first | rfl | done))
  have J155 : own_f1 p0 = own_f1_155 p0 → own_Go p.tables e below (own_Fin below s (Q1 Z p0 h0 n0) ({ frames := 0, cells := 0, slots := 0, locals := 0 } : Room).cells ({ frames := 0, cells := 0, slots := 0, locals := 0 } : Room).slots) s₁ (mkF m 155 #[.val (.int p0)] []) := by
    intro hf155
    show own_Go _ _ _ _ s₁ (mkF m 155 #[.val (.int p0)] [])
    refine own_st (fun t k => XS.iloadN X0.here hx rfl (hb hby d1_155) rfl k) ?_
    show own_Go _ _ _ _ s₁ (mkF m 156 #[.val (.int p0)] [(.int p0)])
    refine own_st (X0.ldcInt hx hown (mvT hZ (hw _ (List.mem_of_getElem? (i := 14) rfl))) (g := (mkF m 156 #[.val (.int p0)] [(.int p0)])) rfl (hb hby d1_156)) ?_
    show own_Go _ _ _ _ s₁ (mkF m 158 #[.val (.int p0)] [(.int (63744 : Int32)), (.int p0)])
    by_cases c158_5 : p0 < (63744 : Int32)
    ·
      refine own_st (fun t k => XS.icmpYes X0.here hx rfl (pc0 := 158) (pc' := 167) rfl (hb hby d1_158) rfl (tlt c158_5).1 (by decide) (by decide) k) ?_
      show own_Go _ _ _ _ s₁ (mkF m 167 #[.val (.int p0)] [])
      exact J167 (hf155.trans (by simp only [own_f1_155, if_pos c158_5]; first | rfl | done))
    ·
      refine own_st (fun t k => XS.icmpNo X0.here hx rfl (hb hby d1_158) rfl (flt c158_5).1 k) ?_
      show own_Go _ _ _ _ s₁ (mkF m 161 #[.val (.int p0)] [])
      refine own_st (fun t k => XS.iloadN X0.here hx rfl (hb hby d1_161) rfl k) ?_
      show own_Go _ _ _ _ s₁ (mkF m 162 #[.val (.int p0)] [(.int p0)])
      refine own_st (X0.ldcInt hx hown (mvT hZ (hw _ (List.mem_of_getElem? (i := 25) rfl))) (g := (mkF m 162 #[.val (.int p0)] [(.int p0)])) rfl (hb hby d1_162)) ?_
      show own_Go _ _ _ _ s₁ (mkF m 164 #[.val (.int p0)] [(.int (64975 : Int32)), (.int p0)])
      by_cases c164_6 : (64975 : Int32) < p0
      ·
        refine own_st (fun t k => XS.icmpNo X0.here hx rfl (hb hby d1_164) rfl (tlt c164_6).2.2.2 k) ?_
        show own_Go _ _ _ _ s₁ (mkF m 167 #[.val (.int p0)] [])
        exact J167 (hf155.trans (by simp only [own_f1_155, if_neg c158_5, if_pos c164_6]; first | rfl | done))
      ·
        refine own_st (fun t k => XS.icmpYes X0.here hx rfl (pc0 := 164) (pc' := 191) rfl (hb hby d1_164) rfl (flt c164_6).2.2.2 (by decide) (by decide) k) ?_
        show own_Go _ _ _ _ s₁ (mkF m 191 #[.val (.int p0)] [])
        exact J191 (hf155.trans (by simp only [own_f1_155, if_neg c158_5, if_neg c164_6]; first | rfl | done))
  have J142 : own_f1 p0 = own_f1_142 p0 → own_Go p.tables e below (own_Fin below s (Q1 Z p0 h0 n0) ({ frames := 0, cells := 0, slots := 0, locals := 0 } : Room).cells ({ frames := 0, cells := 0, slots := 0, locals := 0 } : Room).slots) s₁ (mkF m 142 #[.val (.int p0)] []) := by
    intro hf142
    show own_Go _ _ _ _ s₁ (mkF m 142 #[.val (.int p0)] [])
    refine own_st (fun t k => XS.iloadN X0.here hx rfl (hb hby d1_142) rfl k) ?_
    show own_Go _ _ _ _ s₁ (mkF m 143 #[.val (.int p0)] [(.int p0)])
    refine own_st (fun t k => XS.sipush X0.here hx rfl (hb hby d1_143) k) ?_
    show own_Go _ _ _ _ s₁ (mkF m 146 #[.val (.int p0)] [(.int (12289 : Int32)), (.int p0)])
    by_cases c146_7 : p0 < (12289 : Int32)
    ·
      refine own_st (fun t k => XS.icmpYes X0.here hx rfl (pc0 := 146) (pc' := 155) rfl (hb hby d1_146) rfl (tlt c146_7).1 (by decide) (by decide) k) ?_
      show own_Go _ _ _ _ s₁ (mkF m 155 #[.val (.int p0)] [])
      exact J155 (hf142.trans (by simp only [own_f1_142, if_pos c146_7]; first | rfl | done))
    ·
      refine own_st (fun t k => XS.icmpNo X0.here hx rfl (hb hby d1_146) rfl (flt c146_7).1 k) ?_
      show own_Go _ _ _ _ s₁ (mkF m 149 #[.val (.int p0)] [])
      refine own_st (fun t k => XS.iloadN X0.here hx rfl (hb hby d1_149) rfl k) ?_
      show own_Go _ _ _ _ s₁ (mkF m 150 #[.val (.int p0)] [(.int p0)])
      refine own_st (X0.ldcInt hx hown (mvT hZ (hw _ (List.mem_of_getElem? (i := 24) rfl))) (g := (mkF m 150 #[.val (.int p0)] [(.int p0)])) rfl (hb hby d1_150)) ?_
      show own_Go _ _ _ _ s₁ (mkF m 152 #[.val (.int p0)] [(.int (55295 : Int32)), (.int p0)])
      by_cases c152_8 : (55295 : Int32) < p0
      ·
        refine own_st (fun t k => XS.icmpNo X0.here hx rfl (hb hby d1_152) rfl (tlt c152_8).2.2.2 k) ?_
        show own_Go _ _ _ _ s₁ (mkF m 155 #[.val (.int p0)] [])
        exact J155 (hf142.trans (by simp only [own_f1_142, if_neg c146_7, if_pos c152_8]; first | rfl | done))
      ·
        refine own_st (fun t k => XS.icmpYes X0.here hx rfl (pc0 := 152) (pc' := 191) rfl (hb hby d1_152) rfl (flt c152_8).2.2.2 (by decide) (by decide) k) ?_
        show own_Go _ _ _ _ s₁ (mkF m 191 #[.val (.int p0)] [])
        exact J191 (hf142.trans (by simp only [own_f1_142, if_neg c146_7, if_neg c152_8]; first | rfl | done))
  have J128 : own_f1 p0 = own_f1_128 p0 → own_Go p.tables e below (own_Fin below s (Q1 Z p0 h0 n0) ({ frames := 0, cells := 0, slots := 0, locals := 0 } : Room).cells ({ frames := 0, cells := 0, slots := 0, locals := 0 } : Room).slots) s₁ (mkF m 128 #[.val (.int p0)] []) := by
    intro hf128
    show own_Go _ _ _ _ s₁ (mkF m 128 #[.val (.int p0)] [])
    refine own_st (fun t k => XS.iloadN X0.here hx rfl (hb hby d1_128) rfl k) ?_
    show own_Go _ _ _ _ s₁ (mkF m 129 #[.val (.int p0)] [(.int p0)])
    refine own_st (fun t k => XS.sipush X0.here hx rfl (hb hby d1_129) k) ?_
    show own_Go _ _ _ _ s₁ (mkF m 132 #[.val (.int p0)] [(.int (11264 : Int32)), (.int p0)])
    by_cases c132_9 : p0 < (11264 : Int32)
    ·
      refine own_st (fun t k => XS.icmpYes X0.here hx rfl (pc0 := 132) (pc' := 142) rfl (hb hby d1_132) rfl (tlt c132_9).1 (by decide) (by decide) k) ?_
      show own_Go _ _ _ _ s₁ (mkF m 142 #[.val (.int p0)] [])
      exact J142 (hf128.trans (by simp only [own_f1_128, if_pos c132_9]; first | rfl | done))
    ·
      refine own_st (fun t k => XS.icmpNo X0.here hx rfl (hb hby d1_132) rfl (flt c132_9).1 k) ?_
      show own_Go _ _ _ _ s₁ (mkF m 135 #[.val (.int p0)] [])
      refine own_st (fun t k => XS.iloadN X0.here hx rfl (hb hby d1_135) rfl k) ?_
      show own_Go _ _ _ _ s₁ (mkF m 136 #[.val (.int p0)] [(.int p0)])
      refine own_st (fun t k => XS.sipush X0.here hx rfl (hb hby d1_136) k) ?_
      show own_Go _ _ _ _ s₁ (mkF m 139 #[.val (.int p0)] [(.int (12271 : Int32)), (.int p0)])
      by_cases c139_10 : (12271 : Int32) < p0
      ·
        refine own_st (fun t k => XS.icmpNo X0.here hx rfl (hb hby d1_139) rfl (tlt c139_10).2.2.2 k) ?_
        show own_Go _ _ _ _ s₁ (mkF m 142 #[.val (.int p0)] [])
        exact J142 (hf128.trans (by simp only [own_f1_128, if_neg c132_9, if_pos c139_10]; first | rfl | done))
      ·
        refine own_st (fun t k => XS.icmpYes X0.here hx rfl (pc0 := 139) (pc' := 191) rfl (hb hby d1_139) rfl (flt c139_10).2.2.2 (by decide) (by decide) k) ?_
        show own_Go _ _ _ _ s₁ (mkF m 191 #[.val (.int p0)] [])
        exact J191 (hf128.trans (by simp only [own_f1_128, if_neg c132_9, if_neg c139_10]; first | rfl | done))
  have J114 : own_f1 p0 = own_f1_114 p0 → own_Go p.tables e below (own_Fin below s (Q1 Z p0 h0 n0) ({ frames := 0, cells := 0, slots := 0, locals := 0 } : Room).cells ({ frames := 0, cells := 0, slots := 0, locals := 0 } : Room).slots) s₁ (mkF m 114 #[.val (.int p0)] []) := by
    intro hf114
    show own_Go _ _ _ _ s₁ (mkF m 114 #[.val (.int p0)] [])
    refine own_st (fun t k => XS.iloadN X0.here hx rfl (hb hby d1_114) rfl k) ?_
    show own_Go _ _ _ _ s₁ (mkF m 115 #[.val (.int p0)] [(.int p0)])
    refine own_st (fun t k => XS.sipush X0.here hx rfl (hb hby d1_115) k) ?_
    show own_Go _ _ _ _ s₁ (mkF m 118 #[.val (.int p0)] [(.int (8304 : Int32)), (.int p0)])
    by_cases c118_11 : p0 < (8304 : Int32)
    ·
      refine own_st (fun t k => XS.icmpYes X0.here hx rfl (pc0 := 118) (pc' := 128) rfl (hb hby d1_118) rfl (tlt c118_11).1 (by decide) (by decide) k) ?_
      show own_Go _ _ _ _ s₁ (mkF m 128 #[.val (.int p0)] [])
      exact J128 (hf114.trans (by simp only [own_f1_114, if_pos c118_11]; first | rfl | done))
    ·
      refine own_st (fun t k => XS.icmpNo X0.here hx rfl (hb hby d1_118) rfl (flt c118_11).1 k) ?_
      show own_Go _ _ _ _ s₁ (mkF m 121 #[.val (.int p0)] [])
      refine own_st (fun t k => XS.iloadN X0.here hx rfl (hb hby d1_121) rfl k) ?_
      show own_Go _ _ _ _ s₁ (mkF m 122 #[.val (.int p0)] [(.int p0)])
      refine own_st (fun t k => XS.sipush X0.here hx rfl (hb hby d1_122) k) ?_
      show own_Go _ _ _ _ s₁ (mkF m 125 #[.val (.int p0)] [(.int (8591 : Int32)), (.int p0)])
      by_cases c125_12 : (8591 : Int32) < p0
      ·
        refine own_st (fun t k => XS.icmpNo X0.here hx rfl (hb hby d1_125) rfl (tlt c125_12).2.2.2 k) ?_
        show own_Go _ _ _ _ s₁ (mkF m 128 #[.val (.int p0)] [])
        exact J128 (hf114.trans (by simp only [own_f1_114, if_neg c118_11, if_pos c125_12]; first | rfl | done))
      ·
        refine own_st (fun t k => XS.icmpYes X0.here hx rfl (pc0 := 125) (pc' := 191) rfl (hb hby d1_125) rfl (flt c125_12).2.2.2 (by decide) (by decide) k) ?_
        show own_Go _ _ _ _ s₁ (mkF m 191 #[.val (.int p0)] [])
        exact J191 (hf114.trans (by simp only [own_f1_114, if_neg c118_11, if_neg c125_12]; first | rfl | done))
  have J100 : own_f1 p0 = own_f1_100 p0 → own_Go p.tables e below (own_Fin below s (Q1 Z p0 h0 n0) ({ frames := 0, cells := 0, slots := 0, locals := 0 } : Room).cells ({ frames := 0, cells := 0, slots := 0, locals := 0 } : Room).slots) s₁ (mkF m 100 #[.val (.int p0)] []) := by
    intro hf100
    show own_Go _ _ _ _ s₁ (mkF m 100 #[.val (.int p0)] [])
    refine own_st (fun t k => XS.iloadN X0.here hx rfl (hb hby d1_100) rfl k) ?_
    show own_Go _ _ _ _ s₁ (mkF m 101 #[.val (.int p0)] [(.int p0)])
    refine own_st (fun t k => XS.sipush X0.here hx rfl (hb hby d1_101) k) ?_
    show own_Go _ _ _ _ s₁ (mkF m 104 #[.val (.int p0)] [(.int (8204 : Int32)), (.int p0)])
    by_cases c104_13 : p0 < (8204 : Int32)
    ·
      refine own_st (fun t k => XS.icmpYes X0.here hx rfl (pc0 := 104) (pc' := 114) rfl (hb hby d1_104) rfl (tlt c104_13).1 (by decide) (by decide) k) ?_
      show own_Go _ _ _ _ s₁ (mkF m 114 #[.val (.int p0)] [])
      exact J114 (hf100.trans (by simp only [own_f1_100, if_pos c104_13]; first | rfl | done))
    ·
      refine own_st (fun t k => XS.icmpNo X0.here hx rfl (hb hby d1_104) rfl (flt c104_13).1 k) ?_
      show own_Go _ _ _ _ s₁ (mkF m 107 #[.val (.int p0)] [])
      refine own_st (fun t k => XS.iloadN X0.here hx rfl (hb hby d1_107) rfl k) ?_
      show own_Go _ _ _ _ s₁ (mkF m 108 #[.val (.int p0)] [(.int p0)])
      refine own_st (fun t k => XS.sipush X0.here hx rfl (hb hby d1_108) k) ?_
      show own_Go _ _ _ _ s₁ (mkF m 111 #[.val (.int p0)] [(.int (8205 : Int32)), (.int p0)])
      by_cases c111_14 : (8205 : Int32) < p0
      ·
        refine own_st (fun t k => XS.icmpNo X0.here hx rfl (hb hby d1_111) rfl (tlt c111_14).2.2.2 k) ?_
        show own_Go _ _ _ _ s₁ (mkF m 114 #[.val (.int p0)] [])
        exact J114 (hf100.trans (by simp only [own_f1_100, if_neg c104_13, if_pos c111_14]; first | rfl | done))
      ·
        refine own_st (fun t k => XS.icmpYes X0.here hx rfl (pc0 := 111) (pc' := 191) rfl (hb hby d1_111) rfl (flt c111_14).2.2.2 (by decide) (by decide) k) ?_
        show own_Go _ _ _ _ s₁ (mkF m 191 #[.val (.int p0)] [])
        exact J191 (hf100.trans (by simp only [own_f1_100, if_neg c104_13, if_neg c111_14]; first | rfl | done))
  have J86 : own_f1 p0 = own_f1_86 p0 → own_Go p.tables e below (own_Fin below s (Q1 Z p0 h0 n0) ({ frames := 0, cells := 0, slots := 0, locals := 0 } : Room).cells ({ frames := 0, cells := 0, slots := 0, locals := 0 } : Room).slots) s₁ (mkF m 86 #[.val (.int p0)] []) := by
    intro hf86
    show own_Go _ _ _ _ s₁ (mkF m 86 #[.val (.int p0)] [])
    refine own_st (fun t k => XS.iloadN X0.here hx rfl (hb hby d1_86) rfl k) ?_
    show own_Go _ _ _ _ s₁ (mkF m 87 #[.val (.int p0)] [(.int p0)])
    refine own_st (fun t k => XS.sipush X0.here hx rfl (hb hby d1_87) k) ?_
    show own_Go _ _ _ _ s₁ (mkF m 90 #[.val (.int p0)] [(.int (895 : Int32)), (.int p0)])
    by_cases c90_15 : p0 < (895 : Int32)
    ·
      refine own_st (fun t k => XS.icmpYes X0.here hx rfl (pc0 := 90) (pc' := 100) rfl (hb hby d1_90) rfl (tlt c90_15).1 (by decide) (by decide) k) ?_
      show own_Go _ _ _ _ s₁ (mkF m 100 #[.val (.int p0)] [])
      exact J100 (hf86.trans (by simp only [own_f1_86, if_pos c90_15]; first | rfl | done))
    ·
      refine own_st (fun t k => XS.icmpNo X0.here hx rfl (hb hby d1_90) rfl (flt c90_15).1 k) ?_
      show own_Go _ _ _ _ s₁ (mkF m 93 #[.val (.int p0)] [])
      refine own_st (fun t k => XS.iloadN X0.here hx rfl (hb hby d1_93) rfl k) ?_
      show own_Go _ _ _ _ s₁ (mkF m 94 #[.val (.int p0)] [(.int p0)])
      refine own_st (fun t k => XS.sipush X0.here hx rfl (hb hby d1_94) k) ?_
      show own_Go _ _ _ _ s₁ (mkF m 97 #[.val (.int p0)] [(.int (8191 : Int32)), (.int p0)])
      by_cases c97_16 : (8191 : Int32) < p0
      ·
        refine own_st (fun t k => XS.icmpNo X0.here hx rfl (hb hby d1_97) rfl (tlt c97_16).2.2.2 k) ?_
        show own_Go _ _ _ _ s₁ (mkF m 100 #[.val (.int p0)] [])
        exact J100 (hf86.trans (by simp only [own_f1_86, if_neg c90_15, if_pos c97_16]; first | rfl | done))
      ·
        refine own_st (fun t k => XS.icmpYes X0.here hx rfl (pc0 := 97) (pc' := 191) rfl (hb hby d1_97) rfl (flt c97_16).2.2.2 (by decide) (by decide) k) ?_
        show own_Go _ _ _ _ s₁ (mkF m 191 #[.val (.int p0)] [])
        exact J191 (hf86.trans (by simp only [own_f1_86, if_neg c90_15, if_neg c97_16]; first | rfl | done))
  have J72 : own_f1 p0 = own_f1_72 p0 → own_Go p.tables e below (own_Fin below s (Q1 Z p0 h0 n0) ({ frames := 0, cells := 0, slots := 0, locals := 0 } : Room).cells ({ frames := 0, cells := 0, slots := 0, locals := 0 } : Room).slots) s₁ (mkF m 72 #[.val (.int p0)] []) := by
    intro hf72
    show own_Go _ _ _ _ s₁ (mkF m 72 #[.val (.int p0)] [])
    refine own_st (fun t k => XS.iloadN X0.here hx rfl (hb hby d1_72) rfl k) ?_
    show own_Go _ _ _ _ s₁ (mkF m 73 #[.val (.int p0)] [(.int p0)])
    refine own_st (fun t k => XS.sipush X0.here hx rfl (hb hby d1_73) k) ?_
    show own_Go _ _ _ _ s₁ (mkF m 76 #[.val (.int p0)] [(.int (880 : Int32)), (.int p0)])
    by_cases c76_17 : p0 < (880 : Int32)
    ·
      refine own_st (fun t k => XS.icmpYes X0.here hx rfl (pc0 := 76) (pc' := 86) rfl (hb hby d1_76) rfl (tlt c76_17).1 (by decide) (by decide) k) ?_
      show own_Go _ _ _ _ s₁ (mkF m 86 #[.val (.int p0)] [])
      exact J86 (hf72.trans (by simp only [own_f1_72, if_pos c76_17]; first | rfl | done))
    ·
      refine own_st (fun t k => XS.icmpNo X0.here hx rfl (hb hby d1_76) rfl (flt c76_17).1 k) ?_
      show own_Go _ _ _ _ s₁ (mkF m 79 #[.val (.int p0)] [])
      refine own_st (fun t k => XS.iloadN X0.here hx rfl (hb hby d1_79) rfl k) ?_
      show own_Go _ _ _ _ s₁ (mkF m 80 #[.val (.int p0)] [(.int p0)])
      refine own_st (fun t k => XS.sipush X0.here hx rfl (hb hby d1_80) k) ?_
      show own_Go _ _ _ _ s₁ (mkF m 83 #[.val (.int p0)] [(.int (893 : Int32)), (.int p0)])
      by_cases c83_18 : (893 : Int32) < p0
      ·
        refine own_st (fun t k => XS.icmpNo X0.here hx rfl (hb hby d1_83) rfl (tlt c83_18).2.2.2 k) ?_
        show own_Go _ _ _ _ s₁ (mkF m 86 #[.val (.int p0)] [])
        exact J86 (hf72.trans (by simp only [own_f1_72, if_neg c76_17, if_pos c83_18]; first | rfl | done))
      ·
        refine own_st (fun t k => XS.icmpYes X0.here hx rfl (pc0 := 83) (pc' := 191) rfl (hb hby d1_83) rfl (flt c83_18).2.2.2 (by decide) (by decide) k) ?_
        show own_Go _ _ _ _ s₁ (mkF m 191 #[.val (.int p0)] [])
        exact J191 (hf72.trans (by simp only [own_f1_72, if_neg c76_17, if_neg c83_18]; first | rfl | done))
  have J58 : own_f1 p0 = own_f1_58 p0 → own_Go p.tables e below (own_Fin below s (Q1 Z p0 h0 n0) ({ frames := 0, cells := 0, slots := 0, locals := 0 } : Room).cells ({ frames := 0, cells := 0, slots := 0, locals := 0 } : Room).slots) s₁ (mkF m 58 #[.val (.int p0)] []) := by
    intro hf58
    show own_Go _ _ _ _ s₁ (mkF m 58 #[.val (.int p0)] [])
    refine own_st (fun t k => XS.iloadN X0.here hx rfl (hb hby d1_58) rfl k) ?_
    show own_Go _ _ _ _ s₁ (mkF m 59 #[.val (.int p0)] [(.int p0)])
    refine own_st (fun t k => XS.sipush X0.here hx rfl (hb hby d1_59) k) ?_
    show own_Go _ _ _ _ s₁ (mkF m 62 #[.val (.int p0)] [(.int (248 : Int32)), (.int p0)])
    by_cases c62_19 : p0 < (248 : Int32)
    ·
      refine own_st (fun t k => XS.icmpYes X0.here hx rfl (pc0 := 62) (pc' := 72) rfl (hb hby d1_62) rfl (tlt c62_19).1 (by decide) (by decide) k) ?_
      show own_Go _ _ _ _ s₁ (mkF m 72 #[.val (.int p0)] [])
      exact J72 (hf58.trans (by simp only [own_f1_58, if_pos c62_19]; first | rfl | done))
    ·
      refine own_st (fun t k => XS.icmpNo X0.here hx rfl (hb hby d1_62) rfl (flt c62_19).1 k) ?_
      show own_Go _ _ _ _ s₁ (mkF m 65 #[.val (.int p0)] [])
      refine own_st (fun t k => XS.iloadN X0.here hx rfl (hb hby d1_65) rfl k) ?_
      show own_Go _ _ _ _ s₁ (mkF m 66 #[.val (.int p0)] [(.int p0)])
      refine own_st (fun t k => XS.sipush X0.here hx rfl (hb hby d1_66) k) ?_
      show own_Go _ _ _ _ s₁ (mkF m 69 #[.val (.int p0)] [(.int (767 : Int32)), (.int p0)])
      by_cases c69_20 : (767 : Int32) < p0
      ·
        refine own_st (fun t k => XS.icmpNo X0.here hx rfl (hb hby d1_69) rfl (tlt c69_20).2.2.2 k) ?_
        show own_Go _ _ _ _ s₁ (mkF m 72 #[.val (.int p0)] [])
        exact J72 (hf58.trans (by simp only [own_f1_58, if_neg c62_19, if_pos c69_20]; first | rfl | done))
      ·
        refine own_st (fun t k => XS.icmpYes X0.here hx rfl (pc0 := 69) (pc' := 191) rfl (hb hby d1_69) rfl (flt c69_20).2.2.2 (by decide) (by decide) k) ?_
        show own_Go _ _ _ _ s₁ (mkF m 191 #[.val (.int p0)] [])
        exact J191 (hf58.trans (by simp only [own_f1_58, if_neg c62_19, if_neg c69_20]; first | rfl | done))
  have J44 : own_f1 p0 = own_f1_44 p0 → own_Go p.tables e below (own_Fin below s (Q1 Z p0 h0 n0) ({ frames := 0, cells := 0, slots := 0, locals := 0 } : Room).cells ({ frames := 0, cells := 0, slots := 0, locals := 0 } : Room).slots) s₁ (mkF m 44 #[.val (.int p0)] []) := by
    intro hf44
    show own_Go _ _ _ _ s₁ (mkF m 44 #[.val (.int p0)] [])
    refine own_st (fun t k => XS.iloadN X0.here hx rfl (hb hby d1_44) rfl k) ?_
    show own_Go _ _ _ _ s₁ (mkF m 45 #[.val (.int p0)] [(.int p0)])
    refine own_st (fun t k => XS.sipush X0.here hx rfl (hb hby d1_45) k) ?_
    show own_Go _ _ _ _ s₁ (mkF m 48 #[.val (.int p0)] [(.int (216 : Int32)), (.int p0)])
    by_cases c48_21 : p0 < (216 : Int32)
    ·
      refine own_st (fun t k => XS.icmpYes X0.here hx rfl (pc0 := 48) (pc' := 58) rfl (hb hby d1_48) rfl (tlt c48_21).1 (by decide) (by decide) k) ?_
      show own_Go _ _ _ _ s₁ (mkF m 58 #[.val (.int p0)] [])
      exact J58 (hf44.trans (by simp only [own_f1_44, if_pos c48_21]; first | rfl | done))
    ·
      refine own_st (fun t k => XS.icmpNo X0.here hx rfl (hb hby d1_48) rfl (flt c48_21).1 k) ?_
      show own_Go _ _ _ _ s₁ (mkF m 51 #[.val (.int p0)] [])
      refine own_st (fun t k => XS.iloadN X0.here hx rfl (hb hby d1_51) rfl k) ?_
      show own_Go _ _ _ _ s₁ (mkF m 52 #[.val (.int p0)] [(.int p0)])
      refine own_st (fun t k => XS.sipush X0.here hx rfl (hb hby d1_52) k) ?_
      show own_Go _ _ _ _ s₁ (mkF m 55 #[.val (.int p0)] [(.int (246 : Int32)), (.int p0)])
      by_cases c55_22 : (246 : Int32) < p0
      ·
        refine own_st (fun t k => XS.icmpNo X0.here hx rfl (hb hby d1_55) rfl (tlt c55_22).2.2.2 k) ?_
        show own_Go _ _ _ _ s₁ (mkF m 58 #[.val (.int p0)] [])
        exact J58 (hf44.trans (by simp only [own_f1_44, if_neg c48_21, if_pos c55_22]; first | rfl | done))
      ·
        refine own_st (fun t k => XS.icmpYes X0.here hx rfl (pc0 := 55) (pc' := 191) rfl (hb hby d1_55) rfl (flt c55_22).2.2.2 (by decide) (by decide) k) ?_
        show own_Go _ _ _ _ s₁ (mkF m 191 #[.val (.int p0)] [])
        exact J191 (hf44.trans (by simp only [own_f1_44, if_neg c48_21, if_neg c55_22]; first | rfl | done))
  have J24 : own_f1 p0 = own_f1_24 p0 → own_Go p.tables e below (own_Fin below s (Q1 Z p0 h0 n0) ({ frames := 0, cells := 0, slots := 0, locals := 0 } : Room).cells ({ frames := 0, cells := 0, slots := 0, locals := 0 } : Room).slots) s₁ (mkF m 24 #[.val (.int p0)] []) := by
    intro hf24
    show own_Go _ _ _ _ s₁ (mkF m 24 #[.val (.int p0)] [])
    refine own_st (fun t k => XS.iloadN X0.here hx rfl (hb hby d1_24) rfl k) ?_
    show own_Go _ _ _ _ s₁ (mkF m 25 #[.val (.int p0)] [(.int p0)])
    refine own_st (fun t k => XS.bipush X0.here hx rfl (hb hby d1_25) k) ?_
    show own_Go _ _ _ _ s₁ (mkF m 27 #[.val (.int p0)] [(.int (95 : Int32)), (.int p0)])
    by_cases c27_23 : p0 = (95 : Int32)
    ·
      refine own_st (fun t k => XS.icmpYes X0.here hx rfl (pc0 := 27) (pc' := 191) rfl (hb hby d1_27) rfl (teq c27_23).1 (by decide) (by decide) k) ?_
      show own_Go _ _ _ _ s₁ (mkF m 191 #[.val (.int p0)] [])
      exact J191 (hf24.trans (by simp only [own_f1_24, if_pos c27_23]; first | rfl | done))
    ·
      refine own_st (fun t k => XS.icmpNo X0.here hx rfl (hb hby d1_27) rfl (feq c27_23).1 k) ?_
      show own_Go _ _ _ _ s₁ (mkF m 30 #[.val (.int p0)] [])
      refine own_st (fun t k => XS.iloadN X0.here hx rfl (hb hby d1_30) rfl k) ?_
      show own_Go _ _ _ _ s₁ (mkF m 31 #[.val (.int p0)] [(.int p0)])
      refine own_st (fun t k => XS.sipush X0.here hx rfl (hb hby d1_31) k) ?_
      show own_Go _ _ _ _ s₁ (mkF m 34 #[.val (.int p0)] [(.int (192 : Int32)), (.int p0)])
      by_cases c34_24 : p0 < (192 : Int32)
      ·
        refine own_st (fun t k => XS.icmpYes X0.here hx rfl (pc0 := 34) (pc' := 44) rfl (hb hby d1_34) rfl (tlt c34_24).1 (by decide) (by decide) k) ?_
        show own_Go _ _ _ _ s₁ (mkF m 44 #[.val (.int p0)] [])
        exact J44 (hf24.trans (by simp only [own_f1_24, if_neg c27_23, if_pos c34_24]; first | rfl | done))
      ·
        refine own_st (fun t k => XS.icmpNo X0.here hx rfl (hb hby d1_34) rfl (flt c34_24).1 k) ?_
        show own_Go _ _ _ _ s₁ (mkF m 37 #[.val (.int p0)] [])
        refine own_st (fun t k => XS.iloadN X0.here hx rfl (hb hby d1_37) rfl k) ?_
        show own_Go _ _ _ _ s₁ (mkF m 38 #[.val (.int p0)] [(.int p0)])
        refine own_st (fun t k => XS.sipush X0.here hx rfl (hb hby d1_38) k) ?_
        show own_Go _ _ _ _ s₁ (mkF m 41 #[.val (.int p0)] [(.int (214 : Int32)), (.int p0)])
        by_cases c41_25 : (214 : Int32) < p0
        ·
          refine own_st (fun t k => XS.icmpNo X0.here hx rfl (hb hby d1_41) rfl (tlt c41_25).2.2.2 k) ?_
          show own_Go _ _ _ _ s₁ (mkF m 44 #[.val (.int p0)] [])
          exact J44 (hf24.trans (by simp only [own_f1_24, if_neg c27_23, if_neg c34_24, if_pos c41_25]; first | rfl | done))
        ·
          refine own_st (fun t k => XS.icmpYes X0.here hx rfl (pc0 := 41) (pc' := 191) rfl (hb hby d1_41) rfl (flt c41_25).2.2.2 (by decide) (by decide) k) ?_
          show own_Go _ _ _ _ s₁ (mkF m 191 #[.val (.int p0)] [])
          exact J191 (hf24.trans (by simp only [own_f1_24, if_neg c27_23, if_neg c34_24, if_neg c41_25]; first | rfl | done))
  have J12 : own_f1 p0 = own_f1_12 p0 → own_Go p.tables e below (own_Fin below s (Q1 Z p0 h0 n0) ({ frames := 0, cells := 0, slots := 0, locals := 0 } : Room).cells ({ frames := 0, cells := 0, slots := 0, locals := 0 } : Room).slots) s₁ (mkF m 12 #[.val (.int p0)] []) := by
    intro hf12
    show own_Go _ _ _ _ s₁ (mkF m 12 #[.val (.int p0)] [])
    refine own_st (fun t k => XS.iloadN X0.here hx rfl (hb hby d1_12) rfl k) ?_
    show own_Go _ _ _ _ s₁ (mkF m 13 #[.val (.int p0)] [(.int p0)])
    refine own_st (fun t k => XS.bipush X0.here hx rfl (hb hby d1_13) k) ?_
    show own_Go _ _ _ _ s₁ (mkF m 15 #[.val (.int p0)] [(.int (65 : Int32)), (.int p0)])
    by_cases c15_26 : p0 < (65 : Int32)
    ·
      refine own_st (fun t k => XS.icmpYes X0.here hx rfl (pc0 := 15) (pc' := 24) rfl (hb hby d1_15) rfl (tlt c15_26).1 (by decide) (by decide) k) ?_
      show own_Go _ _ _ _ s₁ (mkF m 24 #[.val (.int p0)] [])
      exact J24 (hf12.trans (by simp only [own_f1_12, if_pos c15_26]; first | rfl | done))
    ·
      refine own_st (fun t k => XS.icmpNo X0.here hx rfl (hb hby d1_15) rfl (flt c15_26).1 k) ?_
      show own_Go _ _ _ _ s₁ (mkF m 18 #[.val (.int p0)] [])
      refine own_st (fun t k => XS.iloadN X0.here hx rfl (hb hby d1_18) rfl k) ?_
      show own_Go _ _ _ _ s₁ (mkF m 19 #[.val (.int p0)] [(.int p0)])
      refine own_st (fun t k => XS.bipush X0.here hx rfl (hb hby d1_19) k) ?_
      show own_Go _ _ _ _ s₁ (mkF m 21 #[.val (.int p0)] [(.int (90 : Int32)), (.int p0)])
      by_cases c21_27 : (90 : Int32) < p0
      ·
        refine own_st (fun t k => XS.icmpNo X0.here hx rfl (hb hby d1_21) rfl (tlt c21_27).2.2.2 k) ?_
        show own_Go _ _ _ _ s₁ (mkF m 24 #[.val (.int p0)] [])
        exact J24 (hf12.trans (by simp only [own_f1_12, if_neg c15_26, if_pos c21_27]; first | rfl | done))
      ·
        refine own_st (fun t k => XS.icmpYes X0.here hx rfl (pc0 := 21) (pc' := 191) rfl (hb hby d1_21) rfl (flt c21_27).2.2.2 (by decide) (by decide) k) ?_
        show own_Go _ _ _ _ s₁ (mkF m 191 #[.val (.int p0)] [])
        exact J191 (hf12.trans (by simp only [own_f1_12, if_neg c15_26, if_neg c21_27]; first | rfl | done))
  show own_Go _ _ _ _ s₁ (mkF m 0 #[.val (.int p0)] [])
  refine own_st (fun t k => XS.iloadN X0.here hx rfl (hb hby d1_0) rfl k) ?_
  show own_Go _ _ _ _ s₁ (mkF m 1 #[.val (.int p0)] [(.int p0)])
  refine own_st (fun t k => XS.bipush X0.here hx rfl (hb hby d1_1) k) ?_
  show own_Go _ _ _ _ s₁ (mkF m 3 #[.val (.int p0)] [(.int (97 : Int32)), (.int p0)])
  by_cases c3_28 : p0 < (97 : Int32)
  ·
    refine own_st (fun t k => XS.icmpYes X0.here hx rfl (pc0 := 3) (pc' := 12) rfl (hb hby d1_3) rfl (tlt c3_28).1 (by decide) (by decide) k) ?_
    show own_Go _ _ _ _ s₁ (mkF m 12 #[.val (.int p0)] [])
    exact J12 (by simp only [own_f1, if_pos c3_28]; first | rfl | done)
  ·
    refine own_st (fun t k => XS.icmpNo X0.here hx rfl (hb hby d1_3) rfl (flt c3_28).1 k) ?_
    show own_Go _ _ _ _ s₁ (mkF m 6 #[.val (.int p0)] [])
    refine own_st (fun t k => XS.iloadN X0.here hx rfl (hb hby d1_6) rfl k) ?_
    show own_Go _ _ _ _ s₁ (mkF m 7 #[.val (.int p0)] [(.int p0)])
    refine own_st (fun t k => XS.bipush X0.here hx rfl (hb hby d1_7) k) ?_
    show own_Go _ _ _ _ s₁ (mkF m 9 #[.val (.int p0)] [(.int (122 : Int32)), (.int p0)])
    by_cases c9_29 : (122 : Int32) < p0
    ·
      refine own_st (fun t k => XS.icmpNo X0.here hx rfl (hb hby d1_9) rfl (tlt c9_29).2.2.2 k) ?_
      show own_Go _ _ _ _ s₁ (mkF m 12 #[.val (.int p0)] [])
      exact J12 (by simp only [own_f1, if_neg c3_28, if_pos c9_29]; first | rfl | done)
    ·
      refine own_st (fun t k => XS.icmpYes X0.here hx rfl (pc0 := 9) (pc' := 191) rfl (hb hby d1_9) rfl (flt c9_29).2.2.2 (by decide) (by decide) k) ?_
      show own_Go _ _ _ _ s₁ (mkF m 191 #[.val (.int p0)] [])
      exact J191 (by simp only [own_f1, if_neg c3_28, if_neg c9_29]; first | rfl | done)
/-! body 2: RdfIsNameStartPinLaw.excluded -/
theorem d2_0 : decode method_2_code 0 = .ok (.iload_n 0, 1) := by decide +kernel
theorem d2_1 : decode method_2_code 1 = .ok (.bipush 65, 2) := by decide +kernel
theorem d2_3 : decode method_2_code 3 = .ok (.if_icmp .lt 167, 3) := by decide +kernel
theorem d2_6 : decode method_2_code 6 = .ok (.iload_n 0, 1) := by decide +kernel
theorem d2_7 : decode method_2_code 7 = .ok (.bipush 90, 2) := by decide +kernel
theorem d2_9 : decode method_2_code 9 = .ok (.if_icmp .le 15, 3) := by decide +kernel
theorem d2_12 : decode method_2_code 12 = .ok (.iload_n 0, 1) := by decide +kernel
theorem d2_13 : decode method_2_code 13 = .ok (.bipush 97, 2) := by decide +kernel
theorem d2_15 : decode method_2_code 15 = .ok (.if_icmp .ge 9, 3) := by decide +kernel
theorem d2_18 : decode method_2_code 18 = .ok (.iload_n 0, 1) := by decide +kernel
theorem d2_19 : decode method_2_code 19 = .ok (.bipush 95, 2) := by decide +kernel
theorem d2_21 : decode method_2_code 21 = .ok (.if_icmp .ne 149, 3) := by decide +kernel
theorem d2_24 : decode method_2_code 24 = .ok (.iload_n 0, 1) := by decide +kernel
theorem d2_25 : decode method_2_code 25 = .ok (.bipush 122, 2) := by decide +kernel
theorem d2_27 : decode method_2_code 27 = .ok (.if_icmp .le 10, 3) := by decide +kernel
theorem d2_30 : decode method_2_code 30 = .ok (.iload_n 0, 1) := by decide +kernel
theorem d2_31 : decode method_2_code 31 = .ok (.sipush 192, 3) := by decide +kernel
theorem d2_34 : decode method_2_code 34 = .ok (.if_icmp .lt 136, 3) := by decide +kernel
theorem d2_37 : decode method_2_code 37 = .ok (.iload_n 0, 1) := by decide +kernel
theorem d2_38 : decode method_2_code 38 = .ok (.sipush 215, 3) := by decide +kernel
theorem d2_41 : decode method_2_code 41 = .ok (.if_icmp .eq 129, 3) := by decide +kernel
theorem d2_44 : decode method_2_code 44 = .ok (.iload_n 0, 1) := by decide +kernel
theorem d2_45 : decode method_2_code 45 = .ok (.sipush 247, 3) := by decide +kernel
theorem d2_48 : decode method_2_code 48 = .ok (.if_icmp .eq 122, 3) := by decide +kernel
theorem d2_51 : decode method_2_code 51 = .ok (.iload_n 0, 1) := by decide +kernel
theorem d2_52 : decode method_2_code 52 = .ok (.sipush 768, 3) := by decide +kernel
theorem d2_55 : decode method_2_code 55 = .ok (.if_icmp .lt 10, 3) := by decide +kernel
theorem d2_58 : decode method_2_code 58 = .ok (.iload_n 0, 1) := by decide +kernel
theorem d2_59 : decode method_2_code 59 = .ok (.sipush 879, 3) := by decide +kernel
theorem d2_62 : decode method_2_code 62 = .ok (.if_icmp .le 108, 3) := by decide +kernel
theorem d2_65 : decode method_2_code 65 = .ok (.iload_n 0, 1) := by decide +kernel
theorem d2_66 : decode method_2_code 66 = .ok (.sipush 894, 3) := by decide +kernel
theorem d2_69 : decode method_2_code 69 = .ok (.if_icmp .eq 101, 3) := by decide +kernel
theorem d2_72 : decode method_2_code 72 = .ok (.iload_n 0, 1) := by decide +kernel
theorem d2_73 : decode method_2_code 73 = .ok (.sipush 8192, 3) := by decide +kernel
theorem d2_76 : decode method_2_code 76 = .ok (.if_icmp .lt 10, 3) := by decide +kernel
theorem d2_79 : decode method_2_code 79 = .ok (.iload_n 0, 1) := by decide +kernel
theorem d2_80 : decode method_2_code 80 = .ok (.sipush 8203, 3) := by decide +kernel
theorem d2_83 : decode method_2_code 83 = .ok (.if_icmp .le 87, 3) := by decide +kernel
theorem d2_86 : decode method_2_code 86 = .ok (.iload_n 0, 1) := by decide +kernel
theorem d2_87 : decode method_2_code 87 = .ok (.sipush 8206, 3) := by decide +kernel
theorem d2_90 : decode method_2_code 90 = .ok (.if_icmp .lt 10, 3) := by decide +kernel
theorem d2_93 : decode method_2_code 93 = .ok (.iload_n 0, 1) := by decide +kernel
theorem d2_94 : decode method_2_code 94 = .ok (.sipush 8303, 3) := by decide +kernel
theorem d2_97 : decode method_2_code 97 = .ok (.if_icmp .le 73, 3) := by decide +kernel
theorem d2_100 : decode method_2_code 100 = .ok (.iload_n 0, 1) := by decide +kernel
theorem d2_101 : decode method_2_code 101 = .ok (.sipush 8592, 3) := by decide +kernel
theorem d2_104 : decode method_2_code 104 = .ok (.if_icmp .lt 10, 3) := by decide +kernel
theorem d2_107 : decode method_2_code 107 = .ok (.iload_n 0, 1) := by decide +kernel
theorem d2_108 : decode method_2_code 108 = .ok (.sipush 11263, 3) := by decide +kernel
theorem d2_111 : decode method_2_code 111 = .ok (.if_icmp .le 59, 3) := by decide +kernel
theorem d2_114 : decode method_2_code 114 = .ok (.iload_n 0, 1) := by decide +kernel
theorem d2_115 : decode method_2_code 115 = .ok (.sipush 12272, 3) := by decide +kernel
theorem d2_118 : decode method_2_code 118 = .ok (.if_icmp .lt 10, 3) := by decide +kernel
theorem d2_121 : decode method_2_code 121 = .ok (.iload_n 0, 1) := by decide +kernel
theorem d2_122 : decode method_2_code 122 = .ok (.sipush 12288, 3) := by decide +kernel
theorem d2_125 : decode method_2_code 125 = .ok (.if_icmp .le 45, 3) := by decide +kernel
theorem d2_128 : decode method_2_code 128 = .ok (.iload_n 0, 1) := by decide +kernel
theorem d2_129 : decode method_2_code 129 = .ok (.ldc 7, 2) := by decide +kernel
theorem d2_131 : decode method_2_code 131 = .ok (.if_icmp .lt 9, 3) := by decide +kernel
theorem d2_134 : decode method_2_code 134 = .ok (.iload_n 0, 1) := by decide +kernel
theorem d2_135 : decode method_2_code 135 = .ok (.ldc 8, 2) := by decide +kernel
theorem d2_137 : decode method_2_code 137 = .ok (.if_icmp .le 33, 3) := by decide +kernel
theorem d2_140 : decode method_2_code 140 = .ok (.iload_n 0, 1) := by decide +kernel
theorem d2_141 : decode method_2_code 141 = .ok (.ldc 9, 2) := by decide +kernel
theorem d2_143 : decode method_2_code 143 = .ok (.if_icmp .lt 9, 3) := by decide +kernel
theorem d2_146 : decode method_2_code 146 = .ok (.iload_n 0, 1) := by decide +kernel
theorem d2_147 : decode method_2_code 147 = .ok (.ldc 10, 2) := by decide +kernel
theorem d2_149 : decode method_2_code 149 = .ok (.if_icmp .le 21, 3) := by decide +kernel
theorem d2_152 : decode method_2_code 152 = .ok (.iload_n 0, 1) := by decide +kernel
theorem d2_153 : decode method_2_code 153 = .ok (.ldc 11, 2) := by decide +kernel
theorem d2_155 : decode method_2_code 155 = .ok (.if_icmp .lt 9, 3) := by decide +kernel
theorem d2_158 : decode method_2_code 158 = .ok (.iload_n 0, 1) := by decide +kernel
theorem d2_159 : decode method_2_code 159 = .ok (.ldc 12, 2) := by decide +kernel
theorem d2_161 : decode method_2_code 161 = .ok (.if_icmp .le 9, 3) := by decide +kernel
theorem d2_164 : decode method_2_code 164 = .ok (.iload_n 0, 1) := by decide +kernel
theorem d2_165 : decode method_2_code 165 = .ok (.ldc 13, 2) := by decide +kernel
theorem d2_167 : decode method_2_code 167 = .ok (.if_icmp .le 7, 3) := by decide +kernel
theorem d2_170 : decode method_2_code 170 = .ok (.iconst 1, 1) := by decide +kernel
theorem d2_171 : decode method_2_code 171 = .ok (.goto 4, 3) := by decide +kernel
theorem d2_174 : decode method_2_code 174 = .ok (.iconst 0, 1) := by decide +kernel
theorem d2_175 : decode method_2_code 175 = .ok (.ireturn, 1) := by decide +kernel
theorem pn_shelfmark_RdfIsNameStartPinLaw : plainName "shelfmark/RdfIsNameStartPinLaw" = true := by first | (simp [plainName, overriddenIn]; done) | decide +kernel
theorem ef_2 (m : MethodId) (x0 : Int32) : entryFrame m #[(.int x0)] 1 = mkF m 0 #[.val (.int x0)] [] := by first | (simp [entryFrame, mkF, argsToLocals, Value.category]; done) | rfl
def own_f2_170 (p0 : Int32) : Int32 := (1 : Int32)
def own_f2_164 (p0 : Int32) : Int32 := (if (983039 : Int32) < p0 then (own_f2_170 p0) else (0 : Int32))
def own_f2_152 (p0 : Int32) : Int32 := (if p0 < (65534 : Int32) then (own_f2_164 p0) else (if (65535 : Int32) < p0 then (own_f2_164 p0) else (own_f2_170 p0)))
def own_f2_140 (p0 : Int32) : Int32 := (if p0 < (64976 : Int32) then (own_f2_152 p0) else (if (65007 : Int32) < p0 then (own_f2_152 p0) else (own_f2_170 p0)))
def own_f2_128 (p0 : Int32) : Int32 := (if p0 < (55296 : Int32) then (own_f2_140 p0) else (if (63743 : Int32) < p0 then (own_f2_140 p0) else (own_f2_170 p0)))
def own_f2_114 (p0 : Int32) : Int32 := (if p0 < (12272 : Int32) then (own_f2_128 p0) else (if (12288 : Int32) < p0 then (own_f2_128 p0) else (own_f2_170 p0)))
def own_f2_100 (p0 : Int32) : Int32 := (if p0 < (8592 : Int32) then (own_f2_114 p0) else (if (11263 : Int32) < p0 then (own_f2_114 p0) else (own_f2_170 p0)))
def own_f2_86 (p0 : Int32) : Int32 := (if p0 < (8206 : Int32) then (own_f2_100 p0) else (if (8303 : Int32) < p0 then (own_f2_100 p0) else (own_f2_170 p0)))
def own_f2_65 (p0 : Int32) : Int32 := (if p0 = (894 : Int32) then (own_f2_170 p0) else (if p0 < (8192 : Int32) then (own_f2_86 p0) else (if (8203 : Int32) < p0 then (own_f2_86 p0) else (own_f2_170 p0))))
def own_f2_37 (p0 : Int32) : Int32 := (if p0 = (215 : Int32) then (own_f2_170 p0) else (if p0 = (247 : Int32) then (own_f2_170 p0) else (if p0 < (768 : Int32) then (own_f2_65 p0) else (if (879 : Int32) < p0 then (own_f2_65 p0) else (own_f2_170 p0)))))
def own_f2_24 (p0 : Int32) : Int32 := (if (122 : Int32) < p0 then (if p0 < (192 : Int32) then (own_f2_170 p0) else (own_f2_37 p0)) else (own_f2_37 p0))
def own_f2 (p0 : Int32) : Int32 := (if p0 < (65 : Int32) then (own_f2_170 p0) else (if (90 : Int32) < p0 then (if p0 < (97 : Int32) then (if p0 = (95 : Int32) then (own_f2_24 p0) else (own_f2_170 p0)) else (own_f2_24 p0)) else (own_f2_24 p0)))
def Q2 (Z : State) (p0 : Int32) (h0 : Heap) (n0 : Nat) (v : Option Value) (h : Heap) (L : List Loc) : Prop := v = some (.int (own_f2 p0)) ∧ Fr n0 L ∧ h = h0
set_option maxRecDepth 65536 in
set_option maxHeartbeats 40000000 in
theorem rm2 (l : Launch) (Z : State) (a0 : Array Value) (hw : ∀ d ∈ tables_1, d.before a0 Z = true) (ws : List Jvm.Cond) (p0 : Int32) (h0 : Heap) (n0 : Nat) (Z0 : n0 ≤ h0.size) :
    MetFree l (⟨"shelfmark/RdfIsNameStartPinLaw", "excluded", "(I)Z"⟩ : MethodName) (head1 (Jvm.Cond.code (⟨"shelfmark/RdfIsNameStartPinLaw", "excluded", "(I)Z"⟩ : MethodName) method_2_code 1 (some .boolean) :: ws) ({ frames := 0, cells := 0, slots := 0, locals := 0 } : Room)) (fun a U => a = #[(.int p0)] ∧ Z.Warmed39 U.vm ∧ U.heap = h0) (fun _ _ _ _ _ => True) (fun _ U o U' => ∃ v L, o = .returned v ∧ Q2 Z p0 h0 n0 v U'.heap L ∧ FrameEnd U o U' L ({ frames := 0, cells := 0, slots := 0, locals := 0 } : Room).cells ({ frames := 0, cells := 0, slots := 0, locals := 0 } : Room).slots) := by
  refine MetFree.of_bodySF (plainFor_of_name pn_shelfmark_RdfIsNameStartPinLaw) hisR ?_
  intro p e s m args below meth c s₁ Bd hml0 hP hK
  obtain ⟨rfl, hZ, hh⟩ := hP
  have hx := Bd.exec
  have hby := Bd.bytes
  have hlk := Bd.notSynchronized
  have hrt := Bd.returns
  have hml : c.maxLocals = 1 := hml0
  have hown : s.vm.findClass "shelfmark/RdfIsNameStartPinLaw" = some m.cls := findClass_of_methodNamed Bd.named
  have hnm := (name_of_methodNamed Bd.named Bd.method).1
  have X0 : Stand p l e ({ frames := 0, cells := 0, slots := 0, locals := 0 } : Room) s m #[(.int p0)] below meth c s₁ [] 0 0 := Stand.of_body Bd
  have e0 : s₁.heap = h0 := by rw [← hh, Bd.state]; rfl
  have N0 := Fr.nil n0
  have K0 := Keep.refl h0 []
  refine own_out (Q := Q2 Z p0 h0 n0) ?_
  refine own_in (ef_2 m p0) ?_
  have J170 : own_f2 p0 = own_f2_170 p0 → own_Go p.tables e below (own_Fin below s (Q2 Z p0 h0 n0) ({ frames := 0, cells := 0, slots := 0, locals := 0 } : Room).cells ({ frames := 0, cells := 0, slots := 0, locals := 0 } : Room).slots) s₁ (mkF m 170 #[.val (.int p0)] []) := by
    intro hf170
    show own_Go _ _ _ _ s₁ (mkF m 170 #[.val (.int p0)] [])
    refine own_st (fun t k => XS.iconst X0.here hx rfl (hb hby d2_170) k) ?_
    show own_Go _ _ _ _ s₁ (mkF m 171 #[.val (.int p0)] [(.int (1 : Int32))])
    refine own_st (fun t k => XS.goto X0.here hx rfl (pc0 := 171) (pc' := 175) rfl (hb hby d2_171) (by decide) (by decide) k) ?_
    show own_Go _ _ _ _ s₁ (mkF m 175 #[.val (.int p0)] [(.int (1 : Int32))])
    exact own_retN X0 hx hlk (t := .boolean) hrt (by simp) (hb hby d2_175) ⟨(by rw [hf170]; simp only [own_f2_170]; first | rfl | done), N0, e0⟩ (by decide) (by decide)
  have J164 : own_f2 p0 = own_f2_164 p0 → own_Go p.tables e below (own_Fin below s (Q2 Z p0 h0 n0) ({ frames := 0, cells := 0, slots := 0, locals := 0 } : Room).cells ({ frames := 0, cells := 0, slots := 0, locals := 0 } : Room).slots) s₁ (mkF m 164 #[.val (.int p0)] []) := by
    intro hf164
    show own_Go _ _ _ _ s₁ (mkF m 164 #[.val (.int p0)] [])
    refine own_st (fun t k => XS.iloadN X0.here hx rfl (hb hby d2_164) rfl k) ?_
    show own_Go _ _ _ _ s₁ (mkF m 165 #[.val (.int p0)] [(.int p0)])
    refine own_st (X0.ldcInt hx hown (mvT hZ (hw _ (List.mem_of_getElem? (i := 7) rfl))) (g := (mkF m 165 #[.val (.int p0)] [(.int p0)])) rfl (hb hby d2_165)) ?_
    show own_Go _ _ _ _ s₁ (mkF m 167 #[.val (.int p0)] [(.int (983039 : Int32)), (.int p0)])
    by_cases c167_1 : (983039 : Int32) < p0
    ·
      refine own_st (fun t k => XS.icmpNo X0.here hx rfl (hb hby d2_167) rfl (tlt c167_1).2.2.2 k) ?_
      show own_Go _ _ _ _ s₁ (mkF m 170 #[.val (.int p0)] [])
      exact J170 (hf164.trans (by simp only [own_f2_164, if_pos c167_1]; first | rfl | done))
    ·
      refine own_st (fun t k => XS.icmpYes X0.here hx rfl (pc0 := 167) (pc' := 174) rfl (hb hby d2_167) rfl (flt c167_1).2.2.2 (by decide) (by decide) k) ?_
      show own_Go _ _ _ _ s₁ (mkF m 174 #[.val (.int p0)] [])
      refine own_st (fun t k => XS.iconst X0.here hx rfl (hb hby d2_174) k) ?_
      show own_Go _ _ _ _ s₁ (mkF m 175 #[.val (.int p0)] [(.int (0 : Int32))])
      exact own_retN X0 hx hlk (t := .boolean) hrt (by simp) (hb hby d2_175) ⟨(by rw [hf164]; simp only [own_f2_164, if_neg c167_1]; first | rfl | done), N0, e0⟩ (by decide) (by decide)
  have J152 : own_f2 p0 = own_f2_152 p0 → own_Go p.tables e below (own_Fin below s (Q2 Z p0 h0 n0) ({ frames := 0, cells := 0, slots := 0, locals := 0 } : Room).cells ({ frames := 0, cells := 0, slots := 0, locals := 0 } : Room).slots) s₁ (mkF m 152 #[.val (.int p0)] []) := by
    intro hf152
    show own_Go _ _ _ _ s₁ (mkF m 152 #[.val (.int p0)] [])
    refine own_st (fun t k => XS.iloadN X0.here hx rfl (hb hby d2_152) rfl k) ?_
    show own_Go _ _ _ _ s₁ (mkF m 153 #[.val (.int p0)] [(.int p0)])
    refine own_st (X0.ldcInt hx hown (mvT hZ (hw _ (List.mem_of_getElem? (i := 23) rfl))) (g := (mkF m 153 #[.val (.int p0)] [(.int p0)])) rfl (hb hby d2_153)) ?_
    show own_Go _ _ _ _ s₁ (mkF m 155 #[.val (.int p0)] [(.int (65534 : Int32)), (.int p0)])
    by_cases c155_2 : p0 < (65534 : Int32)
    ·
      refine own_st (fun t k => XS.icmpYes X0.here hx rfl (pc0 := 155) (pc' := 164) rfl (hb hby d2_155) rfl (tlt c155_2).1 (by decide) (by decide) k) ?_
      show own_Go _ _ _ _ s₁ (mkF m 164 #[.val (.int p0)] [])
      exact J164 (hf152.trans (by simp only [own_f2_152, if_pos c155_2]; first | rfl | done))
    ·
      refine own_st (fun t k => XS.icmpNo X0.here hx rfl (hb hby d2_155) rfl (flt c155_2).1 k) ?_
      show own_Go _ _ _ _ s₁ (mkF m 158 #[.val (.int p0)] [])
      refine own_st (fun t k => XS.iloadN X0.here hx rfl (hb hby d2_158) rfl k) ?_
      show own_Go _ _ _ _ s₁ (mkF m 159 #[.val (.int p0)] [(.int p0)])
      refine own_st (X0.ldcInt hx hown (mvT hZ (hw _ (List.mem_of_getElem? (i := 30) rfl))) (g := (mkF m 159 #[.val (.int p0)] [(.int p0)])) rfl (hb hby d2_159)) ?_
      show own_Go _ _ _ _ s₁ (mkF m 161 #[.val (.int p0)] [(.int (65535 : Int32)), (.int p0)])
      by_cases c161_3 : (65535 : Int32) < p0
      ·
        refine own_st (fun t k => XS.icmpNo X0.here hx rfl (hb hby d2_161) rfl (tlt c161_3).2.2.2 k) ?_
        show own_Go _ _ _ _ s₁ (mkF m 164 #[.val (.int p0)] [])
        exact J164 (hf152.trans (by simp only [own_f2_152, if_neg c155_2, if_pos c161_3]; first | rfl | done))
      ·
        refine own_st (fun t k => XS.icmpYes X0.here hx rfl (pc0 := 161) (pc' := 170) rfl (hb hby d2_161) rfl (flt c161_3).2.2.2 (by decide) (by decide) k) ?_
        show own_Go _ _ _ _ s₁ (mkF m 170 #[.val (.int p0)] [])
        exact J170 (hf152.trans (by simp only [own_f2_152, if_neg c155_2, if_neg c161_3]; first | rfl | done))
  have J140 : own_f2 p0 = own_f2_140 p0 → own_Go p.tables e below (own_Fin below s (Q2 Z p0 h0 n0) ({ frames := 0, cells := 0, slots := 0, locals := 0 } : Room).cells ({ frames := 0, cells := 0, slots := 0, locals := 0 } : Room).slots) s₁ (mkF m 140 #[.val (.int p0)] []) := by
    intro hf140
    show own_Go _ _ _ _ s₁ (mkF m 140 #[.val (.int p0)] [])
    refine own_st (fun t k => XS.iloadN X0.here hx rfl (hb hby d2_140) rfl k) ?_
    show own_Go _ _ _ _ s₁ (mkF m 141 #[.val (.int p0)] [(.int p0)])
    refine own_st (X0.ldcInt hx hown (mvT hZ (hw _ (List.mem_of_getElem? (i := 22) rfl))) (g := (mkF m 141 #[.val (.int p0)] [(.int p0)])) rfl (hb hby d2_141)) ?_
    show own_Go _ _ _ _ s₁ (mkF m 143 #[.val (.int p0)] [(.int (64976 : Int32)), (.int p0)])
    by_cases c143_4 : p0 < (64976 : Int32)
    ·
      refine own_st (fun t k => XS.icmpYes X0.here hx rfl (pc0 := 143) (pc' := 152) rfl (hb hby d2_143) rfl (tlt c143_4).1 (by decide) (by decide) k) ?_
      show own_Go _ _ _ _ s₁ (mkF m 152 #[.val (.int p0)] [])
      exact J152 (hf140.trans (by simp only [own_f2_140, if_pos c143_4]; first | rfl | done))
    ·
      refine own_st (fun t k => XS.icmpNo X0.here hx rfl (hb hby d2_143) rfl (flt c143_4).1 k) ?_
      show own_Go _ _ _ _ s₁ (mkF m 146 #[.val (.int p0)] [])
      refine own_st (fun t k => XS.iloadN X0.here hx rfl (hb hby d2_146) rfl k) ?_
      show own_Go _ _ _ _ s₁ (mkF m 147 #[.val (.int p0)] [(.int p0)])
      refine own_st (X0.ldcInt hx hown (mvT hZ (hw _ (List.mem_of_getElem? (i := 29) rfl))) (g := (mkF m 147 #[.val (.int p0)] [(.int p0)])) rfl (hb hby d2_147)) ?_
      show own_Go _ _ _ _ s₁ (mkF m 149 #[.val (.int p0)] [(.int (65007 : Int32)), (.int p0)])
      by_cases c149_5 : (65007 : Int32) < p0
      ·
        refine own_st (fun t k => XS.icmpNo X0.here hx rfl (hb hby d2_149) rfl (tlt c149_5).2.2.2 k) ?_
        show own_Go _ _ _ _ s₁ (mkF m 152 #[.val (.int p0)] [])
        exact J152 (hf140.trans (by simp only [own_f2_140, if_neg c143_4, if_pos c149_5]; first | rfl | done))
      ·
        refine own_st (fun t k => XS.icmpYes X0.here hx rfl (pc0 := 149) (pc' := 170) rfl (hb hby d2_149) rfl (flt c149_5).2.2.2 (by decide) (by decide) k) ?_
        show own_Go _ _ _ _ s₁ (mkF m 170 #[.val (.int p0)] [])
        exact J170 (hf140.trans (by simp only [own_f2_140, if_neg c143_4, if_neg c149_5]; first | rfl | done))
  have J128 : own_f2 p0 = own_f2_128 p0 → own_Go p.tables e below (own_Fin below s (Q2 Z p0 h0 n0) ({ frames := 0, cells := 0, slots := 0, locals := 0 } : Room).cells ({ frames := 0, cells := 0, slots := 0, locals := 0 } : Room).slots) s₁ (mkF m 128 #[.val (.int p0)] []) := by
    intro hf128
    show own_Go _ _ _ _ s₁ (mkF m 128 #[.val (.int p0)] [])
    refine own_st (fun t k => XS.iloadN X0.here hx rfl (hb hby d2_128) rfl k) ?_
    show own_Go _ _ _ _ s₁ (mkF m 129 #[.val (.int p0)] [(.int p0)])
    refine own_st (X0.ldcInt hx hown (mvT hZ (hw _ (List.mem_of_getElem? (i := 21) rfl))) (g := (mkF m 129 #[.val (.int p0)] [(.int p0)])) rfl (hb hby d2_129)) ?_
    show own_Go _ _ _ _ s₁ (mkF m 131 #[.val (.int p0)] [(.int (55296 : Int32)), (.int p0)])
    by_cases c131_6 : p0 < (55296 : Int32)
    ·
      refine own_st (fun t k => XS.icmpYes X0.here hx rfl (pc0 := 131) (pc' := 140) rfl (hb hby d2_131) rfl (tlt c131_6).1 (by decide) (by decide) k) ?_
      show own_Go _ _ _ _ s₁ (mkF m 140 #[.val (.int p0)] [])
      exact J140 (hf128.trans (by simp only [own_f2_128, if_pos c131_6]; first | rfl | done))
    ·
      refine own_st (fun t k => XS.icmpNo X0.here hx rfl (hb hby d2_131) rfl (flt c131_6).1 k) ?_
      show own_Go _ _ _ _ s₁ (mkF m 134 #[.val (.int p0)] [])
      refine own_st (fun t k => XS.iloadN X0.here hx rfl (hb hby d2_134) rfl k) ?_
      show own_Go _ _ _ _ s₁ (mkF m 135 #[.val (.int p0)] [(.int p0)])
      refine own_st (X0.ldcInt hx hown (mvT hZ (hw _ (List.mem_of_getElem? (i := 28) rfl))) (g := (mkF m 135 #[.val (.int p0)] [(.int p0)])) rfl (hb hby d2_135)) ?_
      show own_Go _ _ _ _ s₁ (mkF m 137 #[.val (.int p0)] [(.int (63743 : Int32)), (.int p0)])
      by_cases c137_7 : (63743 : Int32) < p0
      ·
        refine own_st (fun t k => XS.icmpNo X0.here hx rfl (hb hby d2_137) rfl (tlt c137_7).2.2.2 k) ?_
        show own_Go _ _ _ _ s₁ (mkF m 140 #[.val (.int p0)] [])
        exact J140 (hf128.trans (by simp only [own_f2_128, if_neg c131_6, if_pos c137_7]; first | rfl | done))
      ·
        refine own_st (fun t k => XS.icmpYes X0.here hx rfl (pc0 := 137) (pc' := 170) rfl (hb hby d2_137) rfl (flt c137_7).2.2.2 (by decide) (by decide) k) ?_
        show own_Go _ _ _ _ s₁ (mkF m 170 #[.val (.int p0)] [])
        exact J170 (hf128.trans (by simp only [own_f2_128, if_neg c131_6, if_neg c137_7]; first | rfl | done))
  have J114 : own_f2 p0 = own_f2_114 p0 → own_Go p.tables e below (own_Fin below s (Q2 Z p0 h0 n0) ({ frames := 0, cells := 0, slots := 0, locals := 0 } : Room).cells ({ frames := 0, cells := 0, slots := 0, locals := 0 } : Room).slots) s₁ (mkF m 114 #[.val (.int p0)] []) := by
    intro hf114
    show own_Go _ _ _ _ s₁ (mkF m 114 #[.val (.int p0)] [])
    refine own_st (fun t k => XS.iloadN X0.here hx rfl (hb hby d2_114) rfl k) ?_
    show own_Go _ _ _ _ s₁ (mkF m 115 #[.val (.int p0)] [(.int p0)])
    refine own_st (fun t k => XS.sipush X0.here hx rfl (hb hby d2_115) k) ?_
    show own_Go _ _ _ _ s₁ (mkF m 118 #[.val (.int p0)] [(.int (12272 : Int32)), (.int p0)])
    by_cases c118_8 : p0 < (12272 : Int32)
    ·
      refine own_st (fun t k => XS.icmpYes X0.here hx rfl (pc0 := 118) (pc' := 128) rfl (hb hby d2_118) rfl (tlt c118_8).1 (by decide) (by decide) k) ?_
      show own_Go _ _ _ _ s₁ (mkF m 128 #[.val (.int p0)] [])
      exact J128 (hf114.trans (by simp only [own_f2_114, if_pos c118_8]; first | rfl | done))
    ·
      refine own_st (fun t k => XS.icmpNo X0.here hx rfl (hb hby d2_118) rfl (flt c118_8).1 k) ?_
      show own_Go _ _ _ _ s₁ (mkF m 121 #[.val (.int p0)] [])
      refine own_st (fun t k => XS.iloadN X0.here hx rfl (hb hby d2_121) rfl k) ?_
      show own_Go _ _ _ _ s₁ (mkF m 122 #[.val (.int p0)] [(.int p0)])
      refine own_st (fun t k => XS.sipush X0.here hx rfl (hb hby d2_122) k) ?_
      show own_Go _ _ _ _ s₁ (mkF m 125 #[.val (.int p0)] [(.int (12288 : Int32)), (.int p0)])
      by_cases c125_9 : (12288 : Int32) < p0
      ·
        refine own_st (fun t k => XS.icmpNo X0.here hx rfl (hb hby d2_125) rfl (tlt c125_9).2.2.2 k) ?_
        show own_Go _ _ _ _ s₁ (mkF m 128 #[.val (.int p0)] [])
        exact J128 (hf114.trans (by simp only [own_f2_114, if_neg c118_8, if_pos c125_9]; first | rfl | done))
      ·
        refine own_st (fun t k => XS.icmpYes X0.here hx rfl (pc0 := 125) (pc' := 170) rfl (hb hby d2_125) rfl (flt c125_9).2.2.2 (by decide) (by decide) k) ?_
        show own_Go _ _ _ _ s₁ (mkF m 170 #[.val (.int p0)] [])
        exact J170 (hf114.trans (by simp only [own_f2_114, if_neg c118_8, if_neg c125_9]; first | rfl | done))
  have J100 : own_f2 p0 = own_f2_100 p0 → own_Go p.tables e below (own_Fin below s (Q2 Z p0 h0 n0) ({ frames := 0, cells := 0, slots := 0, locals := 0 } : Room).cells ({ frames := 0, cells := 0, slots := 0, locals := 0 } : Room).slots) s₁ (mkF m 100 #[.val (.int p0)] []) := by
    intro hf100
    show own_Go _ _ _ _ s₁ (mkF m 100 #[.val (.int p0)] [])
    refine own_st (fun t k => XS.iloadN X0.here hx rfl (hb hby d2_100) rfl k) ?_
    show own_Go _ _ _ _ s₁ (mkF m 101 #[.val (.int p0)] [(.int p0)])
    refine own_st (fun t k => XS.sipush X0.here hx rfl (hb hby d2_101) k) ?_
    show own_Go _ _ _ _ s₁ (mkF m 104 #[.val (.int p0)] [(.int (8592 : Int32)), (.int p0)])
    by_cases c104_10 : p0 < (8592 : Int32)
    ·
      refine own_st (fun t k => XS.icmpYes X0.here hx rfl (pc0 := 104) (pc' := 114) rfl (hb hby d2_104) rfl (tlt c104_10).1 (by decide) (by decide) k) ?_
      show own_Go _ _ _ _ s₁ (mkF m 114 #[.val (.int p0)] [])
      exact J114 (hf100.trans (by simp only [own_f2_100, if_pos c104_10]; first | rfl | done))
    ·
      refine own_st (fun t k => XS.icmpNo X0.here hx rfl (hb hby d2_104) rfl (flt c104_10).1 k) ?_
      show own_Go _ _ _ _ s₁ (mkF m 107 #[.val (.int p0)] [])
      refine own_st (fun t k => XS.iloadN X0.here hx rfl (hb hby d2_107) rfl k) ?_
      show own_Go _ _ _ _ s₁ (mkF m 108 #[.val (.int p0)] [(.int p0)])
      refine own_st (fun t k => XS.sipush X0.here hx rfl (hb hby d2_108) k) ?_
      show own_Go _ _ _ _ s₁ (mkF m 111 #[.val (.int p0)] [(.int (11263 : Int32)), (.int p0)])
      by_cases c111_11 : (11263 : Int32) < p0
      ·
        refine own_st (fun t k => XS.icmpNo X0.here hx rfl (hb hby d2_111) rfl (tlt c111_11).2.2.2 k) ?_
        show own_Go _ _ _ _ s₁ (mkF m 114 #[.val (.int p0)] [])
        exact J114 (hf100.trans (by simp only [own_f2_100, if_neg c104_10, if_pos c111_11]; first | rfl | done))
      ·
        refine own_st (fun t k => XS.icmpYes X0.here hx rfl (pc0 := 111) (pc' := 170) rfl (hb hby d2_111) rfl (flt c111_11).2.2.2 (by decide) (by decide) k) ?_
        show own_Go _ _ _ _ s₁ (mkF m 170 #[.val (.int p0)] [])
        exact J170 (hf100.trans (by simp only [own_f2_100, if_neg c104_10, if_neg c111_11]; first | rfl | done))
  have J86 : own_f2 p0 = own_f2_86 p0 → own_Go p.tables e below (own_Fin below s (Q2 Z p0 h0 n0) ({ frames := 0, cells := 0, slots := 0, locals := 0 } : Room).cells ({ frames := 0, cells := 0, slots := 0, locals := 0 } : Room).slots) s₁ (mkF m 86 #[.val (.int p0)] []) := by
    intro hf86
    show own_Go _ _ _ _ s₁ (mkF m 86 #[.val (.int p0)] [])
    refine own_st (fun t k => XS.iloadN X0.here hx rfl (hb hby d2_86) rfl k) ?_
    show own_Go _ _ _ _ s₁ (mkF m 87 #[.val (.int p0)] [(.int p0)])
    refine own_st (fun t k => XS.sipush X0.here hx rfl (hb hby d2_87) k) ?_
    show own_Go _ _ _ _ s₁ (mkF m 90 #[.val (.int p0)] [(.int (8206 : Int32)), (.int p0)])
    by_cases c90_12 : p0 < (8206 : Int32)
    ·
      refine own_st (fun t k => XS.icmpYes X0.here hx rfl (pc0 := 90) (pc' := 100) rfl (hb hby d2_90) rfl (tlt c90_12).1 (by decide) (by decide) k) ?_
      show own_Go _ _ _ _ s₁ (mkF m 100 #[.val (.int p0)] [])
      exact J100 (hf86.trans (by simp only [own_f2_86, if_pos c90_12]; first | rfl | done))
    ·
      refine own_st (fun t k => XS.icmpNo X0.here hx rfl (hb hby d2_90) rfl (flt c90_12).1 k) ?_
      show own_Go _ _ _ _ s₁ (mkF m 93 #[.val (.int p0)] [])
      refine own_st (fun t k => XS.iloadN X0.here hx rfl (hb hby d2_93) rfl k) ?_
      show own_Go _ _ _ _ s₁ (mkF m 94 #[.val (.int p0)] [(.int p0)])
      refine own_st (fun t k => XS.sipush X0.here hx rfl (hb hby d2_94) k) ?_
      show own_Go _ _ _ _ s₁ (mkF m 97 #[.val (.int p0)] [(.int (8303 : Int32)), (.int p0)])
      by_cases c97_13 : (8303 : Int32) < p0
      ·
        refine own_st (fun t k => XS.icmpNo X0.here hx rfl (hb hby d2_97) rfl (tlt c97_13).2.2.2 k) ?_
        show own_Go _ _ _ _ s₁ (mkF m 100 #[.val (.int p0)] [])
        exact J100 (hf86.trans (by simp only [own_f2_86, if_neg c90_12, if_pos c97_13]; first | rfl | done))
      ·
        refine own_st (fun t k => XS.icmpYes X0.here hx rfl (pc0 := 97) (pc' := 170) rfl (hb hby d2_97) rfl (flt c97_13).2.2.2 (by decide) (by decide) k) ?_
        show own_Go _ _ _ _ s₁ (mkF m 170 #[.val (.int p0)] [])
        exact J170 (hf86.trans (by simp only [own_f2_86, if_neg c90_12, if_neg c97_13]; first | rfl | done))
  have J65 : own_f2 p0 = own_f2_65 p0 → own_Go p.tables e below (own_Fin below s (Q2 Z p0 h0 n0) ({ frames := 0, cells := 0, slots := 0, locals := 0 } : Room).cells ({ frames := 0, cells := 0, slots := 0, locals := 0 } : Room).slots) s₁ (mkF m 65 #[.val (.int p0)] []) := by
    intro hf65
    show own_Go _ _ _ _ s₁ (mkF m 65 #[.val (.int p0)] [])
    refine own_st (fun t k => XS.iloadN X0.here hx rfl (hb hby d2_65) rfl k) ?_
    show own_Go _ _ _ _ s₁ (mkF m 66 #[.val (.int p0)] [(.int p0)])
    refine own_st (fun t k => XS.sipush X0.here hx rfl (hb hby d2_66) k) ?_
    show own_Go _ _ _ _ s₁ (mkF m 69 #[.val (.int p0)] [(.int (894 : Int32)), (.int p0)])
    by_cases c69_14 : p0 = (894 : Int32)
    ·
      refine own_st (fun t k => XS.icmpYes X0.here hx rfl (pc0 := 69) (pc' := 170) rfl (hb hby d2_69) rfl (teq c69_14).1 (by decide) (by decide) k) ?_
      show own_Go _ _ _ _ s₁ (mkF m 170 #[.val (.int p0)] [])
      exact J170 (hf65.trans (by simp only [own_f2_65, if_pos c69_14]; first | rfl | done))
    ·
      refine own_st (fun t k => XS.icmpNo X0.here hx rfl (hb hby d2_69) rfl (feq c69_14).1 k) ?_
      show own_Go _ _ _ _ s₁ (mkF m 72 #[.val (.int p0)] [])
      refine own_st (fun t k => XS.iloadN X0.here hx rfl (hb hby d2_72) rfl k) ?_
      show own_Go _ _ _ _ s₁ (mkF m 73 #[.val (.int p0)] [(.int p0)])
      refine own_st (fun t k => XS.sipush X0.here hx rfl (hb hby d2_73) k) ?_
      show own_Go _ _ _ _ s₁ (mkF m 76 #[.val (.int p0)] [(.int (8192 : Int32)), (.int p0)])
      by_cases c76_15 : p0 < (8192 : Int32)
      ·
        refine own_st (fun t k => XS.icmpYes X0.here hx rfl (pc0 := 76) (pc' := 86) rfl (hb hby d2_76) rfl (tlt c76_15).1 (by decide) (by decide) k) ?_
        show own_Go _ _ _ _ s₁ (mkF m 86 #[.val (.int p0)] [])
        exact J86 (hf65.trans (by simp only [own_f2_65, if_neg c69_14, if_pos c76_15]; first | rfl | done))
      ·
        refine own_st (fun t k => XS.icmpNo X0.here hx rfl (hb hby d2_76) rfl (flt c76_15).1 k) ?_
        show own_Go _ _ _ _ s₁ (mkF m 79 #[.val (.int p0)] [])
        refine own_st (fun t k => XS.iloadN X0.here hx rfl (hb hby d2_79) rfl k) ?_
        show own_Go _ _ _ _ s₁ (mkF m 80 #[.val (.int p0)] [(.int p0)])
        refine own_st (fun t k => XS.sipush X0.here hx rfl (hb hby d2_80) k) ?_
        show own_Go _ _ _ _ s₁ (mkF m 83 #[.val (.int p0)] [(.int (8203 : Int32)), (.int p0)])
        by_cases c83_16 : (8203 : Int32) < p0
        ·
          refine own_st (fun t k => XS.icmpNo X0.here hx rfl (hb hby d2_83) rfl (tlt c83_16).2.2.2 k) ?_
          show own_Go _ _ _ _ s₁ (mkF m 86 #[.val (.int p0)] [])
          exact J86 (hf65.trans (by simp only [own_f2_65, if_neg c69_14, if_neg c76_15, if_pos c83_16]; first | rfl | done))
        ·
          refine own_st (fun t k => XS.icmpYes X0.here hx rfl (pc0 := 83) (pc' := 170) rfl (hb hby d2_83) rfl (flt c83_16).2.2.2 (by decide) (by decide) k) ?_
          show own_Go _ _ _ _ s₁ (mkF m 170 #[.val (.int p0)] [])
          exact J170 (hf65.trans (by simp only [own_f2_65, if_neg c69_14, if_neg c76_15, if_neg c83_16]; first | rfl | done))
  have J37 : own_f2 p0 = own_f2_37 p0 → own_Go p.tables e below (own_Fin below s (Q2 Z p0 h0 n0) ({ frames := 0, cells := 0, slots := 0, locals := 0 } : Room).cells ({ frames := 0, cells := 0, slots := 0, locals := 0 } : Room).slots) s₁ (mkF m 37 #[.val (.int p0)] []) := by
    intro hf37
    show own_Go _ _ _ _ s₁ (mkF m 37 #[.val (.int p0)] [])
    refine own_st (fun t k => XS.iloadN X0.here hx rfl (hb hby d2_37) rfl k) ?_
    show own_Go _ _ _ _ s₁ (mkF m 38 #[.val (.int p0)] [(.int p0)])
    refine own_st (fun t k => XS.sipush X0.here hx rfl (hb hby d2_38) k) ?_
    show own_Go _ _ _ _ s₁ (mkF m 41 #[.val (.int p0)] [(.int (215 : Int32)), (.int p0)])
    by_cases c41_17 : p0 = (215 : Int32)
    ·
      refine own_st (fun t k => XS.icmpYes X0.here hx rfl (pc0 := 41) (pc' := 170) rfl (hb hby d2_41) rfl (teq c41_17).1 (by decide) (by decide) k) ?_
      show own_Go _ _ _ _ s₁ (mkF m 170 #[.val (.int p0)] [])
      exact J170 (hf37.trans (by simp only [own_f2_37, if_pos c41_17]; first | rfl | done))
    ·
      refine own_st (fun t k => XS.icmpNo X0.here hx rfl (hb hby d2_41) rfl (feq c41_17).1 k) ?_
      show own_Go _ _ _ _ s₁ (mkF m 44 #[.val (.int p0)] [])
      refine own_st (fun t k => XS.iloadN X0.here hx rfl (hb hby d2_44) rfl k) ?_
      show own_Go _ _ _ _ s₁ (mkF m 45 #[.val (.int p0)] [(.int p0)])
      refine own_st (fun t k => XS.sipush X0.here hx rfl (hb hby d2_45) k) ?_
      show own_Go _ _ _ _ s₁ (mkF m 48 #[.val (.int p0)] [(.int (247 : Int32)), (.int p0)])
      by_cases c48_18 : p0 = (247 : Int32)
      ·
        refine own_st (fun t k => XS.icmpYes X0.here hx rfl (pc0 := 48) (pc' := 170) rfl (hb hby d2_48) rfl (teq c48_18).1 (by decide) (by decide) k) ?_
        show own_Go _ _ _ _ s₁ (mkF m 170 #[.val (.int p0)] [])
        exact J170 (hf37.trans (by simp only [own_f2_37, if_neg c41_17, if_pos c48_18]; first | rfl | done))
      ·
        refine own_st (fun t k => XS.icmpNo X0.here hx rfl (hb hby d2_48) rfl (feq c48_18).1 k) ?_
        show own_Go _ _ _ _ s₁ (mkF m 51 #[.val (.int p0)] [])
        refine own_st (fun t k => XS.iloadN X0.here hx rfl (hb hby d2_51) rfl k) ?_
        show own_Go _ _ _ _ s₁ (mkF m 52 #[.val (.int p0)] [(.int p0)])
        refine own_st (fun t k => XS.sipush X0.here hx rfl (hb hby d2_52) k) ?_
        show own_Go _ _ _ _ s₁ (mkF m 55 #[.val (.int p0)] [(.int (768 : Int32)), (.int p0)])
        by_cases c55_19 : p0 < (768 : Int32)
        ·
          refine own_st (fun t k => XS.icmpYes X0.here hx rfl (pc0 := 55) (pc' := 65) rfl (hb hby d2_55) rfl (tlt c55_19).1 (by decide) (by decide) k) ?_
          show own_Go _ _ _ _ s₁ (mkF m 65 #[.val (.int p0)] [])
          exact J65 (hf37.trans (by simp only [own_f2_37, if_neg c41_17, if_neg c48_18, if_pos c55_19]; first | rfl | done))
        ·
          refine own_st (fun t k => XS.icmpNo X0.here hx rfl (hb hby d2_55) rfl (flt c55_19).1 k) ?_
          show own_Go _ _ _ _ s₁ (mkF m 58 #[.val (.int p0)] [])
          refine own_st (fun t k => XS.iloadN X0.here hx rfl (hb hby d2_58) rfl k) ?_
          show own_Go _ _ _ _ s₁ (mkF m 59 #[.val (.int p0)] [(.int p0)])
          refine own_st (fun t k => XS.sipush X0.here hx rfl (hb hby d2_59) k) ?_
          show own_Go _ _ _ _ s₁ (mkF m 62 #[.val (.int p0)] [(.int (879 : Int32)), (.int p0)])
          by_cases c62_20 : (879 : Int32) < p0
          ·
            refine own_st (fun t k => XS.icmpNo X0.here hx rfl (hb hby d2_62) rfl (tlt c62_20).2.2.2 k) ?_
            show own_Go _ _ _ _ s₁ (mkF m 65 #[.val (.int p0)] [])
            exact J65 (hf37.trans (by simp only [own_f2_37, if_neg c41_17, if_neg c48_18, if_neg c55_19, if_pos c62_20]; first | rfl | done))
          ·
            refine own_st (fun t k => XS.icmpYes X0.here hx rfl (pc0 := 62) (pc' := 170) rfl (hb hby d2_62) rfl (flt c62_20).2.2.2 (by decide) (by decide) k) ?_
            show own_Go _ _ _ _ s₁ (mkF m 170 #[.val (.int p0)] [])
            exact J170 (hf37.trans (by simp only [own_f2_37, if_neg c41_17, if_neg c48_18, if_neg c55_19, if_neg c62_20]; first | rfl | done))
  have J24 : own_f2 p0 = own_f2_24 p0 → own_Go p.tables e below (own_Fin below s (Q2 Z p0 h0 n0) ({ frames := 0, cells := 0, slots := 0, locals := 0 } : Room).cells ({ frames := 0, cells := 0, slots := 0, locals := 0 } : Room).slots) s₁ (mkF m 24 #[.val (.int p0)] []) := by
    intro hf24
    show own_Go _ _ _ _ s₁ (mkF m 24 #[.val (.int p0)] [])
    refine own_st (fun t k => XS.iloadN X0.here hx rfl (hb hby d2_24) rfl k) ?_
    show own_Go _ _ _ _ s₁ (mkF m 25 #[.val (.int p0)] [(.int p0)])
    refine own_st (fun t k => XS.bipush X0.here hx rfl (hb hby d2_25) k) ?_
    show own_Go _ _ _ _ s₁ (mkF m 27 #[.val (.int p0)] [(.int (122 : Int32)), (.int p0)])
    by_cases c27_21 : (122 : Int32) < p0
    ·
      refine own_st (fun t k => XS.icmpNo X0.here hx rfl (hb hby d2_27) rfl (tlt c27_21).2.2.2 k) ?_
      show own_Go _ _ _ _ s₁ (mkF m 30 #[.val (.int p0)] [])
      refine own_st (fun t k => XS.iloadN X0.here hx rfl (hb hby d2_30) rfl k) ?_
      show own_Go _ _ _ _ s₁ (mkF m 31 #[.val (.int p0)] [(.int p0)])
      refine own_st (fun t k => XS.sipush X0.here hx rfl (hb hby d2_31) k) ?_
      show own_Go _ _ _ _ s₁ (mkF m 34 #[.val (.int p0)] [(.int (192 : Int32)), (.int p0)])
      by_cases c34_22 : p0 < (192 : Int32)
      ·
        refine own_st (fun t k => XS.icmpYes X0.here hx rfl (pc0 := 34) (pc' := 170) rfl (hb hby d2_34) rfl (tlt c34_22).1 (by decide) (by decide) k) ?_
        show own_Go _ _ _ _ s₁ (mkF m 170 #[.val (.int p0)] [])
        exact J170 (hf24.trans (by simp only [own_f2_24, if_pos c27_21, if_pos c34_22]; first | rfl | done))
      ·
        refine own_st (fun t k => XS.icmpNo X0.here hx rfl (hb hby d2_34) rfl (flt c34_22).1 k) ?_
        show own_Go _ _ _ _ s₁ (mkF m 37 #[.val (.int p0)] [])
        exact J37 (hf24.trans (by simp only [own_f2_24, if_pos c27_21, if_neg c34_22]; first | rfl | done))
    ·
      refine own_st (fun t k => XS.icmpYes X0.here hx rfl (pc0 := 27) (pc' := 37) rfl (hb hby d2_27) rfl (flt c27_21).2.2.2 (by decide) (by decide) k) ?_
      show own_Go _ _ _ _ s₁ (mkF m 37 #[.val (.int p0)] [])
      exact J37 (hf24.trans (by simp only [own_f2_24, if_neg c27_21]; first | rfl | done))
  show own_Go _ _ _ _ s₁ (mkF m 0 #[.val (.int p0)] [])
  refine own_st (fun t k => XS.iloadN X0.here hx rfl (hb hby d2_0) rfl k) ?_
  show own_Go _ _ _ _ s₁ (mkF m 1 #[.val (.int p0)] [(.int p0)])
  refine own_st (fun t k => XS.bipush X0.here hx rfl (hb hby d2_1) k) ?_
  show own_Go _ _ _ _ s₁ (mkF m 3 #[.val (.int p0)] [(.int (65 : Int32)), (.int p0)])
  by_cases c3_23 : p0 < (65 : Int32)
  ·
    refine own_st (fun t k => XS.icmpYes X0.here hx rfl (pc0 := 3) (pc' := 170) rfl (hb hby d2_3) rfl (tlt c3_23).1 (by decide) (by decide) k) ?_
    show own_Go _ _ _ _ s₁ (mkF m 170 #[.val (.int p0)] [])
    exact J170 (by simp only [own_f2, if_pos c3_23]; first | rfl | done)
  ·
    refine own_st (fun t k => XS.icmpNo X0.here hx rfl (hb hby d2_3) rfl (flt c3_23).1 k) ?_
    show own_Go _ _ _ _ s₁ (mkF m 6 #[.val (.int p0)] [])
    refine own_st (fun t k => XS.iloadN X0.here hx rfl (hb hby d2_6) rfl k) ?_
    show own_Go _ _ _ _ s₁ (mkF m 7 #[.val (.int p0)] [(.int p0)])
    refine own_st (fun t k => XS.bipush X0.here hx rfl (hb hby d2_7) k) ?_
    show own_Go _ _ _ _ s₁ (mkF m 9 #[.val (.int p0)] [(.int (90 : Int32)), (.int p0)])
    by_cases c9_24 : (90 : Int32) < p0
    ·
      refine own_st (fun t k => XS.icmpNo X0.here hx rfl (hb hby d2_9) rfl (tlt c9_24).2.2.2 k) ?_
      show own_Go _ _ _ _ s₁ (mkF m 12 #[.val (.int p0)] [])
      refine own_st (fun t k => XS.iloadN X0.here hx rfl (hb hby d2_12) rfl k) ?_
      show own_Go _ _ _ _ s₁ (mkF m 13 #[.val (.int p0)] [(.int p0)])
      refine own_st (fun t k => XS.bipush X0.here hx rfl (hb hby d2_13) k) ?_
      show own_Go _ _ _ _ s₁ (mkF m 15 #[.val (.int p0)] [(.int (97 : Int32)), (.int p0)])
      by_cases c15_25 : p0 < (97 : Int32)
      ·
        refine own_st (fun t k => XS.icmpNo X0.here hx rfl (hb hby d2_15) rfl (tlt c15_25).2.1 k) ?_
        show own_Go _ _ _ _ s₁ (mkF m 18 #[.val (.int p0)] [])
        refine own_st (fun t k => XS.iloadN X0.here hx rfl (hb hby d2_18) rfl k) ?_
        show own_Go _ _ _ _ s₁ (mkF m 19 #[.val (.int p0)] [(.int p0)])
        refine own_st (fun t k => XS.bipush X0.here hx rfl (hb hby d2_19) k) ?_
        show own_Go _ _ _ _ s₁ (mkF m 21 #[.val (.int p0)] [(.int (95 : Int32)), (.int p0)])
        by_cases c21_26 : p0 = (95 : Int32)
        ·
          refine own_st (fun t k => XS.icmpNo X0.here hx rfl (hb hby d2_21) rfl (teq c21_26).2 k) ?_
          show own_Go _ _ _ _ s₁ (mkF m 24 #[.val (.int p0)] [])
          exact J24 (by simp only [own_f2, if_neg c3_23, if_pos c9_24, if_pos c15_25, if_pos c21_26]; first | rfl | done)
        ·
          refine own_st (fun t k => XS.icmpYes X0.here hx rfl (pc0 := 21) (pc' := 170) rfl (hb hby d2_21) rfl (feq c21_26).2 (by decide) (by decide) k) ?_
          show own_Go _ _ _ _ s₁ (mkF m 170 #[.val (.int p0)] [])
          exact J170 (by simp only [own_f2, if_neg c3_23, if_pos c9_24, if_pos c15_25, if_neg c21_26]; first | rfl | done)
      ·
        refine own_st (fun t k => XS.icmpYes X0.here hx rfl (pc0 := 15) (pc' := 24) rfl (hb hby d2_15) rfl (flt c15_25).2.1 (by decide) (by decide) k) ?_
        show own_Go _ _ _ _ s₁ (mkF m 24 #[.val (.int p0)] [])
        exact J24 (by simp only [own_f2, if_neg c3_23, if_pos c9_24, if_neg c15_25]; first | rfl | done)
    ·
      refine own_st (fun t k => XS.icmpYes X0.here hx rfl (pc0 := 9) (pc' := 24) rfl (hb hby d2_9) rfl (flt c9_24).2.2.2 (by decide) (by decide) k) ?_
      show own_Go _ _ _ _ s₁ (mkF m 24 #[.val (.int p0)] [])
      exact J24 (by simp only [own_f2, if_neg c3_23, if_neg c9_24]; first | rfl | done)
theorem own_lt (x y : Int32) : (x < y) = (x.toInt < y.toInt) := propext Int32.lt_iff_toInt_lt
theorem own_eqi (x y : Int32) : (x = y) = (x.toInt = y.toInt) := propext Int32.toInt_inj.symm
def own_f1_179_P (z : Int) : Prop := (65536 ≤ z ∧ z ≤ 983039)
instance (z : Int) : Decidable (own_f1_179_P z) := by unfold own_f1_179_P; infer_instance
theorem own_f1_179_is (c : Int32) : own_f1_179 c = if own_f1_179_P c.toInt then 1 else 0 := by
  by_cases hP : own_f1_179_P c.toInt
  · rw [if_pos hP]
    simp only [own_f1_179_P] at hP
    simp only [own_f1_179, own_f1_191, own_f1_195, own_lt]
    simp only [own_eqi c, Int32.reduceToInt]
    generalize c.toInt = z at *
    repeat' split
    all_goals first | rfl | (exfalso; omega)
  · rw [if_neg hP]
    simp only [own_f1_179_P] at hP
    simp only [own_f1_179, own_f1_191, own_f1_195, own_lt]
    simp only [own_eqi c, Int32.reduceToInt]
    generalize c.toInt = z at *
    repeat' split
    all_goals first | rfl | (exfalso; omega)
def own_f1_167_P (z : Int) : Prop := (65008 ≤ z ∧ z ≤ 65533) ∨ own_f1_179_P z
instance (z : Int) : Decidable (own_f1_167_P z) := by unfold own_f1_167_P; infer_instance
theorem own_f1_167_is (c : Int32) : own_f1_167 c = if own_f1_167_P c.toInt then 1 else 0 := by
  by_cases hP : own_f1_167_P c.toInt
  · rw [if_pos hP]
    simp only [own_f1_167_P] at hP
    simp only [own_f1_167, own_f1_191, own_f1_195, own_f1_179_is, own_lt]
    simp only [own_eqi c, Int32.reduceToInt]
    generalize c.toInt = z at *
    by_cases hn : own_f1_179_P z
    · simp only [if_pos hn]
      try simp only [hn, or_true, true_or, and_true, true_and, or_false, false_or, and_false, false_and, not_true_eq_false, not_false_eq_true] at hP
      all_goals (repeat' split)
      all_goals first | rfl | (exfalso; omega)
    · simp only [if_neg hn]
      try simp only [hn, or_true, true_or, and_true, true_and, or_false, false_or, and_false, false_and, not_true_eq_false, not_false_eq_true] at hP
      all_goals (repeat' split)
      all_goals first | rfl | (exfalso; omega)
  · rw [if_neg hP]
    simp only [own_f1_167_P] at hP
    simp only [own_f1_167, own_f1_191, own_f1_195, own_f1_179_is, own_lt]
    simp only [own_eqi c, Int32.reduceToInt]
    generalize c.toInt = z at *
    by_cases hn : own_f1_179_P z
    · simp only [if_pos hn]
      try simp only [hn, or_true, true_or, and_true, true_and, or_false, false_or, and_false, false_and, not_true_eq_false, not_false_eq_true] at hP
      all_goals (repeat' split)
      all_goals first | rfl | (exfalso; omega)
    · simp only [if_neg hn]
      try simp only [hn, or_true, true_or, and_true, true_and, or_false, false_or, and_false, false_and, not_true_eq_false, not_false_eq_true] at hP
      all_goals (repeat' split)
      all_goals first | rfl | (exfalso; omega)
def own_f1_155_P (z : Int) : Prop := (63744 ≤ z ∧ z ≤ 64975) ∨ own_f1_167_P z
instance (z : Int) : Decidable (own_f1_155_P z) := by unfold own_f1_155_P; infer_instance
theorem own_f1_155_is (c : Int32) : own_f1_155 c = if own_f1_155_P c.toInt then 1 else 0 := by
  by_cases hP : own_f1_155_P c.toInt
  · rw [if_pos hP]
    simp only [own_f1_155_P] at hP
    simp only [own_f1_155, own_f1_191, own_f1_195, own_f1_167_is, own_lt]
    simp only [own_eqi c, Int32.reduceToInt]
    generalize c.toInt = z at *
    by_cases hn : own_f1_167_P z
    · simp only [if_pos hn]
      try simp only [hn, or_true, true_or, and_true, true_and, or_false, false_or, and_false, false_and, not_true_eq_false, not_false_eq_true] at hP
      all_goals (repeat' split)
      all_goals first | rfl | (exfalso; omega)
    · simp only [if_neg hn]
      try simp only [hn, or_true, true_or, and_true, true_and, or_false, false_or, and_false, false_and, not_true_eq_false, not_false_eq_true] at hP
      all_goals (repeat' split)
      all_goals first | rfl | (exfalso; omega)
  · rw [if_neg hP]
    simp only [own_f1_155_P] at hP
    simp only [own_f1_155, own_f1_191, own_f1_195, own_f1_167_is, own_lt]
    simp only [own_eqi c, Int32.reduceToInt]
    generalize c.toInt = z at *
    by_cases hn : own_f1_167_P z
    · simp only [if_pos hn]
      try simp only [hn, or_true, true_or, and_true, true_and, or_false, false_or, and_false, false_and, not_true_eq_false, not_false_eq_true] at hP
      all_goals (repeat' split)
      all_goals first | rfl | (exfalso; omega)
    · simp only [if_neg hn]
      try simp only [hn, or_true, true_or, and_true, true_and, or_false, false_or, and_false, false_and, not_true_eq_false, not_false_eq_true] at hP
      all_goals (repeat' split)
      all_goals first | rfl | (exfalso; omega)
def own_f1_142_P (z : Int) : Prop := (12289 ≤ z ∧ z ≤ 55295) ∨ own_f1_155_P z
instance (z : Int) : Decidable (own_f1_142_P z) := by unfold own_f1_142_P; infer_instance
theorem own_f1_142_is (c : Int32) : own_f1_142 c = if own_f1_142_P c.toInt then 1 else 0 := by
  by_cases hP : own_f1_142_P c.toInt
  · rw [if_pos hP]
    simp only [own_f1_142_P] at hP
    simp only [own_f1_142, own_f1_191, own_f1_195, own_f1_155_is, own_lt]
    simp only [own_eqi c, Int32.reduceToInt]
    generalize c.toInt = z at *
    by_cases hn : own_f1_155_P z
    · simp only [if_pos hn]
      try simp only [hn, or_true, true_or, and_true, true_and, or_false, false_or, and_false, false_and, not_true_eq_false, not_false_eq_true] at hP
      all_goals (repeat' split)
      all_goals first | rfl | (exfalso; omega)
    · simp only [if_neg hn]
      try simp only [hn, or_true, true_or, and_true, true_and, or_false, false_or, and_false, false_and, not_true_eq_false, not_false_eq_true] at hP
      all_goals (repeat' split)
      all_goals first | rfl | (exfalso; omega)
  · rw [if_neg hP]
    simp only [own_f1_142_P] at hP
    simp only [own_f1_142, own_f1_191, own_f1_195, own_f1_155_is, own_lt]
    simp only [own_eqi c, Int32.reduceToInt]
    generalize c.toInt = z at *
    by_cases hn : own_f1_155_P z
    · simp only [if_pos hn]
      try simp only [hn, or_true, true_or, and_true, true_and, or_false, false_or, and_false, false_and, not_true_eq_false, not_false_eq_true] at hP
      all_goals (repeat' split)
      all_goals first | rfl | (exfalso; omega)
    · simp only [if_neg hn]
      try simp only [hn, or_true, true_or, and_true, true_and, or_false, false_or, and_false, false_and, not_true_eq_false, not_false_eq_true] at hP
      all_goals (repeat' split)
      all_goals first | rfl | (exfalso; omega)
def own_f1_128_P (z : Int) : Prop := (11264 ≤ z ∧ z ≤ 12271) ∨ own_f1_142_P z
instance (z : Int) : Decidable (own_f1_128_P z) := by unfold own_f1_128_P; infer_instance
theorem own_f1_128_is (c : Int32) : own_f1_128 c = if own_f1_128_P c.toInt then 1 else 0 := by
  by_cases hP : own_f1_128_P c.toInt
  · rw [if_pos hP]
    simp only [own_f1_128_P] at hP
    simp only [own_f1_128, own_f1_191, own_f1_195, own_f1_142_is, own_lt]
    simp only [own_eqi c, Int32.reduceToInt]
    generalize c.toInt = z at *
    by_cases hn : own_f1_142_P z
    · simp only [if_pos hn]
      try simp only [hn, or_true, true_or, and_true, true_and, or_false, false_or, and_false, false_and, not_true_eq_false, not_false_eq_true] at hP
      all_goals (repeat' split)
      all_goals first | rfl | (exfalso; omega)
    · simp only [if_neg hn]
      try simp only [hn, or_true, true_or, and_true, true_and, or_false, false_or, and_false, false_and, not_true_eq_false, not_false_eq_true] at hP
      all_goals (repeat' split)
      all_goals first | rfl | (exfalso; omega)
  · rw [if_neg hP]
    simp only [own_f1_128_P] at hP
    simp only [own_f1_128, own_f1_191, own_f1_195, own_f1_142_is, own_lt]
    simp only [own_eqi c, Int32.reduceToInt]
    generalize c.toInt = z at *
    by_cases hn : own_f1_142_P z
    · simp only [if_pos hn]
      try simp only [hn, or_true, true_or, and_true, true_and, or_false, false_or, and_false, false_and, not_true_eq_false, not_false_eq_true] at hP
      all_goals (repeat' split)
      all_goals first | rfl | (exfalso; omega)
    · simp only [if_neg hn]
      try simp only [hn, or_true, true_or, and_true, true_and, or_false, false_or, and_false, false_and, not_true_eq_false, not_false_eq_true] at hP
      all_goals (repeat' split)
      all_goals first | rfl | (exfalso; omega)
def own_f1_114_P (z : Int) : Prop := (8304 ≤ z ∧ z ≤ 8591) ∨ own_f1_128_P z
instance (z : Int) : Decidable (own_f1_114_P z) := by unfold own_f1_114_P; infer_instance
theorem own_f1_114_is (c : Int32) : own_f1_114 c = if own_f1_114_P c.toInt then 1 else 0 := by
  by_cases hP : own_f1_114_P c.toInt
  · rw [if_pos hP]
    simp only [own_f1_114_P] at hP
    simp only [own_f1_114, own_f1_191, own_f1_195, own_f1_128_is, own_lt]
    simp only [own_eqi c, Int32.reduceToInt]
    generalize c.toInt = z at *
    by_cases hn : own_f1_128_P z
    · simp only [if_pos hn]
      try simp only [hn, or_true, true_or, and_true, true_and, or_false, false_or, and_false, false_and, not_true_eq_false, not_false_eq_true] at hP
      all_goals (repeat' split)
      all_goals first | rfl | (exfalso; omega)
    · simp only [if_neg hn]
      try simp only [hn, or_true, true_or, and_true, true_and, or_false, false_or, and_false, false_and, not_true_eq_false, not_false_eq_true] at hP
      all_goals (repeat' split)
      all_goals first | rfl | (exfalso; omega)
  · rw [if_neg hP]
    simp only [own_f1_114_P] at hP
    simp only [own_f1_114, own_f1_191, own_f1_195, own_f1_128_is, own_lt]
    simp only [own_eqi c, Int32.reduceToInt]
    generalize c.toInt = z at *
    by_cases hn : own_f1_128_P z
    · simp only [if_pos hn]
      try simp only [hn, or_true, true_or, and_true, true_and, or_false, false_or, and_false, false_and, not_true_eq_false, not_false_eq_true] at hP
      all_goals (repeat' split)
      all_goals first | rfl | (exfalso; omega)
    · simp only [if_neg hn]
      try simp only [hn, or_true, true_or, and_true, true_and, or_false, false_or, and_false, false_and, not_true_eq_false, not_false_eq_true] at hP
      all_goals (repeat' split)
      all_goals first | rfl | (exfalso; omega)
def own_f1_100_P (z : Int) : Prop := (8204 ≤ z ∧ z ≤ 8205) ∨ own_f1_114_P z
instance (z : Int) : Decidable (own_f1_100_P z) := by unfold own_f1_100_P; infer_instance
theorem own_f1_100_is (c : Int32) : own_f1_100 c = if own_f1_100_P c.toInt then 1 else 0 := by
  by_cases hP : own_f1_100_P c.toInt
  · rw [if_pos hP]
    simp only [own_f1_100_P] at hP
    simp only [own_f1_100, own_f1_191, own_f1_195, own_f1_114_is, own_lt]
    simp only [own_eqi c, Int32.reduceToInt]
    generalize c.toInt = z at *
    by_cases hn : own_f1_114_P z
    · simp only [if_pos hn]
      try simp only [hn, or_true, true_or, and_true, true_and, or_false, false_or, and_false, false_and, not_true_eq_false, not_false_eq_true] at hP
      all_goals (repeat' split)
      all_goals first | rfl | (exfalso; omega)
    · simp only [if_neg hn]
      try simp only [hn, or_true, true_or, and_true, true_and, or_false, false_or, and_false, false_and, not_true_eq_false, not_false_eq_true] at hP
      all_goals (repeat' split)
      all_goals first | rfl | (exfalso; omega)
  · rw [if_neg hP]
    simp only [own_f1_100_P] at hP
    simp only [own_f1_100, own_f1_191, own_f1_195, own_f1_114_is, own_lt]
    simp only [own_eqi c, Int32.reduceToInt]
    generalize c.toInt = z at *
    by_cases hn : own_f1_114_P z
    · simp only [if_pos hn]
      try simp only [hn, or_true, true_or, and_true, true_and, or_false, false_or, and_false, false_and, not_true_eq_false, not_false_eq_true] at hP
      all_goals (repeat' split)
      all_goals first | rfl | (exfalso; omega)
    · simp only [if_neg hn]
      try simp only [hn, or_true, true_or, and_true, true_and, or_false, false_or, and_false, false_and, not_true_eq_false, not_false_eq_true] at hP
      all_goals (repeat' split)
      all_goals first | rfl | (exfalso; omega)
def own_f1_86_P (z : Int) : Prop := (895 ≤ z ∧ z ≤ 8191) ∨ own_f1_100_P z
instance (z : Int) : Decidable (own_f1_86_P z) := by unfold own_f1_86_P; infer_instance
theorem own_f1_86_is (c : Int32) : own_f1_86 c = if own_f1_86_P c.toInt then 1 else 0 := by
  by_cases hP : own_f1_86_P c.toInt
  · rw [if_pos hP]
    simp only [own_f1_86_P] at hP
    simp only [own_f1_86, own_f1_191, own_f1_195, own_f1_100_is, own_lt]
    simp only [own_eqi c, Int32.reduceToInt]
    generalize c.toInt = z at *
    by_cases hn : own_f1_100_P z
    · simp only [if_pos hn]
      try simp only [hn, or_true, true_or, and_true, true_and, or_false, false_or, and_false, false_and, not_true_eq_false, not_false_eq_true] at hP
      all_goals (repeat' split)
      all_goals first | rfl | (exfalso; omega)
    · simp only [if_neg hn]
      try simp only [hn, or_true, true_or, and_true, true_and, or_false, false_or, and_false, false_and, not_true_eq_false, not_false_eq_true] at hP
      all_goals (repeat' split)
      all_goals first | rfl | (exfalso; omega)
  · rw [if_neg hP]
    simp only [own_f1_86_P] at hP
    simp only [own_f1_86, own_f1_191, own_f1_195, own_f1_100_is, own_lt]
    simp only [own_eqi c, Int32.reduceToInt]
    generalize c.toInt = z at *
    by_cases hn : own_f1_100_P z
    · simp only [if_pos hn]
      try simp only [hn, or_true, true_or, and_true, true_and, or_false, false_or, and_false, false_and, not_true_eq_false, not_false_eq_true] at hP
      all_goals (repeat' split)
      all_goals first | rfl | (exfalso; omega)
    · simp only [if_neg hn]
      try simp only [hn, or_true, true_or, and_true, true_and, or_false, false_or, and_false, false_and, not_true_eq_false, not_false_eq_true] at hP
      all_goals (repeat' split)
      all_goals first | rfl | (exfalso; omega)
def own_f1_72_P (z : Int) : Prop := (880 ≤ z ∧ z ≤ 893) ∨ own_f1_86_P z
instance (z : Int) : Decidable (own_f1_72_P z) := by unfold own_f1_72_P; infer_instance
theorem own_f1_72_is (c : Int32) : own_f1_72 c = if own_f1_72_P c.toInt then 1 else 0 := by
  by_cases hP : own_f1_72_P c.toInt
  · rw [if_pos hP]
    simp only [own_f1_72_P] at hP
    simp only [own_f1_72, own_f1_191, own_f1_195, own_f1_86_is, own_lt]
    simp only [own_eqi c, Int32.reduceToInt]
    generalize c.toInt = z at *
    by_cases hn : own_f1_86_P z
    · simp only [if_pos hn]
      try simp only [hn, or_true, true_or, and_true, true_and, or_false, false_or, and_false, false_and, not_true_eq_false, not_false_eq_true] at hP
      all_goals (repeat' split)
      all_goals first | rfl | (exfalso; omega)
    · simp only [if_neg hn]
      try simp only [hn, or_true, true_or, and_true, true_and, or_false, false_or, and_false, false_and, not_true_eq_false, not_false_eq_true] at hP
      all_goals (repeat' split)
      all_goals first | rfl | (exfalso; omega)
  · rw [if_neg hP]
    simp only [own_f1_72_P] at hP
    simp only [own_f1_72, own_f1_191, own_f1_195, own_f1_86_is, own_lt]
    simp only [own_eqi c, Int32.reduceToInt]
    generalize c.toInt = z at *
    by_cases hn : own_f1_86_P z
    · simp only [if_pos hn]
      try simp only [hn, or_true, true_or, and_true, true_and, or_false, false_or, and_false, false_and, not_true_eq_false, not_false_eq_true] at hP
      all_goals (repeat' split)
      all_goals first | rfl | (exfalso; omega)
    · simp only [if_neg hn]
      try simp only [hn, or_true, true_or, and_true, true_and, or_false, false_or, and_false, false_and, not_true_eq_false, not_false_eq_true] at hP
      all_goals (repeat' split)
      all_goals first | rfl | (exfalso; omega)
def own_f1_58_P (z : Int) : Prop := (248 ≤ z ∧ z ≤ 767) ∨ own_f1_72_P z
instance (z : Int) : Decidable (own_f1_58_P z) := by unfold own_f1_58_P; infer_instance
theorem own_f1_58_is (c : Int32) : own_f1_58 c = if own_f1_58_P c.toInt then 1 else 0 := by
  by_cases hP : own_f1_58_P c.toInt
  · rw [if_pos hP]
    simp only [own_f1_58_P] at hP
    simp only [own_f1_58, own_f1_191, own_f1_195, own_f1_72_is, own_lt]
    simp only [own_eqi c, Int32.reduceToInt]
    generalize c.toInt = z at *
    by_cases hn : own_f1_72_P z
    · simp only [if_pos hn]
      try simp only [hn, or_true, true_or, and_true, true_and, or_false, false_or, and_false, false_and, not_true_eq_false, not_false_eq_true] at hP
      all_goals (repeat' split)
      all_goals first | rfl | (exfalso; omega)
    · simp only [if_neg hn]
      try simp only [hn, or_true, true_or, and_true, true_and, or_false, false_or, and_false, false_and, not_true_eq_false, not_false_eq_true] at hP
      all_goals (repeat' split)
      all_goals first | rfl | (exfalso; omega)
  · rw [if_neg hP]
    simp only [own_f1_58_P] at hP
    simp only [own_f1_58, own_f1_191, own_f1_195, own_f1_72_is, own_lt]
    simp only [own_eqi c, Int32.reduceToInt]
    generalize c.toInt = z at *
    by_cases hn : own_f1_72_P z
    · simp only [if_pos hn]
      try simp only [hn, or_true, true_or, and_true, true_and, or_false, false_or, and_false, false_and, not_true_eq_false, not_false_eq_true] at hP
      all_goals (repeat' split)
      all_goals first | rfl | (exfalso; omega)
    · simp only [if_neg hn]
      try simp only [hn, or_true, true_or, and_true, true_and, or_false, false_or, and_false, false_and, not_true_eq_false, not_false_eq_true] at hP
      all_goals (repeat' split)
      all_goals first | rfl | (exfalso; omega)
def own_f1_44_P (z : Int) : Prop := (216 ≤ z ∧ z ≤ 246) ∨ own_f1_58_P z
instance (z : Int) : Decidable (own_f1_44_P z) := by unfold own_f1_44_P; infer_instance
theorem own_f1_44_is (c : Int32) : own_f1_44 c = if own_f1_44_P c.toInt then 1 else 0 := by
  by_cases hP : own_f1_44_P c.toInt
  · rw [if_pos hP]
    simp only [own_f1_44_P] at hP
    simp only [own_f1_44, own_f1_191, own_f1_195, own_f1_58_is, own_lt]
    simp only [own_eqi c, Int32.reduceToInt]
    generalize c.toInt = z at *
    by_cases hn : own_f1_58_P z
    · simp only [if_pos hn]
      try simp only [hn, or_true, true_or, and_true, true_and, or_false, false_or, and_false, false_and, not_true_eq_false, not_false_eq_true] at hP
      all_goals (repeat' split)
      all_goals first | rfl | (exfalso; omega)
    · simp only [if_neg hn]
      try simp only [hn, or_true, true_or, and_true, true_and, or_false, false_or, and_false, false_and, not_true_eq_false, not_false_eq_true] at hP
      all_goals (repeat' split)
      all_goals first | rfl | (exfalso; omega)
  · rw [if_neg hP]
    simp only [own_f1_44_P] at hP
    simp only [own_f1_44, own_f1_191, own_f1_195, own_f1_58_is, own_lt]
    simp only [own_eqi c, Int32.reduceToInt]
    generalize c.toInt = z at *
    by_cases hn : own_f1_58_P z
    · simp only [if_pos hn]
      try simp only [hn, or_true, true_or, and_true, true_and, or_false, false_or, and_false, false_and, not_true_eq_false, not_false_eq_true] at hP
      all_goals (repeat' split)
      all_goals first | rfl | (exfalso; omega)
    · simp only [if_neg hn]
      try simp only [hn, or_true, true_or, and_true, true_and, or_false, false_or, and_false, false_and, not_true_eq_false, not_false_eq_true] at hP
      all_goals (repeat' split)
      all_goals first | rfl | (exfalso; omega)
def own_f1_24_P (z : Int) : Prop := z = 95 ∨ (192 ≤ z ∧ z ≤ 214) ∨ own_f1_44_P z
instance (z : Int) : Decidable (own_f1_24_P z) := by unfold own_f1_24_P; infer_instance
theorem own_f1_24_is (c : Int32) : own_f1_24 c = if own_f1_24_P c.toInt then 1 else 0 := by
  by_cases hP : own_f1_24_P c.toInt
  · rw [if_pos hP]
    simp only [own_f1_24_P] at hP
    simp only [own_f1_24, own_f1_191, own_f1_195, own_f1_44_is, own_lt]
    simp only [own_eqi c, Int32.reduceToInt]
    generalize c.toInt = z at *
    by_cases hn : own_f1_44_P z
    · simp only [if_pos hn]
      try simp only [hn, or_true, true_or, and_true, true_and, or_false, false_or, and_false, false_and, not_true_eq_false, not_false_eq_true] at hP
      all_goals (repeat' split)
      all_goals first | rfl | (exfalso; omega)
    · simp only [if_neg hn]
      try simp only [hn, or_true, true_or, and_true, true_and, or_false, false_or, and_false, false_and, not_true_eq_false, not_false_eq_true] at hP
      all_goals (repeat' split)
      all_goals first | rfl | (exfalso; omega)
  · rw [if_neg hP]
    simp only [own_f1_24_P] at hP
    simp only [own_f1_24, own_f1_191, own_f1_195, own_f1_44_is, own_lt]
    simp only [own_eqi c, Int32.reduceToInt]
    generalize c.toInt = z at *
    by_cases hn : own_f1_44_P z
    · simp only [if_pos hn]
      try simp only [hn, or_true, true_or, and_true, true_and, or_false, false_or, and_false, false_and, not_true_eq_false, not_false_eq_true] at hP
      all_goals (repeat' split)
      all_goals first | rfl | (exfalso; omega)
    · simp only [if_neg hn]
      try simp only [hn, or_true, true_or, and_true, true_and, or_false, false_or, and_false, false_and, not_true_eq_false, not_false_eq_true] at hP
      all_goals (repeat' split)
      all_goals first | rfl | (exfalso; omega)
def own_f1_12_P (z : Int) : Prop := (65 ≤ z ∧ z ≤ 90) ∨ own_f1_24_P z
instance (z : Int) : Decidable (own_f1_12_P z) := by unfold own_f1_12_P; infer_instance
theorem own_f1_12_is (c : Int32) : own_f1_12 c = if own_f1_12_P c.toInt then 1 else 0 := by
  by_cases hP : own_f1_12_P c.toInt
  · rw [if_pos hP]
    simp only [own_f1_12_P] at hP
    simp only [own_f1_12, own_f1_191, own_f1_195, own_f1_24_is, own_lt]
    simp only [own_eqi c, Int32.reduceToInt]
    generalize c.toInt = z at *
    by_cases hn : own_f1_24_P z
    · simp only [if_pos hn]
      try simp only [hn, or_true, true_or, and_true, true_and, or_false, false_or, and_false, false_and, not_true_eq_false, not_false_eq_true] at hP
      all_goals (repeat' split)
      all_goals first | rfl | (exfalso; omega)
    · simp only [if_neg hn]
      try simp only [hn, or_true, true_or, and_true, true_and, or_false, false_or, and_false, false_and, not_true_eq_false, not_false_eq_true] at hP
      all_goals (repeat' split)
      all_goals first | rfl | (exfalso; omega)
  · rw [if_neg hP]
    simp only [own_f1_12_P] at hP
    simp only [own_f1_12, own_f1_191, own_f1_195, own_f1_24_is, own_lt]
    simp only [own_eqi c, Int32.reduceToInt]
    generalize c.toInt = z at *
    by_cases hn : own_f1_24_P z
    · simp only [if_pos hn]
      try simp only [hn, or_true, true_or, and_true, true_and, or_false, false_or, and_false, false_and, not_true_eq_false, not_false_eq_true] at hP
      all_goals (repeat' split)
      all_goals first | rfl | (exfalso; omega)
    · simp only [if_neg hn]
      try simp only [hn, or_true, true_or, and_true, true_and, or_false, false_or, and_false, false_and, not_true_eq_false, not_false_eq_true] at hP
      all_goals (repeat' split)
      all_goals first | rfl | (exfalso; omega)
def own_f1_P (z : Int) : Prop := (97 ≤ z ∧ z ≤ 122) ∨ own_f1_12_P z
instance (z : Int) : Decidable (own_f1_P z) := by unfold own_f1_P; infer_instance
theorem own_f1_is (c : Int32) : own_f1 c = if own_f1_P c.toInt then 1 else 0 := by
  by_cases hP : own_f1_P c.toInt
  · rw [if_pos hP]
    simp only [own_f1_P] at hP
    simp only [own_f1, own_f1_191, own_f1_195, own_f1_12_is, own_lt]
    simp only [own_eqi c, Int32.reduceToInt]
    generalize c.toInt = z at *
    by_cases hn : own_f1_12_P z
    · simp only [if_pos hn]
      try simp only [hn, or_true, true_or, and_true, true_and, or_false, false_or, and_false, false_and, not_true_eq_false, not_false_eq_true] at hP
      all_goals (repeat' split)
      all_goals first | rfl | (exfalso; omega)
    · simp only [if_neg hn]
      try simp only [hn, or_true, true_or, and_true, true_and, or_false, false_or, and_false, false_and, not_true_eq_false, not_false_eq_true] at hP
      all_goals (repeat' split)
      all_goals first | rfl | (exfalso; omega)
  · rw [if_neg hP]
    simp only [own_f1_P] at hP
    simp only [own_f1, own_f1_191, own_f1_195, own_f1_12_is, own_lt]
    simp only [own_eqi c, Int32.reduceToInt]
    generalize c.toInt = z at *
    by_cases hn : own_f1_12_P z
    · simp only [if_pos hn]
      try simp only [hn, or_true, true_or, and_true, true_and, or_false, false_or, and_false, false_and, not_true_eq_false, not_false_eq_true] at hP
      all_goals (repeat' split)
      all_goals first | rfl | (exfalso; omega)
    · simp only [if_neg hn]
      try simp only [hn, or_true, true_or, and_true, true_and, or_false, false_or, and_false, false_and, not_true_eq_false, not_false_eq_true] at hP
      all_goals (repeat' split)
      all_goals first | rfl | (exfalso; omega)
def own_f2_164_P (z : Int) : Prop := 983039 < z
instance (z : Int) : Decidable (own_f2_164_P z) := by unfold own_f2_164_P; infer_instance
theorem own_f2_164_is (c : Int32) : own_f2_164 c = if own_f2_164_P c.toInt then 1 else 0 := by
  by_cases hP : own_f2_164_P c.toInt
  · rw [if_pos hP]
    simp only [own_f2_164_P] at hP
    simp only [own_f2_164, own_f2_170, own_lt]
    simp only [own_eqi c, Int32.reduceToInt]
    generalize c.toInt = z at *
    repeat' split
    all_goals first | rfl | (exfalso; omega)
  · rw [if_neg hP]
    simp only [own_f2_164_P] at hP
    simp only [own_f2_164, own_f2_170, own_lt]
    simp only [own_eqi c, Int32.reduceToInt]
    generalize c.toInt = z at *
    repeat' split
    all_goals first | rfl | (exfalso; omega)
def own_f2_152_P (z : Int) : Prop := (65534 ≤ z ∧ z ≤ 65535) ∨ own_f2_164_P z
instance (z : Int) : Decidable (own_f2_152_P z) := by unfold own_f2_152_P; infer_instance
theorem own_f2_152_is (c : Int32) : own_f2_152 c = if own_f2_152_P c.toInt then 1 else 0 := by
  by_cases hP : own_f2_152_P c.toInt
  · rw [if_pos hP]
    simp only [own_f2_152_P] at hP
    simp only [own_f2_152, own_f2_170, own_f2_164_is, own_lt]
    simp only [own_eqi c, Int32.reduceToInt]
    generalize c.toInt = z at *
    by_cases hn : own_f2_164_P z
    · simp only [if_pos hn]
      try simp only [hn, or_true, true_or, and_true, true_and, or_false, false_or, and_false, false_and, not_true_eq_false, not_false_eq_true] at hP
      all_goals (repeat' split)
      all_goals first | rfl | (exfalso; omega)
    · simp only [if_neg hn]
      try simp only [hn, or_true, true_or, and_true, true_and, or_false, false_or, and_false, false_and, not_true_eq_false, not_false_eq_true] at hP
      all_goals (repeat' split)
      all_goals first | rfl | (exfalso; omega)
  · rw [if_neg hP]
    simp only [own_f2_152_P] at hP
    simp only [own_f2_152, own_f2_170, own_f2_164_is, own_lt]
    simp only [own_eqi c, Int32.reduceToInt]
    generalize c.toInt = z at *
    by_cases hn : own_f2_164_P z
    · simp only [if_pos hn]
      try simp only [hn, or_true, true_or, and_true, true_and, or_false, false_or, and_false, false_and, not_true_eq_false, not_false_eq_true] at hP
      all_goals (repeat' split)
      all_goals first | rfl | (exfalso; omega)
    · simp only [if_neg hn]
      try simp only [hn, or_true, true_or, and_true, true_and, or_false, false_or, and_false, false_and, not_true_eq_false, not_false_eq_true] at hP
      all_goals (repeat' split)
      all_goals first | rfl | (exfalso; omega)
def own_f2_140_P (z : Int) : Prop := (64976 ≤ z ∧ z ≤ 65007) ∨ own_f2_152_P z
instance (z : Int) : Decidable (own_f2_140_P z) := by unfold own_f2_140_P; infer_instance
theorem own_f2_140_is (c : Int32) : own_f2_140 c = if own_f2_140_P c.toInt then 1 else 0 := by
  by_cases hP : own_f2_140_P c.toInt
  · rw [if_pos hP]
    simp only [own_f2_140_P] at hP
    simp only [own_f2_140, own_f2_170, own_f2_152_is, own_lt]
    simp only [own_eqi c, Int32.reduceToInt]
    generalize c.toInt = z at *
    by_cases hn : own_f2_152_P z
    · simp only [if_pos hn]
      try simp only [hn, or_true, true_or, and_true, true_and, or_false, false_or, and_false, false_and, not_true_eq_false, not_false_eq_true] at hP
      all_goals (repeat' split)
      all_goals first | rfl | (exfalso; omega)
    · simp only [if_neg hn]
      try simp only [hn, or_true, true_or, and_true, true_and, or_false, false_or, and_false, false_and, not_true_eq_false, not_false_eq_true] at hP
      all_goals (repeat' split)
      all_goals first | rfl | (exfalso; omega)
  · rw [if_neg hP]
    simp only [own_f2_140_P] at hP
    simp only [own_f2_140, own_f2_170, own_f2_152_is, own_lt]
    simp only [own_eqi c, Int32.reduceToInt]
    generalize c.toInt = z at *
    by_cases hn : own_f2_152_P z
    · simp only [if_pos hn]
      try simp only [hn, or_true, true_or, and_true, true_and, or_false, false_or, and_false, false_and, not_true_eq_false, not_false_eq_true] at hP
      all_goals (repeat' split)
      all_goals first | rfl | (exfalso; omega)
    · simp only [if_neg hn]
      try simp only [hn, or_true, true_or, and_true, true_and, or_false, false_or, and_false, false_and, not_true_eq_false, not_false_eq_true] at hP
      all_goals (repeat' split)
      all_goals first | rfl | (exfalso; omega)
def own_f2_128_P (z : Int) : Prop := (55296 ≤ z ∧ z ≤ 63743) ∨ own_f2_140_P z
instance (z : Int) : Decidable (own_f2_128_P z) := by unfold own_f2_128_P; infer_instance
theorem own_f2_128_is (c : Int32) : own_f2_128 c = if own_f2_128_P c.toInt then 1 else 0 := by
  by_cases hP : own_f2_128_P c.toInt
  · rw [if_pos hP]
    simp only [own_f2_128_P] at hP
    simp only [own_f2_128, own_f2_170, own_f2_140_is, own_lt]
    simp only [own_eqi c, Int32.reduceToInt]
    generalize c.toInt = z at *
    by_cases hn : own_f2_140_P z
    · simp only [if_pos hn]
      try simp only [hn, or_true, true_or, and_true, true_and, or_false, false_or, and_false, false_and, not_true_eq_false, not_false_eq_true] at hP
      all_goals (repeat' split)
      all_goals first | rfl | (exfalso; omega)
    · simp only [if_neg hn]
      try simp only [hn, or_true, true_or, and_true, true_and, or_false, false_or, and_false, false_and, not_true_eq_false, not_false_eq_true] at hP
      all_goals (repeat' split)
      all_goals first | rfl | (exfalso; omega)
  · rw [if_neg hP]
    simp only [own_f2_128_P] at hP
    simp only [own_f2_128, own_f2_170, own_f2_140_is, own_lt]
    simp only [own_eqi c, Int32.reduceToInt]
    generalize c.toInt = z at *
    by_cases hn : own_f2_140_P z
    · simp only [if_pos hn]
      try simp only [hn, or_true, true_or, and_true, true_and, or_false, false_or, and_false, false_and, not_true_eq_false, not_false_eq_true] at hP
      all_goals (repeat' split)
      all_goals first | rfl | (exfalso; omega)
    · simp only [if_neg hn]
      try simp only [hn, or_true, true_or, and_true, true_and, or_false, false_or, and_false, false_and, not_true_eq_false, not_false_eq_true] at hP
      all_goals (repeat' split)
      all_goals first | rfl | (exfalso; omega)
def own_f2_114_P (z : Int) : Prop := (12272 ≤ z ∧ z ≤ 12288) ∨ own_f2_128_P z
instance (z : Int) : Decidable (own_f2_114_P z) := by unfold own_f2_114_P; infer_instance
theorem own_f2_114_is (c : Int32) : own_f2_114 c = if own_f2_114_P c.toInt then 1 else 0 := by
  by_cases hP : own_f2_114_P c.toInt
  · rw [if_pos hP]
    simp only [own_f2_114_P] at hP
    simp only [own_f2_114, own_f2_170, own_f2_128_is, own_lt]
    simp only [own_eqi c, Int32.reduceToInt]
    generalize c.toInt = z at *
    by_cases hn : own_f2_128_P z
    · simp only [if_pos hn]
      try simp only [hn, or_true, true_or, and_true, true_and, or_false, false_or, and_false, false_and, not_true_eq_false, not_false_eq_true] at hP
      all_goals (repeat' split)
      all_goals first | rfl | (exfalso; omega)
    · simp only [if_neg hn]
      try simp only [hn, or_true, true_or, and_true, true_and, or_false, false_or, and_false, false_and, not_true_eq_false, not_false_eq_true] at hP
      all_goals (repeat' split)
      all_goals first | rfl | (exfalso; omega)
  · rw [if_neg hP]
    simp only [own_f2_114_P] at hP
    simp only [own_f2_114, own_f2_170, own_f2_128_is, own_lt]
    simp only [own_eqi c, Int32.reduceToInt]
    generalize c.toInt = z at *
    by_cases hn : own_f2_128_P z
    · simp only [if_pos hn]
      try simp only [hn, or_true, true_or, and_true, true_and, or_false, false_or, and_false, false_and, not_true_eq_false, not_false_eq_true] at hP
      all_goals (repeat' split)
      all_goals first | rfl | (exfalso; omega)
    · simp only [if_neg hn]
      try simp only [hn, or_true, true_or, and_true, true_and, or_false, false_or, and_false, false_and, not_true_eq_false, not_false_eq_true] at hP
      all_goals (repeat' split)
      all_goals first | rfl | (exfalso; omega)
def own_f2_100_P (z : Int) : Prop := (8592 ≤ z ∧ z ≤ 11263) ∨ own_f2_114_P z
instance (z : Int) : Decidable (own_f2_100_P z) := by unfold own_f2_100_P; infer_instance
theorem own_f2_100_is (c : Int32) : own_f2_100 c = if own_f2_100_P c.toInt then 1 else 0 := by
  by_cases hP : own_f2_100_P c.toInt
  · rw [if_pos hP]
    simp only [own_f2_100_P] at hP
    simp only [own_f2_100, own_f2_170, own_f2_114_is, own_lt]
    simp only [own_eqi c, Int32.reduceToInt]
    generalize c.toInt = z at *
    by_cases hn : own_f2_114_P z
    · simp only [if_pos hn]
      try simp only [hn, or_true, true_or, and_true, true_and, or_false, false_or, and_false, false_and, not_true_eq_false, not_false_eq_true] at hP
      all_goals (repeat' split)
      all_goals first | rfl | (exfalso; omega)
    · simp only [if_neg hn]
      try simp only [hn, or_true, true_or, and_true, true_and, or_false, false_or, and_false, false_and, not_true_eq_false, not_false_eq_true] at hP
      all_goals (repeat' split)
      all_goals first | rfl | (exfalso; omega)
  · rw [if_neg hP]
    simp only [own_f2_100_P] at hP
    simp only [own_f2_100, own_f2_170, own_f2_114_is, own_lt]
    simp only [own_eqi c, Int32.reduceToInt]
    generalize c.toInt = z at *
    by_cases hn : own_f2_114_P z
    · simp only [if_pos hn]
      try simp only [hn, or_true, true_or, and_true, true_and, or_false, false_or, and_false, false_and, not_true_eq_false, not_false_eq_true] at hP
      all_goals (repeat' split)
      all_goals first | rfl | (exfalso; omega)
    · simp only [if_neg hn]
      try simp only [hn, or_true, true_or, and_true, true_and, or_false, false_or, and_false, false_and, not_true_eq_false, not_false_eq_true] at hP
      all_goals (repeat' split)
      all_goals first | rfl | (exfalso; omega)
def own_f2_86_P (z : Int) : Prop := (8206 ≤ z ∧ z ≤ 8303) ∨ own_f2_100_P z
instance (z : Int) : Decidable (own_f2_86_P z) := by unfold own_f2_86_P; infer_instance
theorem own_f2_86_is (c : Int32) : own_f2_86 c = if own_f2_86_P c.toInt then 1 else 0 := by
  by_cases hP : own_f2_86_P c.toInt
  · rw [if_pos hP]
    simp only [own_f2_86_P] at hP
    simp only [own_f2_86, own_f2_170, own_f2_100_is, own_lt]
    simp only [own_eqi c, Int32.reduceToInt]
    generalize c.toInt = z at *
    by_cases hn : own_f2_100_P z
    · simp only [if_pos hn]
      try simp only [hn, or_true, true_or, and_true, true_and, or_false, false_or, and_false, false_and, not_true_eq_false, not_false_eq_true] at hP
      all_goals (repeat' split)
      all_goals first | rfl | (exfalso; omega)
    · simp only [if_neg hn]
      try simp only [hn, or_true, true_or, and_true, true_and, or_false, false_or, and_false, false_and, not_true_eq_false, not_false_eq_true] at hP
      all_goals (repeat' split)
      all_goals first | rfl | (exfalso; omega)
  · rw [if_neg hP]
    simp only [own_f2_86_P] at hP
    simp only [own_f2_86, own_f2_170, own_f2_100_is, own_lt]
    simp only [own_eqi c, Int32.reduceToInt]
    generalize c.toInt = z at *
    by_cases hn : own_f2_100_P z
    · simp only [if_pos hn]
      try simp only [hn, or_true, true_or, and_true, true_and, or_false, false_or, and_false, false_and, not_true_eq_false, not_false_eq_true] at hP
      all_goals (repeat' split)
      all_goals first | rfl | (exfalso; omega)
    · simp only [if_neg hn]
      try simp only [hn, or_true, true_or, and_true, true_and, or_false, false_or, and_false, false_and, not_true_eq_false, not_false_eq_true] at hP
      all_goals (repeat' split)
      all_goals first | rfl | (exfalso; omega)
def own_f2_65_P (z : Int) : Prop := z = 894 ∨ (8192 ≤ z ∧ z ≤ 8203) ∨ own_f2_86_P z
instance (z : Int) : Decidable (own_f2_65_P z) := by unfold own_f2_65_P; infer_instance
theorem own_f2_65_is (c : Int32) : own_f2_65 c = if own_f2_65_P c.toInt then 1 else 0 := by
  by_cases hP : own_f2_65_P c.toInt
  · rw [if_pos hP]
    simp only [own_f2_65_P] at hP
    simp only [own_f2_65, own_f2_170, own_f2_86_is, own_lt]
    simp only [own_eqi c, Int32.reduceToInt]
    generalize c.toInt = z at *
    by_cases hn : own_f2_86_P z
    · simp only [if_pos hn]
      try simp only [hn, or_true, true_or, and_true, true_and, or_false, false_or, and_false, false_and, not_true_eq_false, not_false_eq_true] at hP
      all_goals (repeat' split)
      all_goals first | rfl | (exfalso; omega)
    · simp only [if_neg hn]
      try simp only [hn, or_true, true_or, and_true, true_and, or_false, false_or, and_false, false_and, not_true_eq_false, not_false_eq_true] at hP
      all_goals (repeat' split)
      all_goals first | rfl | (exfalso; omega)
  · rw [if_neg hP]
    simp only [own_f2_65_P] at hP
    simp only [own_f2_65, own_f2_170, own_f2_86_is, own_lt]
    simp only [own_eqi c, Int32.reduceToInt]
    generalize c.toInt = z at *
    by_cases hn : own_f2_86_P z
    · simp only [if_pos hn]
      try simp only [hn, or_true, true_or, and_true, true_and, or_false, false_or, and_false, false_and, not_true_eq_false, not_false_eq_true] at hP
      all_goals (repeat' split)
      all_goals first | rfl | (exfalso; omega)
    · simp only [if_neg hn]
      try simp only [hn, or_true, true_or, and_true, true_and, or_false, false_or, and_false, false_and, not_true_eq_false, not_false_eq_true] at hP
      all_goals (repeat' split)
      all_goals first | rfl | (exfalso; omega)
def own_f2_37_P (z : Int) : Prop := z = 215 ∨ z = 247 ∨ (768 ≤ z ∧ z ≤ 879) ∨ own_f2_65_P z
instance (z : Int) : Decidable (own_f2_37_P z) := by unfold own_f2_37_P; infer_instance
theorem own_f2_37_is (c : Int32) : own_f2_37 c = if own_f2_37_P c.toInt then 1 else 0 := by
  by_cases hP : own_f2_37_P c.toInt
  · rw [if_pos hP]
    simp only [own_f2_37_P] at hP
    simp only [own_f2_37, own_f2_170, own_f2_65_is, own_lt]
    simp only [own_eqi c, Int32.reduceToInt]
    generalize c.toInt = z at *
    by_cases hn : own_f2_65_P z
    · simp only [if_pos hn]
      try simp only [hn, or_true, true_or, and_true, true_and, or_false, false_or, and_false, false_and, not_true_eq_false, not_false_eq_true] at hP
      all_goals (repeat' split)
      all_goals first | rfl | (exfalso; omega)
    · simp only [if_neg hn]
      try simp only [hn, or_true, true_or, and_true, true_and, or_false, false_or, and_false, false_and, not_true_eq_false, not_false_eq_true] at hP
      all_goals (repeat' split)
      all_goals first | rfl | (exfalso; omega)
  · rw [if_neg hP]
    simp only [own_f2_37_P] at hP
    simp only [own_f2_37, own_f2_170, own_f2_65_is, own_lt]
    simp only [own_eqi c, Int32.reduceToInt]
    generalize c.toInt = z at *
    by_cases hn : own_f2_65_P z
    · simp only [if_pos hn]
      try simp only [hn, or_true, true_or, and_true, true_and, or_false, false_or, and_false, false_and, not_true_eq_false, not_false_eq_true] at hP
      all_goals (repeat' split)
      all_goals first | rfl | (exfalso; omega)
    · simp only [if_neg hn]
      try simp only [hn, or_true, true_or, and_true, true_and, or_false, false_or, and_false, false_and, not_true_eq_false, not_false_eq_true] at hP
      all_goals (repeat' split)
      all_goals first | rfl | (exfalso; omega)
def own_f2_24_P (z : Int) : Prop := (122 < z ∧ z < 192) ∨ own_f2_37_P z
instance (z : Int) : Decidable (own_f2_24_P z) := by unfold own_f2_24_P; infer_instance
theorem own_f2_24_is (c : Int32) : own_f2_24 c = if own_f2_24_P c.toInt then 1 else 0 := by
  by_cases hP : own_f2_24_P c.toInt
  · rw [if_pos hP]
    simp only [own_f2_24_P] at hP
    simp only [own_f2_24, own_f2_170, own_f2_37_is, own_lt]
    simp only [own_eqi c, Int32.reduceToInt]
    generalize c.toInt = z at *
    by_cases hn : own_f2_37_P z
    · simp only [if_pos hn]
      try simp only [hn, or_true, true_or, and_true, true_and, or_false, false_or, and_false, false_and, not_true_eq_false, not_false_eq_true] at hP
      all_goals (repeat' split)
      all_goals first | rfl | (exfalso; omega)
    · simp only [if_neg hn]
      try simp only [hn, or_true, true_or, and_true, true_and, or_false, false_or, and_false, false_and, not_true_eq_false, not_false_eq_true] at hP
      all_goals (repeat' split)
      all_goals first | rfl | (exfalso; omega)
  · rw [if_neg hP]
    simp only [own_f2_24_P] at hP
    simp only [own_f2_24, own_f2_170, own_f2_37_is, own_lt]
    simp only [own_eqi c, Int32.reduceToInt]
    generalize c.toInt = z at *
    by_cases hn : own_f2_37_P z
    · simp only [if_pos hn]
      try simp only [hn, or_true, true_or, and_true, true_and, or_false, false_or, and_false, false_and, not_true_eq_false, not_false_eq_true] at hP
      all_goals (repeat' split)
      all_goals first | rfl | (exfalso; omega)
    · simp only [if_neg hn]
      try simp only [hn, or_true, true_or, and_true, true_and, or_false, false_or, and_false, false_and, not_true_eq_false, not_false_eq_true] at hP
      all_goals (repeat' split)
      all_goals first | rfl | (exfalso; omega)
def own_f2_P (z : Int) : Prop := z < 65 ∨ (90 < z ∧ z < 97 ∧ ¬ z = 95) ∨ own_f2_24_P z
instance (z : Int) : Decidable (own_f2_P z) := by unfold own_f2_P; infer_instance
theorem own_f2_is (c : Int32) : own_f2 c = if own_f2_P c.toInt then 1 else 0 := by
  by_cases hP : own_f2_P c.toInt
  · rw [if_pos hP]
    simp only [own_f2_P] at hP
    simp only [own_f2, own_f2_170, own_f2_24_is, own_lt]
    simp only [own_eqi c, Int32.reduceToInt]
    generalize c.toInt = z at *
    by_cases hn : own_f2_24_P z
    · simp only [if_pos hn]
      try simp only [hn, or_true, true_or, and_true, true_and, or_false, false_or, and_false, false_and, not_true_eq_false, not_false_eq_true] at hP
      all_goals (repeat' split)
      all_goals first | rfl | (exfalso; omega)
    · simp only [if_neg hn]
      try simp only [hn, or_true, true_or, and_true, true_and, or_false, false_or, and_false, false_and, not_true_eq_false, not_false_eq_true] at hP
      all_goals (repeat' split)
      all_goals first | rfl | (exfalso; omega)
  · rw [if_neg hP]
    simp only [own_f2_P] at hP
    simp only [own_f2, own_f2_170, own_f2_24_is, own_lt]
    simp only [own_eqi c, Int32.reduceToInt]
    generalize c.toInt = z at *
    by_cases hn : own_f2_24_P z
    · simp only [if_pos hn]
      try simp only [hn, or_true, true_or, and_true, true_and, or_false, false_or, and_false, false_and, not_true_eq_false, not_false_eq_true] at hP
      all_goals (repeat' split)
      all_goals first | rfl | (exfalso; omega)
    · simp only [if_neg hn]
      try simp only [hn, or_true, true_or, and_true, true_and, or_false, false_or, and_false, false_and, not_true_eq_false, not_false_eq_true] at hP
      all_goals (repeat' split)
      all_goals first | rfl | (exfalso; omega)
theorem own_not (z : Int) : own_f1_P z ↔ ¬ own_f2_P z := by
  simp only [own_f1_P, own_f1_12_P, own_f1_24_P, own_f1_44_P, own_f1_58_P, own_f1_72_P, own_f1_86_P, own_f1_100_P, own_f1_114_P, own_f1_128_P, own_f1_142_P, own_f1_155_P, own_f1_167_P, own_f1_179_P, own_f2_P, own_f2_24_P, own_f2_37_P, own_f2_65_P, own_f2_86_P, own_f2_100_P, own_f2_114_P, own_f2_128_P, own_f2_140_P, own_f2_152_P, own_f2_164_P]
  omega
theorem own_one {c : Int32} (h : own_f2 c = 0) : own_f1 c = 1 := by
  rw [own_f2_is] at h
  rw [own_f1_is]
  by_cases q : own_f2_P c.toInt
  · rw [if_pos q] at h; exact absurd h (by decide)
  · rw [if_pos ((own_not _).mpr q)]
theorem own_zero {c : Int32} (h : ¬ own_f2 c = 0) : own_f1 c = 0 := by
  rw [own_f2_is] at h
  rw [own_f1_is]
  by_cases q : own_f2_P c.toInt
  · rw [if_neg fun u => (own_not _).mp u q]
  · rw [if_neg q] at h; exact absurd rfl h
theorem own_idx (k : Int32) : ¬ ((k &&& (2147483647 : Int32)) % (31 : Int32)) < 0 ∧ ((k &&& (2147483647 : Int32)) % (31 : Int32)) < (31 : Int32) := by
  have h1 := c_and k (2147483647 : Int32) (by decide)
  have h2 := (c_irem (k &&& (2147483647 : Int32)) (31 : Int32) 31 (by decide)).1 h1.1
  constructor
  · rw [Int32.lt_iff_toInt_lt]; simp only [Int32.reduceToInt]; omega
  · rw [Int32.lt_iff_toInt_lt]; simp only [Int32.reduceToInt]; omega

theorem pd__28I_29Z : parseMethodDescriptor "(I)Z" = some ⟨[.int], some .boolean⟩ := by decide +kernel
/-! body 0: RdfIsNameStartPinLaw.law -/
theorem ef_0 (m : MethodId) (x0 : Int32) (x1 : Int32) (x2 : Int32) : entryFrame m #[(.int x0), (.int x1), (.int x2)] maxLocals = mkF m 0 #[.val (.int x0), .val (.int x1), .val (.int x2), .unset, .unset, .unset, .unset] [] := by first | (simp [entryFrame, mkF, argsToLocals, Value.category, maxLocals]; done) | rfl
def Q0 (Z : State) (p0 : Int32) (p1 : Int32) (p2 : Int32) (h0 : Heap) (n0 : Nat) (v : Option Value) (h : Heap) (L : List Loc) : Prop := v = some (.int (1 : Int32)) ∧ Fr n0 L
set_option maxRecDepth 65536 in
set_option maxHeartbeats 40000000 in
theorem rm0 (l : Launch) (Z : State) (a0 : Array Value) (hw : ∀ d ∈ tables_1, d.before a0 Z = true) (ws : List Jvm.Cond) (p0 : Int32) (p1 : Int32) (p2 : Int32) (h0 : Heap) (n0 : Nat) (Z0 : n0 ≤ h0.size) :
    MetFree l x (head1 (Jvm.Cond.code x code maxLocals ret :: ws) room_1) (fun a U => a = #[(.int p0), (.int p1), (.int p2)] ∧ Z.Warmed39 U.vm ∧ U.heap = h0) (fun _ _ _ _ _ => True) (fun _ U o U' => ∃ v L, o = .returned v ∧ Q0 Z p0 p1 p2 h0 n0 v U'.heap L ∧ FrameEnd U o U' L 1 31) := by
  refine MetFree.of_bodySF (plainFor_of_name pn_shelfmark_RdfIsNameStartPinLaw) hisR ?_
  intro p e s m args below meth c s₁ Bd hml0 hP hK
  obtain ⟨rfl, hZ, hh⟩ := hP
  have hx := Bd.exec
  have hby := Bd.bytes
  have hlk := Bd.notSynchronized
  have hrt := Bd.returns
  have hml : c.maxLocals = 7 := hml0
  have hown : s.vm.findClass "shelfmark/RdfIsNameStartPinLaw" = some m.cls := findClass_of_methodNamed Bd.named
  have hnm := (name_of_methodNamed Bd.named Bd.method).1
  have X0 : Stand p l e room_1 s m #[(.int p0), (.int p1), (.int p2)] below meth c s₁ [] 0 0 := Stand.of_body Bd
  have e0 : s₁.heap = h0 := by rw [← hh, Bd.state]; rfl
  have N0 := Fr.nil n0
  have K0 := Keep.refl h0 []
  refine own_out (Q := Q0 Z p0 p1 p2 h0 n0) ?_
  refine own_in (ef_0 m p0 p1 p2) ?_
  show own_Go _ _ _ _ s₁ (mkF m 0 #[.val (.int p0), .val (.int p1), .val (.int p2), .unset, .unset, .unset, .unset] [])
  refine own_st (fun t k => XS.bipush X0.here hx rfl (hb hby at_0) k) ?_
  show own_Go _ _ _ _ s₁ (mkF m 2 #[.val (.int p0), .val (.int p1), .val (.int p2), .unset, .unset, .unset, .unset] [(.int (31 : Int32))])
  obtain ⟨T1, h1, k1, X1, e1, E1, A1, st1⟩ := newP X0 hx hZ (hw _ (List.mem_of_getElem? (i := 0) rfl)) e0 (g := (mkF m 2 #[.val (.int p0), .val (.int p1), .val (.int p2), .unset, .unset, .unset, .unset] [(.int (31 : Int32))])) rfl (hb hby at_2) rfl (by decide) (cap := 31) (by decide) (by decide) (by decide) (by decide)
  obtain ⟨b1, g1⟩ : ∃ z, z = h0.size := ⟨_, rfl⟩
  rw [← g1] at A1 st1
  have sz_b1 : h0.size ≤ b1 := Nat.le_trans K0.1 (Nat.le_of_eq g1.symm)
  have g_b1 : n0 ≤ b1 := Nat.le_trans Z0 sz_b1
  have V1 : Arv Z h1 b1 k1 .int (31 : Int32) [(.int (0 : Int32)), (.int (0 : Int32)), (.int (0 : Int32)), (.int (0 : Int32)), (.int (0 : Int32)), (.int (0 : Int32)), (.int (0 : Int32)), (.int (0 : Int32)), (.int (0 : Int32)), (.int (0 : Int32)), (.int (0 : Int32)), (.int (0 : Int32)), (.int (0 : Int32)), (.int (0 : Int32)), (.int (0 : Int32)), (.int (0 : Int32)), (.int (0 : Int32)), (.int (0 : Int32)), (.int (0 : Int32)), (.int (0 : Int32)), (.int (0 : Int32)), (.int (0 : Int32)), (.int (0 : Int32)), (.int (0 : Int32)), (.int (0 : Int32)), (.int (0 : Int32)), (.int (0 : Int32)), (.int (0 : Int32)), (.int (0 : Int32)), (.int (0 : Int32)), (.int (0 : Int32))] (.int (0 : Int32)) := (Arv.new A1 (by decide)).pad (pad_rep [] (.int (0 : Int32)) 31)
  refine own_st st1 ?_
  show own_Go _ _ _ _ T1 (mkF m 4 #[.val (.int p0), .val (.int p1), .val (.int p2), .unset, .unset, .unset, .unset] [(.ref b1)])
  refine own_st (fun t k => XS.dup X1.here hx rfl (hb hby at_4) rfl rfl k) ?_
  show own_Go _ _ _ _ T1 (mkF m 5 #[.val (.int p0), .val (.int p1), .val (.int p2), .unset, .unset, .unset, .unset] [(.ref b1), (.ref b1)])
  refine own_st (fun t k => XS.iconst X1.here hx rfl (hb hby at_5) k) ?_
  show own_Go _ _ _ _ T1 (mkF m 6 #[.val (.int p0), .val (.int p1), .val (.int p2), .unset, .unset, .unset, .unset] [(.int (0 : Int32)), (.ref b1), (.ref b1)])
  refine own_st (fun t k => XS.bipush X1.here hx rfl (hb hby at_6) k) ?_
  show own_Go _ _ _ _ T1 (mkF m 8 #[.val (.int p0), .val (.int p1), .val (.int p2), .unset, .unset, .unset, .unset] [(.int (65 : Int32)), (.int (0 : Int32)), (.ref b1), (.ref b1)])
  have K0_2 := (K0.ext E1)
  obtain ⟨cl3, Ar3, qk3, Sz3, Nn3, Hs3, Gf3⟩ := id V1
  have hin3 : ¬ ((0 : Int32) < 0 ∨ cl3.slots.size ≤ ((0 : Int32)).toNatClampNeg) := inb_of Sz3 ⟨by decide, by decide⟩
  obtain ⟨T4, h4, X4, e4, W4, st4⟩ := stI X1 hx hZ e1 Ar3 (j := (0 : Int32)) hin3 (g := (mkF m 8 #[.val (.int p0), .val (.int p1), .val (.int p2), .unset, .unset, .unset, .unset] [(.int (65 : Int32)), (.int (0 : Int32)), (.ref b1), (.ref b1)])) rfl rfl (hb hby at_8)
  have V4 : Arv Z h4 b1 k1 .int (31 : Int32) [(.int (65 : Int32)), (.int (0 : Int32)), (.int (0 : Int32)), (.int (0 : Int32)), (.int (0 : Int32)), (.int (0 : Int32)), (.int (0 : Int32)), (.int (0 : Int32)), (.int (0 : Int32)), (.int (0 : Int32)), (.int (0 : Int32)), (.int (0 : Int32)), (.int (0 : Int32)), (.int (0 : Int32)), (.int (0 : Int32)), (.int (0 : Int32)), (.int (0 : Int32)), (.int (0 : Int32)), (.int (0 : Int32)), (.int (0 : Int32)), (.int (0 : Int32)), (.int (0 : Int32)), (.int (0 : Int32)), (.int (0 : Int32)), (.int (0 : Int32)), (.int (0 : Int32)), (.int (0 : Int32)), (.int (0 : Int32)), (.int (0 : Int32)), (.int (0 : Int32)), (.int (0 : Int32))] (.int (0 : Int32)) := Arv.set Ar3 qk3 Sz3 Nn3 Hs3 Gf3 rfl W4 0 rfl (Nat.le_of_ble_eq_true rfl)
  obtain ⟨_, X4, N4⟩ := own_hide X4 (Fr.snoc X4 N0 g_b1)
  refine own_st st4 ?_
  show own_Go _ _ _ _ T4 (mkF m 9 #[.val (.int p0), .val (.int p1), .val (.int p2), .unset, .unset, .unset, .unset] [(.ref b1)])
  refine own_st (fun t k => XS.dup X4.here hx rfl (hb hby at_9) rfl rfl k) ?_
  show own_Go _ _ _ _ T4 (mkF m 10 #[.val (.int p0), .val (.int p1), .val (.int p2), .unset, .unset, .unset, .unset] [(.ref b1), (.ref b1)])
  refine own_st (fun t k => XS.iconst X4.here hx rfl (hb hby at_10) k) ?_
  show own_Go _ _ _ _ T4 (mkF m 11 #[.val (.int p0), .val (.int p1), .val (.int p2), .unset, .unset, .unset, .unset] [(.int (1 : Int32)), (.ref b1), (.ref b1)])
  refine own_st (fun t k => XS.bipush X4.here hx rfl (hb hby at_11) k) ?_
  show own_Go _ _ _ _ T4 (mkF m 13 #[.val (.int p0), .val (.int p1), .val (.int p2), .unset, .unset, .unset, .unset] [(.int (90 : Int32)), (.int (1 : Int32)), (.ref b1), (.ref b1)])
  have K0_5 := (K0_2.wr W4 (Or.inr sz_b1))
  obtain ⟨cl6, Ar6, qk6, Sz6, Nn6, Hs6, Gf6⟩ := id V4
  have hin6 : ¬ ((1 : Int32) < 0 ∨ cl6.slots.size ≤ ((1 : Int32)).toNatClampNeg) := inb_of Sz6 ⟨by decide, by decide⟩
  obtain ⟨T7, h7, X7, e7, W7, st7⟩ := stI X4 hx hZ e4 Ar6 (j := (1 : Int32)) hin6 (g := (mkF m 13 #[.val (.int p0), .val (.int p1), .val (.int p2), .unset, .unset, .unset, .unset] [(.int (90 : Int32)), (.int (1 : Int32)), (.ref b1), (.ref b1)])) rfl rfl (hb hby at_13)
  have V7 : Arv Z h7 b1 k1 .int (31 : Int32) [(.int (65 : Int32)), (.int (90 : Int32)), (.int (0 : Int32)), (.int (0 : Int32)), (.int (0 : Int32)), (.int (0 : Int32)), (.int (0 : Int32)), (.int (0 : Int32)), (.int (0 : Int32)), (.int (0 : Int32)), (.int (0 : Int32)), (.int (0 : Int32)), (.int (0 : Int32)), (.int (0 : Int32)), (.int (0 : Int32)), (.int (0 : Int32)), (.int (0 : Int32)), (.int (0 : Int32)), (.int (0 : Int32)), (.int (0 : Int32)), (.int (0 : Int32)), (.int (0 : Int32)), (.int (0 : Int32)), (.int (0 : Int32)), (.int (0 : Int32)), (.int (0 : Int32)), (.int (0 : Int32)), (.int (0 : Int32)), (.int (0 : Int32)), (.int (0 : Int32)), (.int (0 : Int32))] (.int (0 : Int32)) := Arv.set Ar6 qk6 Sz6 Nn6 Hs6 Gf6 rfl W7 1 rfl (Nat.le_of_ble_eq_true rfl)
  obtain ⟨_, X7, N7⟩ := own_hide X7 (Fr.snoc X7 N4 g_b1)
  refine own_st st7 ?_
  show own_Go _ _ _ _ T7 (mkF m 14 #[.val (.int p0), .val (.int p1), .val (.int p2), .unset, .unset, .unset, .unset] [(.ref b1)])
  refine own_st (fun t k => XS.dup X7.here hx rfl (hb hby at_14) rfl rfl k) ?_
  show own_Go _ _ _ _ T7 (mkF m 15 #[.val (.int p0), .val (.int p1), .val (.int p2), .unset, .unset, .unset, .unset] [(.ref b1), (.ref b1)])
  refine own_st (fun t k => XS.iconst X7.here hx rfl (hb hby at_15) k) ?_
  show own_Go _ _ _ _ T7 (mkF m 16 #[.val (.int p0), .val (.int p1), .val (.int p2), .unset, .unset, .unset, .unset] [(.int (2 : Int32)), (.ref b1), (.ref b1)])
  refine own_st (fun t k => XS.bipush X7.here hx rfl (hb hby at_16) k) ?_
  show own_Go _ _ _ _ T7 (mkF m 18 #[.val (.int p0), .val (.int p1), .val (.int p2), .unset, .unset, .unset, .unset] [(.int (95 : Int32)), (.int (2 : Int32)), (.ref b1), (.ref b1)])
  have K0_8 := (K0_5.wr W7 (Or.inr sz_b1))
  obtain ⟨cl9, Ar9, qk9, Sz9, Nn9, Hs9, Gf9⟩ := id V7
  have hin9 : ¬ ((2 : Int32) < 0 ∨ cl9.slots.size ≤ ((2 : Int32)).toNatClampNeg) := inb_of Sz9 ⟨by decide, by decide⟩
  obtain ⟨T10, h10, X10, e10, W10, st10⟩ := stI X7 hx hZ e7 Ar9 (j := (2 : Int32)) hin9 (g := (mkF m 18 #[.val (.int p0), .val (.int p1), .val (.int p2), .unset, .unset, .unset, .unset] [(.int (95 : Int32)), (.int (2 : Int32)), (.ref b1), (.ref b1)])) rfl rfl (hb hby at_18)
  have V10 : Arv Z h10 b1 k1 .int (31 : Int32) [(.int (65 : Int32)), (.int (90 : Int32)), (.int (95 : Int32)), (.int (0 : Int32)), (.int (0 : Int32)), (.int (0 : Int32)), (.int (0 : Int32)), (.int (0 : Int32)), (.int (0 : Int32)), (.int (0 : Int32)), (.int (0 : Int32)), (.int (0 : Int32)), (.int (0 : Int32)), (.int (0 : Int32)), (.int (0 : Int32)), (.int (0 : Int32)), (.int (0 : Int32)), (.int (0 : Int32)), (.int (0 : Int32)), (.int (0 : Int32)), (.int (0 : Int32)), (.int (0 : Int32)), (.int (0 : Int32)), (.int (0 : Int32)), (.int (0 : Int32)), (.int (0 : Int32)), (.int (0 : Int32)), (.int (0 : Int32)), (.int (0 : Int32)), (.int (0 : Int32)), (.int (0 : Int32))] (.int (0 : Int32)) := Arv.set Ar9 qk9 Sz9 Nn9 Hs9 Gf9 rfl W10 2 rfl (Nat.le_of_ble_eq_true rfl)
  obtain ⟨_, X10, N10⟩ := own_hide X10 (Fr.snoc X10 N7 g_b1)
  refine own_st st10 ?_
  show own_Go _ _ _ _ T10 (mkF m 19 #[.val (.int p0), .val (.int p1), .val (.int p2), .unset, .unset, .unset, .unset] [(.ref b1)])
  refine own_st (fun t k => XS.dup X10.here hx rfl (hb hby at_19) rfl rfl k) ?_
  show own_Go _ _ _ _ T10 (mkF m 20 #[.val (.int p0), .val (.int p1), .val (.int p2), .unset, .unset, .unset, .unset] [(.ref b1), (.ref b1)])
  refine own_st (fun t k => XS.iconst X10.here hx rfl (hb hby at_20) k) ?_
  show own_Go _ _ _ _ T10 (mkF m 21 #[.val (.int p0), .val (.int p1), .val (.int p2), .unset, .unset, .unset, .unset] [(.int (3 : Int32)), (.ref b1), (.ref b1)])
  refine own_st (fun t k => XS.bipush X10.here hx rfl (hb hby at_21) k) ?_
  show own_Go _ _ _ _ T10 (mkF m 23 #[.val (.int p0), .val (.int p1), .val (.int p2), .unset, .unset, .unset, .unset] [(.int (97 : Int32)), (.int (3 : Int32)), (.ref b1), (.ref b1)])
  have K0_11 := (K0_8.wr W10 (Or.inr sz_b1))
  obtain ⟨cl12, Ar12, qk12, Sz12, Nn12, Hs12, Gf12⟩ := id V10
  have hin12 : ¬ ((3 : Int32) < 0 ∨ cl12.slots.size ≤ ((3 : Int32)).toNatClampNeg) := inb_of Sz12 ⟨by decide, by decide⟩
  obtain ⟨T13, h13, X13, e13, W13, st13⟩ := stI X10 hx hZ e10 Ar12 (j := (3 : Int32)) hin12 (g := (mkF m 23 #[.val (.int p0), .val (.int p1), .val (.int p2), .unset, .unset, .unset, .unset] [(.int (97 : Int32)), (.int (3 : Int32)), (.ref b1), (.ref b1)])) rfl rfl (hb hby at_23)
  have V13 : Arv Z h13 b1 k1 .int (31 : Int32) [(.int (65 : Int32)), (.int (90 : Int32)), (.int (95 : Int32)), (.int (97 : Int32)), (.int (0 : Int32)), (.int (0 : Int32)), (.int (0 : Int32)), (.int (0 : Int32)), (.int (0 : Int32)), (.int (0 : Int32)), (.int (0 : Int32)), (.int (0 : Int32)), (.int (0 : Int32)), (.int (0 : Int32)), (.int (0 : Int32)), (.int (0 : Int32)), (.int (0 : Int32)), (.int (0 : Int32)), (.int (0 : Int32)), (.int (0 : Int32)), (.int (0 : Int32)), (.int (0 : Int32)), (.int (0 : Int32)), (.int (0 : Int32)), (.int (0 : Int32)), (.int (0 : Int32)), (.int (0 : Int32)), (.int (0 : Int32)), (.int (0 : Int32)), (.int (0 : Int32)), (.int (0 : Int32))] (.int (0 : Int32)) := Arv.set Ar12 qk12 Sz12 Nn12 Hs12 Gf12 rfl W13 3 rfl (Nat.le_of_ble_eq_true rfl)
  obtain ⟨_, X13, N13⟩ := own_hide X13 (Fr.snoc X13 N10 g_b1)
  refine own_st st13 ?_
  show own_Go _ _ _ _ T13 (mkF m 24 #[.val (.int p0), .val (.int p1), .val (.int p2), .unset, .unset, .unset, .unset] [(.ref b1)])
  refine own_st (fun t k => XS.dup X13.here hx rfl (hb hby at_24) rfl rfl k) ?_
  show own_Go _ _ _ _ T13 (mkF m 25 #[.val (.int p0), .val (.int p1), .val (.int p2), .unset, .unset, .unset, .unset] [(.ref b1), (.ref b1)])
  refine own_st (fun t k => XS.iconst X13.here hx rfl (hb hby at_25) k) ?_
  show own_Go _ _ _ _ T13 (mkF m 26 #[.val (.int p0), .val (.int p1), .val (.int p2), .unset, .unset, .unset, .unset] [(.int (4 : Int32)), (.ref b1), (.ref b1)])
  refine own_st (fun t k => XS.bipush X13.here hx rfl (hb hby at_26) k) ?_
  show own_Go _ _ _ _ T13 (mkF m 28 #[.val (.int p0), .val (.int p1), .val (.int p2), .unset, .unset, .unset, .unset] [(.int (122 : Int32)), (.int (4 : Int32)), (.ref b1), (.ref b1)])
  have K0_14 := (K0_11.wr W13 (Or.inr sz_b1))
  obtain ⟨cl15, Ar15, qk15, Sz15, Nn15, Hs15, Gf15⟩ := id V13
  have hin15 : ¬ ((4 : Int32) < 0 ∨ cl15.slots.size ≤ ((4 : Int32)).toNatClampNeg) := inb_of Sz15 ⟨by decide, by decide⟩
  obtain ⟨T16, h16, X16, e16, W16, st16⟩ := stI X13 hx hZ e13 Ar15 (j := (4 : Int32)) hin15 (g := (mkF m 28 #[.val (.int p0), .val (.int p1), .val (.int p2), .unset, .unset, .unset, .unset] [(.int (122 : Int32)), (.int (4 : Int32)), (.ref b1), (.ref b1)])) rfl rfl (hb hby at_28)
  have V16 : Arv Z h16 b1 k1 .int (31 : Int32) [(.int (65 : Int32)), (.int (90 : Int32)), (.int (95 : Int32)), (.int (97 : Int32)), (.int (122 : Int32)), (.int (0 : Int32)), (.int (0 : Int32)), (.int (0 : Int32)), (.int (0 : Int32)), (.int (0 : Int32)), (.int (0 : Int32)), (.int (0 : Int32)), (.int (0 : Int32)), (.int (0 : Int32)), (.int (0 : Int32)), (.int (0 : Int32)), (.int (0 : Int32)), (.int (0 : Int32)), (.int (0 : Int32)), (.int (0 : Int32)), (.int (0 : Int32)), (.int (0 : Int32)), (.int (0 : Int32)), (.int (0 : Int32)), (.int (0 : Int32)), (.int (0 : Int32)), (.int (0 : Int32)), (.int (0 : Int32)), (.int (0 : Int32)), (.int (0 : Int32)), (.int (0 : Int32))] (.int (0 : Int32)) := Arv.set Ar15 qk15 Sz15 Nn15 Hs15 Gf15 rfl W16 4 rfl (Nat.le_of_ble_eq_true rfl)
  obtain ⟨_, X16, N16⟩ := own_hide X16 (Fr.snoc X16 N13 g_b1)
  refine own_st st16 ?_
  show own_Go _ _ _ _ T16 (mkF m 29 #[.val (.int p0), .val (.int p1), .val (.int p2), .unset, .unset, .unset, .unset] [(.ref b1)])
  refine own_st (fun t k => XS.dup X16.here hx rfl (hb hby at_29) rfl rfl k) ?_
  show own_Go _ _ _ _ T16 (mkF m 30 #[.val (.int p0), .val (.int p1), .val (.int p2), .unset, .unset, .unset, .unset] [(.ref b1), (.ref b1)])
  refine own_st (fun t k => XS.iconst X16.here hx rfl (hb hby at_30) k) ?_
  show own_Go _ _ _ _ T16 (mkF m 31 #[.val (.int p0), .val (.int p1), .val (.int p2), .unset, .unset, .unset, .unset] [(.int (5 : Int32)), (.ref b1), (.ref b1)])
  refine own_st (fun t k => XS.sipush X16.here hx rfl (hb hby at_31) k) ?_
  show own_Go _ _ _ _ T16 (mkF m 34 #[.val (.int p0), .val (.int p1), .val (.int p2), .unset, .unset, .unset, .unset] [(.int (192 : Int32)), (.int (5 : Int32)), (.ref b1), (.ref b1)])
  have K0_17 := (K0_14.wr W16 (Or.inr sz_b1))
  obtain ⟨cl18, Ar18, qk18, Sz18, Nn18, Hs18, Gf18⟩ := id V16
  have hin18 : ¬ ((5 : Int32) < 0 ∨ cl18.slots.size ≤ ((5 : Int32)).toNatClampNeg) := inb_of Sz18 ⟨by decide, by decide⟩
  obtain ⟨T19, h19, X19, e19, W19, st19⟩ := stI X16 hx hZ e16 Ar18 (j := (5 : Int32)) hin18 (g := (mkF m 34 #[.val (.int p0), .val (.int p1), .val (.int p2), .unset, .unset, .unset, .unset] [(.int (192 : Int32)), (.int (5 : Int32)), (.ref b1), (.ref b1)])) rfl rfl (hb hby at_34)
  have V19 : Arv Z h19 b1 k1 .int (31 : Int32) [(.int (65 : Int32)), (.int (90 : Int32)), (.int (95 : Int32)), (.int (97 : Int32)), (.int (122 : Int32)), (.int (192 : Int32)), (.int (0 : Int32)), (.int (0 : Int32)), (.int (0 : Int32)), (.int (0 : Int32)), (.int (0 : Int32)), (.int (0 : Int32)), (.int (0 : Int32)), (.int (0 : Int32)), (.int (0 : Int32)), (.int (0 : Int32)), (.int (0 : Int32)), (.int (0 : Int32)), (.int (0 : Int32)), (.int (0 : Int32)), (.int (0 : Int32)), (.int (0 : Int32)), (.int (0 : Int32)), (.int (0 : Int32)), (.int (0 : Int32)), (.int (0 : Int32)), (.int (0 : Int32)), (.int (0 : Int32)), (.int (0 : Int32)), (.int (0 : Int32)), (.int (0 : Int32))] (.int (0 : Int32)) := Arv.set Ar18 qk18 Sz18 Nn18 Hs18 Gf18 rfl W19 5 rfl (Nat.le_of_ble_eq_true rfl)
  obtain ⟨_, X19, N19⟩ := own_hide X19 (Fr.snoc X19 N16 g_b1)
  refine own_st st19 ?_
  show own_Go _ _ _ _ T19 (mkF m 35 #[.val (.int p0), .val (.int p1), .val (.int p2), .unset, .unset, .unset, .unset] [(.ref b1)])
  refine own_st (fun t k => XS.dup X19.here hx rfl (hb hby at_35) rfl rfl k) ?_
  show own_Go _ _ _ _ T19 (mkF m 36 #[.val (.int p0), .val (.int p1), .val (.int p2), .unset, .unset, .unset, .unset] [(.ref b1), (.ref b1)])
  refine own_st (fun t k => XS.bipush X19.here hx rfl (hb hby at_36) k) ?_
  show own_Go _ _ _ _ T19 (mkF m 38 #[.val (.int p0), .val (.int p1), .val (.int p2), .unset, .unset, .unset, .unset] [(.int (6 : Int32)), (.ref b1), (.ref b1)])
  refine own_st (fun t k => XS.sipush X19.here hx rfl (hb hby at_38) k) ?_
  show own_Go _ _ _ _ T19 (mkF m 41 #[.val (.int p0), .val (.int p1), .val (.int p2), .unset, .unset, .unset, .unset] [(.int (214 : Int32)), (.int (6 : Int32)), (.ref b1), (.ref b1)])
  have K0_20 := (K0_17.wr W19 (Or.inr sz_b1))
  obtain ⟨cl21, Ar21, qk21, Sz21, Nn21, Hs21, Gf21⟩ := id V19
  have hin21 : ¬ ((6 : Int32) < 0 ∨ cl21.slots.size ≤ ((6 : Int32)).toNatClampNeg) := inb_of Sz21 ⟨by decide, by decide⟩
  obtain ⟨T22, h22, X22, e22, W22, st22⟩ := stI X19 hx hZ e19 Ar21 (j := (6 : Int32)) hin21 (g := (mkF m 41 #[.val (.int p0), .val (.int p1), .val (.int p2), .unset, .unset, .unset, .unset] [(.int (214 : Int32)), (.int (6 : Int32)), (.ref b1), (.ref b1)])) rfl rfl (hb hby at_41)
  have V22 : Arv Z h22 b1 k1 .int (31 : Int32) [(.int (65 : Int32)), (.int (90 : Int32)), (.int (95 : Int32)), (.int (97 : Int32)), (.int (122 : Int32)), (.int (192 : Int32)), (.int (214 : Int32)), (.int (0 : Int32)), (.int (0 : Int32)), (.int (0 : Int32)), (.int (0 : Int32)), (.int (0 : Int32)), (.int (0 : Int32)), (.int (0 : Int32)), (.int (0 : Int32)), (.int (0 : Int32)), (.int (0 : Int32)), (.int (0 : Int32)), (.int (0 : Int32)), (.int (0 : Int32)), (.int (0 : Int32)), (.int (0 : Int32)), (.int (0 : Int32)), (.int (0 : Int32)), (.int (0 : Int32)), (.int (0 : Int32)), (.int (0 : Int32)), (.int (0 : Int32)), (.int (0 : Int32)), (.int (0 : Int32)), (.int (0 : Int32))] (.int (0 : Int32)) := Arv.set Ar21 qk21 Sz21 Nn21 Hs21 Gf21 rfl W22 6 rfl (Nat.le_of_ble_eq_true rfl)
  obtain ⟨_, X22, N22⟩ := own_hide X22 (Fr.snoc X22 N19 g_b1)
  refine own_st st22 ?_
  show own_Go _ _ _ _ T22 (mkF m 42 #[.val (.int p0), .val (.int p1), .val (.int p2), .unset, .unset, .unset, .unset] [(.ref b1)])
  refine own_st (fun t k => XS.dup X22.here hx rfl (hb hby at_42) rfl rfl k) ?_
  show own_Go _ _ _ _ T22 (mkF m 43 #[.val (.int p0), .val (.int p1), .val (.int p2), .unset, .unset, .unset, .unset] [(.ref b1), (.ref b1)])
  refine own_st (fun t k => XS.bipush X22.here hx rfl (hb hby at_43) k) ?_
  show own_Go _ _ _ _ T22 (mkF m 45 #[.val (.int p0), .val (.int p1), .val (.int p2), .unset, .unset, .unset, .unset] [(.int (7 : Int32)), (.ref b1), (.ref b1)])
  refine own_st (fun t k => XS.sipush X22.here hx rfl (hb hby at_45) k) ?_
  show own_Go _ _ _ _ T22 (mkF m 48 #[.val (.int p0), .val (.int p1), .val (.int p2), .unset, .unset, .unset, .unset] [(.int (216 : Int32)), (.int (7 : Int32)), (.ref b1), (.ref b1)])
  have K0_23 := (K0_20.wr W22 (Or.inr sz_b1))
  obtain ⟨cl24, Ar24, qk24, Sz24, Nn24, Hs24, Gf24⟩ := id V22
  have hin24 : ¬ ((7 : Int32) < 0 ∨ cl24.slots.size ≤ ((7 : Int32)).toNatClampNeg) := inb_of Sz24 ⟨by decide, by decide⟩
  obtain ⟨T25, h25, X25, e25, W25, st25⟩ := stI X22 hx hZ e22 Ar24 (j := (7 : Int32)) hin24 (g := (mkF m 48 #[.val (.int p0), .val (.int p1), .val (.int p2), .unset, .unset, .unset, .unset] [(.int (216 : Int32)), (.int (7 : Int32)), (.ref b1), (.ref b1)])) rfl rfl (hb hby at_48)
  have V25 : Arv Z h25 b1 k1 .int (31 : Int32) [(.int (65 : Int32)), (.int (90 : Int32)), (.int (95 : Int32)), (.int (97 : Int32)), (.int (122 : Int32)), (.int (192 : Int32)), (.int (214 : Int32)), (.int (216 : Int32)), (.int (0 : Int32)), (.int (0 : Int32)), (.int (0 : Int32)), (.int (0 : Int32)), (.int (0 : Int32)), (.int (0 : Int32)), (.int (0 : Int32)), (.int (0 : Int32)), (.int (0 : Int32)), (.int (0 : Int32)), (.int (0 : Int32)), (.int (0 : Int32)), (.int (0 : Int32)), (.int (0 : Int32)), (.int (0 : Int32)), (.int (0 : Int32)), (.int (0 : Int32)), (.int (0 : Int32)), (.int (0 : Int32)), (.int (0 : Int32)), (.int (0 : Int32)), (.int (0 : Int32)), (.int (0 : Int32))] (.int (0 : Int32)) := Arv.set Ar24 qk24 Sz24 Nn24 Hs24 Gf24 rfl W25 7 rfl (Nat.le_of_ble_eq_true rfl)
  obtain ⟨_, X25, N25⟩ := own_hide X25 (Fr.snoc X25 N22 g_b1)
  refine own_st st25 ?_
  show own_Go _ _ _ _ T25 (mkF m 49 #[.val (.int p0), .val (.int p1), .val (.int p2), .unset, .unset, .unset, .unset] [(.ref b1)])
  refine own_st (fun t k => XS.dup X25.here hx rfl (hb hby at_49) rfl rfl k) ?_
  show own_Go _ _ _ _ T25 (mkF m 50 #[.val (.int p0), .val (.int p1), .val (.int p2), .unset, .unset, .unset, .unset] [(.ref b1), (.ref b1)])
  refine own_st (fun t k => XS.bipush X25.here hx rfl (hb hby at_50) k) ?_
  show own_Go _ _ _ _ T25 (mkF m 52 #[.val (.int p0), .val (.int p1), .val (.int p2), .unset, .unset, .unset, .unset] [(.int (8 : Int32)), (.ref b1), (.ref b1)])
  refine own_st (fun t k => XS.sipush X25.here hx rfl (hb hby at_52) k) ?_
  show own_Go _ _ _ _ T25 (mkF m 55 #[.val (.int p0), .val (.int p1), .val (.int p2), .unset, .unset, .unset, .unset] [(.int (246 : Int32)), (.int (8 : Int32)), (.ref b1), (.ref b1)])
  have K0_26 := (K0_23.wr W25 (Or.inr sz_b1))
  obtain ⟨cl27, Ar27, qk27, Sz27, Nn27, Hs27, Gf27⟩ := id V25
  have hin27 : ¬ ((8 : Int32) < 0 ∨ cl27.slots.size ≤ ((8 : Int32)).toNatClampNeg) := inb_of Sz27 ⟨by decide, by decide⟩
  obtain ⟨T28, h28, X28, e28, W28, st28⟩ := stI X25 hx hZ e25 Ar27 (j := (8 : Int32)) hin27 (g := (mkF m 55 #[.val (.int p0), .val (.int p1), .val (.int p2), .unset, .unset, .unset, .unset] [(.int (246 : Int32)), (.int (8 : Int32)), (.ref b1), (.ref b1)])) rfl rfl (hb hby at_55)
  have V28 : Arv Z h28 b1 k1 .int (31 : Int32) [(.int (65 : Int32)), (.int (90 : Int32)), (.int (95 : Int32)), (.int (97 : Int32)), (.int (122 : Int32)), (.int (192 : Int32)), (.int (214 : Int32)), (.int (216 : Int32)), (.int (246 : Int32)), (.int (0 : Int32)), (.int (0 : Int32)), (.int (0 : Int32)), (.int (0 : Int32)), (.int (0 : Int32)), (.int (0 : Int32)), (.int (0 : Int32)), (.int (0 : Int32)), (.int (0 : Int32)), (.int (0 : Int32)), (.int (0 : Int32)), (.int (0 : Int32)), (.int (0 : Int32)), (.int (0 : Int32)), (.int (0 : Int32)), (.int (0 : Int32)), (.int (0 : Int32)), (.int (0 : Int32)), (.int (0 : Int32)), (.int (0 : Int32)), (.int (0 : Int32)), (.int (0 : Int32))] (.int (0 : Int32)) := Arv.set Ar27 qk27 Sz27 Nn27 Hs27 Gf27 rfl W28 8 rfl (Nat.le_of_ble_eq_true rfl)
  obtain ⟨_, X28, N28⟩ := own_hide X28 (Fr.snoc X28 N25 g_b1)
  refine own_st st28 ?_
  show own_Go _ _ _ _ T28 (mkF m 56 #[.val (.int p0), .val (.int p1), .val (.int p2), .unset, .unset, .unset, .unset] [(.ref b1)])
  refine own_st (fun t k => XS.dup X28.here hx rfl (hb hby at_56) rfl rfl k) ?_
  show own_Go _ _ _ _ T28 (mkF m 57 #[.val (.int p0), .val (.int p1), .val (.int p2), .unset, .unset, .unset, .unset] [(.ref b1), (.ref b1)])
  refine own_st (fun t k => XS.bipush X28.here hx rfl (hb hby at_57) k) ?_
  show own_Go _ _ _ _ T28 (mkF m 59 #[.val (.int p0), .val (.int p1), .val (.int p2), .unset, .unset, .unset, .unset] [(.int (9 : Int32)), (.ref b1), (.ref b1)])
  refine own_st (fun t k => XS.sipush X28.here hx rfl (hb hby at_59) k) ?_
  show own_Go _ _ _ _ T28 (mkF m 62 #[.val (.int p0), .val (.int p1), .val (.int p2), .unset, .unset, .unset, .unset] [(.int (248 : Int32)), (.int (9 : Int32)), (.ref b1), (.ref b1)])
  have K0_29 := (K0_26.wr W28 (Or.inr sz_b1))
  obtain ⟨cl30, Ar30, qk30, Sz30, Nn30, Hs30, Gf30⟩ := id V28
  have hin30 : ¬ ((9 : Int32) < 0 ∨ cl30.slots.size ≤ ((9 : Int32)).toNatClampNeg) := inb_of Sz30 ⟨by decide, by decide⟩
  obtain ⟨T31, h31, X31, e31, W31, st31⟩ := stI X28 hx hZ e28 Ar30 (j := (9 : Int32)) hin30 (g := (mkF m 62 #[.val (.int p0), .val (.int p1), .val (.int p2), .unset, .unset, .unset, .unset] [(.int (248 : Int32)), (.int (9 : Int32)), (.ref b1), (.ref b1)])) rfl rfl (hb hby at_62)
  have V31 : Arv Z h31 b1 k1 .int (31 : Int32) [(.int (65 : Int32)), (.int (90 : Int32)), (.int (95 : Int32)), (.int (97 : Int32)), (.int (122 : Int32)), (.int (192 : Int32)), (.int (214 : Int32)), (.int (216 : Int32)), (.int (246 : Int32)), (.int (248 : Int32)), (.int (0 : Int32)), (.int (0 : Int32)), (.int (0 : Int32)), (.int (0 : Int32)), (.int (0 : Int32)), (.int (0 : Int32)), (.int (0 : Int32)), (.int (0 : Int32)), (.int (0 : Int32)), (.int (0 : Int32)), (.int (0 : Int32)), (.int (0 : Int32)), (.int (0 : Int32)), (.int (0 : Int32)), (.int (0 : Int32)), (.int (0 : Int32)), (.int (0 : Int32)), (.int (0 : Int32)), (.int (0 : Int32)), (.int (0 : Int32)), (.int (0 : Int32))] (.int (0 : Int32)) := Arv.set Ar30 qk30 Sz30 Nn30 Hs30 Gf30 rfl W31 9 rfl (Nat.le_of_ble_eq_true rfl)
  obtain ⟨_, X31, N31⟩ := own_hide X31 (Fr.snoc X31 N28 g_b1)
  refine own_st st31 ?_
  show own_Go _ _ _ _ T31 (mkF m 63 #[.val (.int p0), .val (.int p1), .val (.int p2), .unset, .unset, .unset, .unset] [(.ref b1)])
  refine own_st (fun t k => XS.dup X31.here hx rfl (hb hby at_63) rfl rfl k) ?_
  show own_Go _ _ _ _ T31 (mkF m 64 #[.val (.int p0), .val (.int p1), .val (.int p2), .unset, .unset, .unset, .unset] [(.ref b1), (.ref b1)])
  refine own_st (fun t k => XS.bipush X31.here hx rfl (hb hby at_64) k) ?_
  show own_Go _ _ _ _ T31 (mkF m 66 #[.val (.int p0), .val (.int p1), .val (.int p2), .unset, .unset, .unset, .unset] [(.int (10 : Int32)), (.ref b1), (.ref b1)])
  refine own_st (fun t k => XS.sipush X31.here hx rfl (hb hby at_66) k) ?_
  show own_Go _ _ _ _ T31 (mkF m 69 #[.val (.int p0), .val (.int p1), .val (.int p2), .unset, .unset, .unset, .unset] [(.int (767 : Int32)), (.int (10 : Int32)), (.ref b1), (.ref b1)])
  have K0_32 := (K0_29.wr W31 (Or.inr sz_b1))
  obtain ⟨cl33, Ar33, qk33, Sz33, Nn33, Hs33, Gf33⟩ := id V31
  have hin33 : ¬ ((10 : Int32) < 0 ∨ cl33.slots.size ≤ ((10 : Int32)).toNatClampNeg) := inb_of Sz33 ⟨by decide, by decide⟩
  obtain ⟨T34, h34, X34, e34, W34, st34⟩ := stI X31 hx hZ e31 Ar33 (j := (10 : Int32)) hin33 (g := (mkF m 69 #[.val (.int p0), .val (.int p1), .val (.int p2), .unset, .unset, .unset, .unset] [(.int (767 : Int32)), (.int (10 : Int32)), (.ref b1), (.ref b1)])) rfl rfl (hb hby at_69)
  have V34 : Arv Z h34 b1 k1 .int (31 : Int32) [(.int (65 : Int32)), (.int (90 : Int32)), (.int (95 : Int32)), (.int (97 : Int32)), (.int (122 : Int32)), (.int (192 : Int32)), (.int (214 : Int32)), (.int (216 : Int32)), (.int (246 : Int32)), (.int (248 : Int32)), (.int (767 : Int32)), (.int (0 : Int32)), (.int (0 : Int32)), (.int (0 : Int32)), (.int (0 : Int32)), (.int (0 : Int32)), (.int (0 : Int32)), (.int (0 : Int32)), (.int (0 : Int32)), (.int (0 : Int32)), (.int (0 : Int32)), (.int (0 : Int32)), (.int (0 : Int32)), (.int (0 : Int32)), (.int (0 : Int32)), (.int (0 : Int32)), (.int (0 : Int32)), (.int (0 : Int32)), (.int (0 : Int32)), (.int (0 : Int32)), (.int (0 : Int32))] (.int (0 : Int32)) := Arv.set Ar33 qk33 Sz33 Nn33 Hs33 Gf33 rfl W34 10 rfl (Nat.le_of_ble_eq_true rfl)
  obtain ⟨_, X34, N34⟩ := own_hide X34 (Fr.snoc X34 N31 g_b1)
  refine own_st st34 ?_
  show own_Go _ _ _ _ T34 (mkF m 70 #[.val (.int p0), .val (.int p1), .val (.int p2), .unset, .unset, .unset, .unset] [(.ref b1)])
  refine own_st (fun t k => XS.dup X34.here hx rfl (hb hby at_70) rfl rfl k) ?_
  show own_Go _ _ _ _ T34 (mkF m 71 #[.val (.int p0), .val (.int p1), .val (.int p2), .unset, .unset, .unset, .unset] [(.ref b1), (.ref b1)])
  refine own_st (fun t k => XS.bipush X34.here hx rfl (hb hby at_71) k) ?_
  show own_Go _ _ _ _ T34 (mkF m 73 #[.val (.int p0), .val (.int p1), .val (.int p2), .unset, .unset, .unset, .unset] [(.int (11 : Int32)), (.ref b1), (.ref b1)])
  refine own_st (fun t k => XS.sipush X34.here hx rfl (hb hby at_73) k) ?_
  show own_Go _ _ _ _ T34 (mkF m 76 #[.val (.int p0), .val (.int p1), .val (.int p2), .unset, .unset, .unset, .unset] [(.int (880 : Int32)), (.int (11 : Int32)), (.ref b1), (.ref b1)])
  have K0_35 := (K0_32.wr W34 (Or.inr sz_b1))
  obtain ⟨cl36, Ar36, qk36, Sz36, Nn36, Hs36, Gf36⟩ := id V34
  have hin36 : ¬ ((11 : Int32) < 0 ∨ cl36.slots.size ≤ ((11 : Int32)).toNatClampNeg) := inb_of Sz36 ⟨by decide, by decide⟩
  obtain ⟨T37, h37, X37, e37, W37, st37⟩ := stI X34 hx hZ e34 Ar36 (j := (11 : Int32)) hin36 (g := (mkF m 76 #[.val (.int p0), .val (.int p1), .val (.int p2), .unset, .unset, .unset, .unset] [(.int (880 : Int32)), (.int (11 : Int32)), (.ref b1), (.ref b1)])) rfl rfl (hb hby at_76)
  have V37 : Arv Z h37 b1 k1 .int (31 : Int32) [(.int (65 : Int32)), (.int (90 : Int32)), (.int (95 : Int32)), (.int (97 : Int32)), (.int (122 : Int32)), (.int (192 : Int32)), (.int (214 : Int32)), (.int (216 : Int32)), (.int (246 : Int32)), (.int (248 : Int32)), (.int (767 : Int32)), (.int (880 : Int32)), (.int (0 : Int32)), (.int (0 : Int32)), (.int (0 : Int32)), (.int (0 : Int32)), (.int (0 : Int32)), (.int (0 : Int32)), (.int (0 : Int32)), (.int (0 : Int32)), (.int (0 : Int32)), (.int (0 : Int32)), (.int (0 : Int32)), (.int (0 : Int32)), (.int (0 : Int32)), (.int (0 : Int32)), (.int (0 : Int32)), (.int (0 : Int32)), (.int (0 : Int32)), (.int (0 : Int32)), (.int (0 : Int32))] (.int (0 : Int32)) := Arv.set Ar36 qk36 Sz36 Nn36 Hs36 Gf36 rfl W37 11 rfl (Nat.le_of_ble_eq_true rfl)
  obtain ⟨_, X37, N37⟩ := own_hide X37 (Fr.snoc X37 N34 g_b1)
  refine own_st st37 ?_
  show own_Go _ _ _ _ T37 (mkF m 77 #[.val (.int p0), .val (.int p1), .val (.int p2), .unset, .unset, .unset, .unset] [(.ref b1)])
  refine own_st (fun t k => XS.dup X37.here hx rfl (hb hby at_77) rfl rfl k) ?_
  show own_Go _ _ _ _ T37 (mkF m 78 #[.val (.int p0), .val (.int p1), .val (.int p2), .unset, .unset, .unset, .unset] [(.ref b1), (.ref b1)])
  refine own_st (fun t k => XS.bipush X37.here hx rfl (hb hby at_78) k) ?_
  show own_Go _ _ _ _ T37 (mkF m 80 #[.val (.int p0), .val (.int p1), .val (.int p2), .unset, .unset, .unset, .unset] [(.int (12 : Int32)), (.ref b1), (.ref b1)])
  refine own_st (fun t k => XS.sipush X37.here hx rfl (hb hby at_80) k) ?_
  show own_Go _ _ _ _ T37 (mkF m 83 #[.val (.int p0), .val (.int p1), .val (.int p2), .unset, .unset, .unset, .unset] [(.int (893 : Int32)), (.int (12 : Int32)), (.ref b1), (.ref b1)])
  have K0_38 := (K0_35.wr W37 (Or.inr sz_b1))
  obtain ⟨cl39, Ar39, qk39, Sz39, Nn39, Hs39, Gf39⟩ := id V37
  have hin39 : ¬ ((12 : Int32) < 0 ∨ cl39.slots.size ≤ ((12 : Int32)).toNatClampNeg) := inb_of Sz39 ⟨by decide, by decide⟩
  obtain ⟨T40, h40, X40, e40, W40, st40⟩ := stI X37 hx hZ e37 Ar39 (j := (12 : Int32)) hin39 (g := (mkF m 83 #[.val (.int p0), .val (.int p1), .val (.int p2), .unset, .unset, .unset, .unset] [(.int (893 : Int32)), (.int (12 : Int32)), (.ref b1), (.ref b1)])) rfl rfl (hb hby at_83)
  have V40 : Arv Z h40 b1 k1 .int (31 : Int32) [(.int (65 : Int32)), (.int (90 : Int32)), (.int (95 : Int32)), (.int (97 : Int32)), (.int (122 : Int32)), (.int (192 : Int32)), (.int (214 : Int32)), (.int (216 : Int32)), (.int (246 : Int32)), (.int (248 : Int32)), (.int (767 : Int32)), (.int (880 : Int32)), (.int (893 : Int32)), (.int (0 : Int32)), (.int (0 : Int32)), (.int (0 : Int32)), (.int (0 : Int32)), (.int (0 : Int32)), (.int (0 : Int32)), (.int (0 : Int32)), (.int (0 : Int32)), (.int (0 : Int32)), (.int (0 : Int32)), (.int (0 : Int32)), (.int (0 : Int32)), (.int (0 : Int32)), (.int (0 : Int32)), (.int (0 : Int32)), (.int (0 : Int32)), (.int (0 : Int32)), (.int (0 : Int32))] (.int (0 : Int32)) := Arv.set Ar39 qk39 Sz39 Nn39 Hs39 Gf39 rfl W40 12 rfl (Nat.le_of_ble_eq_true rfl)
  obtain ⟨_, X40, N40⟩ := own_hide X40 (Fr.snoc X40 N37 g_b1)
  refine own_st st40 ?_
  show own_Go _ _ _ _ T40 (mkF m 84 #[.val (.int p0), .val (.int p1), .val (.int p2), .unset, .unset, .unset, .unset] [(.ref b1)])
  refine own_st (fun t k => XS.dup X40.here hx rfl (hb hby at_84) rfl rfl k) ?_
  show own_Go _ _ _ _ T40 (mkF m 85 #[.val (.int p0), .val (.int p1), .val (.int p2), .unset, .unset, .unset, .unset] [(.ref b1), (.ref b1)])
  refine own_st (fun t k => XS.bipush X40.here hx rfl (hb hby at_85) k) ?_
  show own_Go _ _ _ _ T40 (mkF m 87 #[.val (.int p0), .val (.int p1), .val (.int p2), .unset, .unset, .unset, .unset] [(.int (13 : Int32)), (.ref b1), (.ref b1)])
  refine own_st (fun t k => XS.sipush X40.here hx rfl (hb hby at_87) k) ?_
  show own_Go _ _ _ _ T40 (mkF m 90 #[.val (.int p0), .val (.int p1), .val (.int p2), .unset, .unset, .unset, .unset] [(.int (895 : Int32)), (.int (13 : Int32)), (.ref b1), (.ref b1)])
  have K0_41 := (K0_38.wr W40 (Or.inr sz_b1))
  obtain ⟨cl42, Ar42, qk42, Sz42, Nn42, Hs42, Gf42⟩ := id V40
  have hin42 : ¬ ((13 : Int32) < 0 ∨ cl42.slots.size ≤ ((13 : Int32)).toNatClampNeg) := inb_of Sz42 ⟨by decide, by decide⟩
  obtain ⟨T43, h43, X43, e43, W43, st43⟩ := stI X40 hx hZ e40 Ar42 (j := (13 : Int32)) hin42 (g := (mkF m 90 #[.val (.int p0), .val (.int p1), .val (.int p2), .unset, .unset, .unset, .unset] [(.int (895 : Int32)), (.int (13 : Int32)), (.ref b1), (.ref b1)])) rfl rfl (hb hby at_90)
  have V43 : Arv Z h43 b1 k1 .int (31 : Int32) [(.int (65 : Int32)), (.int (90 : Int32)), (.int (95 : Int32)), (.int (97 : Int32)), (.int (122 : Int32)), (.int (192 : Int32)), (.int (214 : Int32)), (.int (216 : Int32)), (.int (246 : Int32)), (.int (248 : Int32)), (.int (767 : Int32)), (.int (880 : Int32)), (.int (893 : Int32)), (.int (895 : Int32)), (.int (0 : Int32)), (.int (0 : Int32)), (.int (0 : Int32)), (.int (0 : Int32)), (.int (0 : Int32)), (.int (0 : Int32)), (.int (0 : Int32)), (.int (0 : Int32)), (.int (0 : Int32)), (.int (0 : Int32)), (.int (0 : Int32)), (.int (0 : Int32)), (.int (0 : Int32)), (.int (0 : Int32)), (.int (0 : Int32)), (.int (0 : Int32)), (.int (0 : Int32))] (.int (0 : Int32)) := Arv.set Ar42 qk42 Sz42 Nn42 Hs42 Gf42 rfl W43 13 rfl (Nat.le_of_ble_eq_true rfl)
  obtain ⟨_, X43, N43⟩ := own_hide X43 (Fr.snoc X43 N40 g_b1)
  refine own_st st43 ?_
  show own_Go _ _ _ _ T43 (mkF m 91 #[.val (.int p0), .val (.int p1), .val (.int p2), .unset, .unset, .unset, .unset] [(.ref b1)])
  refine own_st (fun t k => XS.dup X43.here hx rfl (hb hby at_91) rfl rfl k) ?_
  show own_Go _ _ _ _ T43 (mkF m 92 #[.val (.int p0), .val (.int p1), .val (.int p2), .unset, .unset, .unset, .unset] [(.ref b1), (.ref b1)])
  refine own_st (fun t k => XS.bipush X43.here hx rfl (hb hby at_92) k) ?_
  show own_Go _ _ _ _ T43 (mkF m 94 #[.val (.int p0), .val (.int p1), .val (.int p2), .unset, .unset, .unset, .unset] [(.int (14 : Int32)), (.ref b1), (.ref b1)])
  refine own_st (fun t k => XS.sipush X43.here hx rfl (hb hby at_94) k) ?_
  show own_Go _ _ _ _ T43 (mkF m 97 #[.val (.int p0), .val (.int p1), .val (.int p2), .unset, .unset, .unset, .unset] [(.int (8191 : Int32)), (.int (14 : Int32)), (.ref b1), (.ref b1)])
  have K0_44 := (K0_41.wr W43 (Or.inr sz_b1))
  obtain ⟨cl45, Ar45, qk45, Sz45, Nn45, Hs45, Gf45⟩ := id V43
  have hin45 : ¬ ((14 : Int32) < 0 ∨ cl45.slots.size ≤ ((14 : Int32)).toNatClampNeg) := inb_of Sz45 ⟨by decide, by decide⟩
  obtain ⟨T46, h46, X46, e46, W46, st46⟩ := stI X43 hx hZ e43 Ar45 (j := (14 : Int32)) hin45 (g := (mkF m 97 #[.val (.int p0), .val (.int p1), .val (.int p2), .unset, .unset, .unset, .unset] [(.int (8191 : Int32)), (.int (14 : Int32)), (.ref b1), (.ref b1)])) rfl rfl (hb hby at_97)
  have V46 : Arv Z h46 b1 k1 .int (31 : Int32) [(.int (65 : Int32)), (.int (90 : Int32)), (.int (95 : Int32)), (.int (97 : Int32)), (.int (122 : Int32)), (.int (192 : Int32)), (.int (214 : Int32)), (.int (216 : Int32)), (.int (246 : Int32)), (.int (248 : Int32)), (.int (767 : Int32)), (.int (880 : Int32)), (.int (893 : Int32)), (.int (895 : Int32)), (.int (8191 : Int32)), (.int (0 : Int32)), (.int (0 : Int32)), (.int (0 : Int32)), (.int (0 : Int32)), (.int (0 : Int32)), (.int (0 : Int32)), (.int (0 : Int32)), (.int (0 : Int32)), (.int (0 : Int32)), (.int (0 : Int32)), (.int (0 : Int32)), (.int (0 : Int32)), (.int (0 : Int32)), (.int (0 : Int32)), (.int (0 : Int32)), (.int (0 : Int32))] (.int (0 : Int32)) := Arv.set Ar45 qk45 Sz45 Nn45 Hs45 Gf45 rfl W46 14 rfl (Nat.le_of_ble_eq_true rfl)
  obtain ⟨_, X46, N46⟩ := own_hide X46 (Fr.snoc X46 N43 g_b1)
  refine own_st st46 ?_
  show own_Go _ _ _ _ T46 (mkF m 98 #[.val (.int p0), .val (.int p1), .val (.int p2), .unset, .unset, .unset, .unset] [(.ref b1)])
  refine own_st (fun t k => XS.dup X46.here hx rfl (hb hby at_98) rfl rfl k) ?_
  show own_Go _ _ _ _ T46 (mkF m 99 #[.val (.int p0), .val (.int p1), .val (.int p2), .unset, .unset, .unset, .unset] [(.ref b1), (.ref b1)])
  refine own_st (fun t k => XS.bipush X46.here hx rfl (hb hby at_99) k) ?_
  show own_Go _ _ _ _ T46 (mkF m 101 #[.val (.int p0), .val (.int p1), .val (.int p2), .unset, .unset, .unset, .unset] [(.int (15 : Int32)), (.ref b1), (.ref b1)])
  refine own_st (fun t k => XS.sipush X46.here hx rfl (hb hby at_101) k) ?_
  show own_Go _ _ _ _ T46 (mkF m 104 #[.val (.int p0), .val (.int p1), .val (.int p2), .unset, .unset, .unset, .unset] [(.int (8204 : Int32)), (.int (15 : Int32)), (.ref b1), (.ref b1)])
  have K0_47 := (K0_44.wr W46 (Or.inr sz_b1))
  obtain ⟨cl48, Ar48, qk48, Sz48, Nn48, Hs48, Gf48⟩ := id V46
  have hin48 : ¬ ((15 : Int32) < 0 ∨ cl48.slots.size ≤ ((15 : Int32)).toNatClampNeg) := inb_of Sz48 ⟨by decide, by decide⟩
  obtain ⟨T49, h49, X49, e49, W49, st49⟩ := stI X46 hx hZ e46 Ar48 (j := (15 : Int32)) hin48 (g := (mkF m 104 #[.val (.int p0), .val (.int p1), .val (.int p2), .unset, .unset, .unset, .unset] [(.int (8204 : Int32)), (.int (15 : Int32)), (.ref b1), (.ref b1)])) rfl rfl (hb hby at_104)
  have V49 : Arv Z h49 b1 k1 .int (31 : Int32) [(.int (65 : Int32)), (.int (90 : Int32)), (.int (95 : Int32)), (.int (97 : Int32)), (.int (122 : Int32)), (.int (192 : Int32)), (.int (214 : Int32)), (.int (216 : Int32)), (.int (246 : Int32)), (.int (248 : Int32)), (.int (767 : Int32)), (.int (880 : Int32)), (.int (893 : Int32)), (.int (895 : Int32)), (.int (8191 : Int32)), (.int (8204 : Int32)), (.int (0 : Int32)), (.int (0 : Int32)), (.int (0 : Int32)), (.int (0 : Int32)), (.int (0 : Int32)), (.int (0 : Int32)), (.int (0 : Int32)), (.int (0 : Int32)), (.int (0 : Int32)), (.int (0 : Int32)), (.int (0 : Int32)), (.int (0 : Int32)), (.int (0 : Int32)), (.int (0 : Int32)), (.int (0 : Int32))] (.int (0 : Int32)) := Arv.set Ar48 qk48 Sz48 Nn48 Hs48 Gf48 rfl W49 15 rfl (Nat.le_of_ble_eq_true rfl)
  obtain ⟨_, X49, N49⟩ := own_hide X49 (Fr.snoc X49 N46 g_b1)
  refine own_st st49 ?_
  show own_Go _ _ _ _ T49 (mkF m 105 #[.val (.int p0), .val (.int p1), .val (.int p2), .unset, .unset, .unset, .unset] [(.ref b1)])
  refine own_st (fun t k => XS.dup X49.here hx rfl (hb hby at_105) rfl rfl k) ?_
  show own_Go _ _ _ _ T49 (mkF m 106 #[.val (.int p0), .val (.int p1), .val (.int p2), .unset, .unset, .unset, .unset] [(.ref b1), (.ref b1)])
  refine own_st (fun t k => XS.bipush X49.here hx rfl (hb hby at_106) k) ?_
  show own_Go _ _ _ _ T49 (mkF m 108 #[.val (.int p0), .val (.int p1), .val (.int p2), .unset, .unset, .unset, .unset] [(.int (16 : Int32)), (.ref b1), (.ref b1)])
  refine own_st (fun t k => XS.sipush X49.here hx rfl (hb hby at_108) k) ?_
  show own_Go _ _ _ _ T49 (mkF m 111 #[.val (.int p0), .val (.int p1), .val (.int p2), .unset, .unset, .unset, .unset] [(.int (8205 : Int32)), (.int (16 : Int32)), (.ref b1), (.ref b1)])
  have K0_50 := (K0_47.wr W49 (Or.inr sz_b1))
  obtain ⟨cl51, Ar51, qk51, Sz51, Nn51, Hs51, Gf51⟩ := id V49
  have hin51 : ¬ ((16 : Int32) < 0 ∨ cl51.slots.size ≤ ((16 : Int32)).toNatClampNeg) := inb_of Sz51 ⟨by decide, by decide⟩
  obtain ⟨T52, h52, X52, e52, W52, st52⟩ := stI X49 hx hZ e49 Ar51 (j := (16 : Int32)) hin51 (g := (mkF m 111 #[.val (.int p0), .val (.int p1), .val (.int p2), .unset, .unset, .unset, .unset] [(.int (8205 : Int32)), (.int (16 : Int32)), (.ref b1), (.ref b1)])) rfl rfl (hb hby at_111)
  have V52 : Arv Z h52 b1 k1 .int (31 : Int32) [(.int (65 : Int32)), (.int (90 : Int32)), (.int (95 : Int32)), (.int (97 : Int32)), (.int (122 : Int32)), (.int (192 : Int32)), (.int (214 : Int32)), (.int (216 : Int32)), (.int (246 : Int32)), (.int (248 : Int32)), (.int (767 : Int32)), (.int (880 : Int32)), (.int (893 : Int32)), (.int (895 : Int32)), (.int (8191 : Int32)), (.int (8204 : Int32)), (.int (8205 : Int32)), (.int (0 : Int32)), (.int (0 : Int32)), (.int (0 : Int32)), (.int (0 : Int32)), (.int (0 : Int32)), (.int (0 : Int32)), (.int (0 : Int32)), (.int (0 : Int32)), (.int (0 : Int32)), (.int (0 : Int32)), (.int (0 : Int32)), (.int (0 : Int32)), (.int (0 : Int32)), (.int (0 : Int32))] (.int (0 : Int32)) := Arv.set Ar51 qk51 Sz51 Nn51 Hs51 Gf51 rfl W52 16 rfl (Nat.le_of_ble_eq_true rfl)
  obtain ⟨_, X52, N52⟩ := own_hide X52 (Fr.snoc X52 N49 g_b1)
  refine own_st st52 ?_
  show own_Go _ _ _ _ T52 (mkF m 112 #[.val (.int p0), .val (.int p1), .val (.int p2), .unset, .unset, .unset, .unset] [(.ref b1)])
  refine own_st (fun t k => XS.dup X52.here hx rfl (hb hby at_112) rfl rfl k) ?_
  show own_Go _ _ _ _ T52 (mkF m 113 #[.val (.int p0), .val (.int p1), .val (.int p2), .unset, .unset, .unset, .unset] [(.ref b1), (.ref b1)])
  refine own_st (fun t k => XS.bipush X52.here hx rfl (hb hby at_113) k) ?_
  show own_Go _ _ _ _ T52 (mkF m 115 #[.val (.int p0), .val (.int p1), .val (.int p2), .unset, .unset, .unset, .unset] [(.int (17 : Int32)), (.ref b1), (.ref b1)])
  refine own_st (fun t k => XS.sipush X52.here hx rfl (hb hby at_115) k) ?_
  show own_Go _ _ _ _ T52 (mkF m 118 #[.val (.int p0), .val (.int p1), .val (.int p2), .unset, .unset, .unset, .unset] [(.int (8304 : Int32)), (.int (17 : Int32)), (.ref b1), (.ref b1)])
  have K0_53 := (K0_50.wr W52 (Or.inr sz_b1))
  obtain ⟨cl54, Ar54, qk54, Sz54, Nn54, Hs54, Gf54⟩ := id V52
  have hin54 : ¬ ((17 : Int32) < 0 ∨ cl54.slots.size ≤ ((17 : Int32)).toNatClampNeg) := inb_of Sz54 ⟨by decide, by decide⟩
  obtain ⟨T55, h55, X55, e55, W55, st55⟩ := stI X52 hx hZ e52 Ar54 (j := (17 : Int32)) hin54 (g := (mkF m 118 #[.val (.int p0), .val (.int p1), .val (.int p2), .unset, .unset, .unset, .unset] [(.int (8304 : Int32)), (.int (17 : Int32)), (.ref b1), (.ref b1)])) rfl rfl (hb hby at_118)
  have V55 : Arv Z h55 b1 k1 .int (31 : Int32) [(.int (65 : Int32)), (.int (90 : Int32)), (.int (95 : Int32)), (.int (97 : Int32)), (.int (122 : Int32)), (.int (192 : Int32)), (.int (214 : Int32)), (.int (216 : Int32)), (.int (246 : Int32)), (.int (248 : Int32)), (.int (767 : Int32)), (.int (880 : Int32)), (.int (893 : Int32)), (.int (895 : Int32)), (.int (8191 : Int32)), (.int (8204 : Int32)), (.int (8205 : Int32)), (.int (8304 : Int32)), (.int (0 : Int32)), (.int (0 : Int32)), (.int (0 : Int32)), (.int (0 : Int32)), (.int (0 : Int32)), (.int (0 : Int32)), (.int (0 : Int32)), (.int (0 : Int32)), (.int (0 : Int32)), (.int (0 : Int32)), (.int (0 : Int32)), (.int (0 : Int32)), (.int (0 : Int32))] (.int (0 : Int32)) := Arv.set Ar54 qk54 Sz54 Nn54 Hs54 Gf54 rfl W55 17 rfl (Nat.le_of_ble_eq_true rfl)
  obtain ⟨_, X55, N55⟩ := own_hide X55 (Fr.snoc X55 N52 g_b1)
  refine own_st st55 ?_
  show own_Go _ _ _ _ T55 (mkF m 119 #[.val (.int p0), .val (.int p1), .val (.int p2), .unset, .unset, .unset, .unset] [(.ref b1)])
  refine own_st (fun t k => XS.dup X55.here hx rfl (hb hby at_119) rfl rfl k) ?_
  show own_Go _ _ _ _ T55 (mkF m 120 #[.val (.int p0), .val (.int p1), .val (.int p2), .unset, .unset, .unset, .unset] [(.ref b1), (.ref b1)])
  refine own_st (fun t k => XS.bipush X55.here hx rfl (hb hby at_120) k) ?_
  show own_Go _ _ _ _ T55 (mkF m 122 #[.val (.int p0), .val (.int p1), .val (.int p2), .unset, .unset, .unset, .unset] [(.int (18 : Int32)), (.ref b1), (.ref b1)])
  refine own_st (fun t k => XS.sipush X55.here hx rfl (hb hby at_122) k) ?_
  show own_Go _ _ _ _ T55 (mkF m 125 #[.val (.int p0), .val (.int p1), .val (.int p2), .unset, .unset, .unset, .unset] [(.int (8591 : Int32)), (.int (18 : Int32)), (.ref b1), (.ref b1)])
  have K0_56 := (K0_53.wr W55 (Or.inr sz_b1))
  obtain ⟨cl57, Ar57, qk57, Sz57, Nn57, Hs57, Gf57⟩ := id V55
  have hin57 : ¬ ((18 : Int32) < 0 ∨ cl57.slots.size ≤ ((18 : Int32)).toNatClampNeg) := inb_of Sz57 ⟨by decide, by decide⟩
  obtain ⟨T58, h58, X58, e58, W58, st58⟩ := stI X55 hx hZ e55 Ar57 (j := (18 : Int32)) hin57 (g := (mkF m 125 #[.val (.int p0), .val (.int p1), .val (.int p2), .unset, .unset, .unset, .unset] [(.int (8591 : Int32)), (.int (18 : Int32)), (.ref b1), (.ref b1)])) rfl rfl (hb hby at_125)
  have V58 : Arv Z h58 b1 k1 .int (31 : Int32) [(.int (65 : Int32)), (.int (90 : Int32)), (.int (95 : Int32)), (.int (97 : Int32)), (.int (122 : Int32)), (.int (192 : Int32)), (.int (214 : Int32)), (.int (216 : Int32)), (.int (246 : Int32)), (.int (248 : Int32)), (.int (767 : Int32)), (.int (880 : Int32)), (.int (893 : Int32)), (.int (895 : Int32)), (.int (8191 : Int32)), (.int (8204 : Int32)), (.int (8205 : Int32)), (.int (8304 : Int32)), (.int (8591 : Int32)), (.int (0 : Int32)), (.int (0 : Int32)), (.int (0 : Int32)), (.int (0 : Int32)), (.int (0 : Int32)), (.int (0 : Int32)), (.int (0 : Int32)), (.int (0 : Int32)), (.int (0 : Int32)), (.int (0 : Int32)), (.int (0 : Int32)), (.int (0 : Int32))] (.int (0 : Int32)) := Arv.set Ar57 qk57 Sz57 Nn57 Hs57 Gf57 rfl W58 18 rfl (Nat.le_of_ble_eq_true rfl)
  obtain ⟨_, X58, N58⟩ := own_hide X58 (Fr.snoc X58 N55 g_b1)
  refine own_st st58 ?_
  show own_Go _ _ _ _ T58 (mkF m 126 #[.val (.int p0), .val (.int p1), .val (.int p2), .unset, .unset, .unset, .unset] [(.ref b1)])
  refine own_st (fun t k => XS.dup X58.here hx rfl (hb hby at_126) rfl rfl k) ?_
  show own_Go _ _ _ _ T58 (mkF m 127 #[.val (.int p0), .val (.int p1), .val (.int p2), .unset, .unset, .unset, .unset] [(.ref b1), (.ref b1)])
  refine own_st (fun t k => XS.bipush X58.here hx rfl (hb hby at_127) k) ?_
  show own_Go _ _ _ _ T58 (mkF m 129 #[.val (.int p0), .val (.int p1), .val (.int p2), .unset, .unset, .unset, .unset] [(.int (19 : Int32)), (.ref b1), (.ref b1)])
  refine own_st (fun t k => XS.sipush X58.here hx rfl (hb hby at_129) k) ?_
  show own_Go _ _ _ _ T58 (mkF m 132 #[.val (.int p0), .val (.int p1), .val (.int p2), .unset, .unset, .unset, .unset] [(.int (11264 : Int32)), (.int (19 : Int32)), (.ref b1), (.ref b1)])
  have K0_59 := (K0_56.wr W58 (Or.inr sz_b1))
  obtain ⟨cl60, Ar60, qk60, Sz60, Nn60, Hs60, Gf60⟩ := id V58
  have hin60 : ¬ ((19 : Int32) < 0 ∨ cl60.slots.size ≤ ((19 : Int32)).toNatClampNeg) := inb_of Sz60 ⟨by decide, by decide⟩
  obtain ⟨T61, h61, X61, e61, W61, st61⟩ := stI X58 hx hZ e58 Ar60 (j := (19 : Int32)) hin60 (g := (mkF m 132 #[.val (.int p0), .val (.int p1), .val (.int p2), .unset, .unset, .unset, .unset] [(.int (11264 : Int32)), (.int (19 : Int32)), (.ref b1), (.ref b1)])) rfl rfl (hb hby at_132)
  have V61 : Arv Z h61 b1 k1 .int (31 : Int32) [(.int (65 : Int32)), (.int (90 : Int32)), (.int (95 : Int32)), (.int (97 : Int32)), (.int (122 : Int32)), (.int (192 : Int32)), (.int (214 : Int32)), (.int (216 : Int32)), (.int (246 : Int32)), (.int (248 : Int32)), (.int (767 : Int32)), (.int (880 : Int32)), (.int (893 : Int32)), (.int (895 : Int32)), (.int (8191 : Int32)), (.int (8204 : Int32)), (.int (8205 : Int32)), (.int (8304 : Int32)), (.int (8591 : Int32)), (.int (11264 : Int32)), (.int (0 : Int32)), (.int (0 : Int32)), (.int (0 : Int32)), (.int (0 : Int32)), (.int (0 : Int32)), (.int (0 : Int32)), (.int (0 : Int32)), (.int (0 : Int32)), (.int (0 : Int32)), (.int (0 : Int32)), (.int (0 : Int32))] (.int (0 : Int32)) := Arv.set Ar60 qk60 Sz60 Nn60 Hs60 Gf60 rfl W61 19 rfl (Nat.le_of_ble_eq_true rfl)
  obtain ⟨_, X61, N61⟩ := own_hide X61 (Fr.snoc X61 N58 g_b1)
  refine own_st st61 ?_
  show own_Go _ _ _ _ T61 (mkF m 133 #[.val (.int p0), .val (.int p1), .val (.int p2), .unset, .unset, .unset, .unset] [(.ref b1)])
  refine own_st (fun t k => XS.dup X61.here hx rfl (hb hby at_133) rfl rfl k) ?_
  show own_Go _ _ _ _ T61 (mkF m 134 #[.val (.int p0), .val (.int p1), .val (.int p2), .unset, .unset, .unset, .unset] [(.ref b1), (.ref b1)])
  refine own_st (fun t k => XS.bipush X61.here hx rfl (hb hby at_134) k) ?_
  show own_Go _ _ _ _ T61 (mkF m 136 #[.val (.int p0), .val (.int p1), .val (.int p2), .unset, .unset, .unset, .unset] [(.int (20 : Int32)), (.ref b1), (.ref b1)])
  refine own_st (fun t k => XS.sipush X61.here hx rfl (hb hby at_136) k) ?_
  show own_Go _ _ _ _ T61 (mkF m 139 #[.val (.int p0), .val (.int p1), .val (.int p2), .unset, .unset, .unset, .unset] [(.int (12271 : Int32)), (.int (20 : Int32)), (.ref b1), (.ref b1)])
  have K0_62 := (K0_59.wr W61 (Or.inr sz_b1))
  obtain ⟨cl63, Ar63, qk63, Sz63, Nn63, Hs63, Gf63⟩ := id V61
  have hin63 : ¬ ((20 : Int32) < 0 ∨ cl63.slots.size ≤ ((20 : Int32)).toNatClampNeg) := inb_of Sz63 ⟨by decide, by decide⟩
  obtain ⟨T64, h64, X64, e64, W64, st64⟩ := stI X61 hx hZ e61 Ar63 (j := (20 : Int32)) hin63 (g := (mkF m 139 #[.val (.int p0), .val (.int p1), .val (.int p2), .unset, .unset, .unset, .unset] [(.int (12271 : Int32)), (.int (20 : Int32)), (.ref b1), (.ref b1)])) rfl rfl (hb hby at_139)
  have V64 : Arv Z h64 b1 k1 .int (31 : Int32) [(.int (65 : Int32)), (.int (90 : Int32)), (.int (95 : Int32)), (.int (97 : Int32)), (.int (122 : Int32)), (.int (192 : Int32)), (.int (214 : Int32)), (.int (216 : Int32)), (.int (246 : Int32)), (.int (248 : Int32)), (.int (767 : Int32)), (.int (880 : Int32)), (.int (893 : Int32)), (.int (895 : Int32)), (.int (8191 : Int32)), (.int (8204 : Int32)), (.int (8205 : Int32)), (.int (8304 : Int32)), (.int (8591 : Int32)), (.int (11264 : Int32)), (.int (12271 : Int32)), (.int (0 : Int32)), (.int (0 : Int32)), (.int (0 : Int32)), (.int (0 : Int32)), (.int (0 : Int32)), (.int (0 : Int32)), (.int (0 : Int32)), (.int (0 : Int32)), (.int (0 : Int32)), (.int (0 : Int32))] (.int (0 : Int32)) := Arv.set Ar63 qk63 Sz63 Nn63 Hs63 Gf63 rfl W64 20 rfl (Nat.le_of_ble_eq_true rfl)
  obtain ⟨_, X64, N64⟩ := own_hide X64 (Fr.snoc X64 N61 g_b1)
  refine own_st st64 ?_
  show own_Go _ _ _ _ T64 (mkF m 140 #[.val (.int p0), .val (.int p1), .val (.int p2), .unset, .unset, .unset, .unset] [(.ref b1)])
  refine own_st (fun t k => XS.dup X64.here hx rfl (hb hby at_140) rfl rfl k) ?_
  show own_Go _ _ _ _ T64 (mkF m 141 #[.val (.int p0), .val (.int p1), .val (.int p2), .unset, .unset, .unset, .unset] [(.ref b1), (.ref b1)])
  refine own_st (fun t k => XS.bipush X64.here hx rfl (hb hby at_141) k) ?_
  show own_Go _ _ _ _ T64 (mkF m 143 #[.val (.int p0), .val (.int p1), .val (.int p2), .unset, .unset, .unset, .unset] [(.int (21 : Int32)), (.ref b1), (.ref b1)])
  refine own_st (fun t k => XS.sipush X64.here hx rfl (hb hby at_143) k) ?_
  show own_Go _ _ _ _ T64 (mkF m 146 #[.val (.int p0), .val (.int p1), .val (.int p2), .unset, .unset, .unset, .unset] [(.int (12289 : Int32)), (.int (21 : Int32)), (.ref b1), (.ref b1)])
  have K0_65 := (K0_62.wr W64 (Or.inr sz_b1))
  obtain ⟨cl66, Ar66, qk66, Sz66, Nn66, Hs66, Gf66⟩ := id V64
  have hin66 : ¬ ((21 : Int32) < 0 ∨ cl66.slots.size ≤ ((21 : Int32)).toNatClampNeg) := inb_of Sz66 ⟨by decide, by decide⟩
  obtain ⟨T67, h67, X67, e67, W67, st67⟩ := stI X64 hx hZ e64 Ar66 (j := (21 : Int32)) hin66 (g := (mkF m 146 #[.val (.int p0), .val (.int p1), .val (.int p2), .unset, .unset, .unset, .unset] [(.int (12289 : Int32)), (.int (21 : Int32)), (.ref b1), (.ref b1)])) rfl rfl (hb hby at_146)
  have V67 : Arv Z h67 b1 k1 .int (31 : Int32) [(.int (65 : Int32)), (.int (90 : Int32)), (.int (95 : Int32)), (.int (97 : Int32)), (.int (122 : Int32)), (.int (192 : Int32)), (.int (214 : Int32)), (.int (216 : Int32)), (.int (246 : Int32)), (.int (248 : Int32)), (.int (767 : Int32)), (.int (880 : Int32)), (.int (893 : Int32)), (.int (895 : Int32)), (.int (8191 : Int32)), (.int (8204 : Int32)), (.int (8205 : Int32)), (.int (8304 : Int32)), (.int (8591 : Int32)), (.int (11264 : Int32)), (.int (12271 : Int32)), (.int (12289 : Int32)), (.int (0 : Int32)), (.int (0 : Int32)), (.int (0 : Int32)), (.int (0 : Int32)), (.int (0 : Int32)), (.int (0 : Int32)), (.int (0 : Int32)), (.int (0 : Int32)), (.int (0 : Int32))] (.int (0 : Int32)) := Arv.set Ar66 qk66 Sz66 Nn66 Hs66 Gf66 rfl W67 21 rfl (Nat.le_of_ble_eq_true rfl)
  obtain ⟨_, X67, N67⟩ := own_hide X67 (Fr.snoc X67 N64 g_b1)
  refine own_st st67 ?_
  show own_Go _ _ _ _ T67 (mkF m 147 #[.val (.int p0), .val (.int p1), .val (.int p2), .unset, .unset, .unset, .unset] [(.ref b1)])
  refine own_st (fun t k => XS.dup X67.here hx rfl (hb hby at_147) rfl rfl k) ?_
  show own_Go _ _ _ _ T67 (mkF m 148 #[.val (.int p0), .val (.int p1), .val (.int p2), .unset, .unset, .unset, .unset] [(.ref b1), (.ref b1)])
  refine own_st (fun t k => XS.bipush X67.here hx rfl (hb hby at_148) k) ?_
  show own_Go _ _ _ _ T67 (mkF m 150 #[.val (.int p0), .val (.int p1), .val (.int p2), .unset, .unset, .unset, .unset] [(.int (22 : Int32)), (.ref b1), (.ref b1)])
  refine own_st (X67.ldcInt hx hown (mvT hZ (hw _ (List.mem_of_getElem? (i := 1) rfl))) (g := (mkF m 150 #[.val (.int p0), .val (.int p1), .val (.int p2), .unset, .unset, .unset, .unset] [(.int (22 : Int32)), (.ref b1), (.ref b1)])) rfl (hb hby at_150)) ?_
  show own_Go _ _ _ _ T67 (mkF m 152 #[.val (.int p0), .val (.int p1), .val (.int p2), .unset, .unset, .unset, .unset] [(.int (55295 : Int32)), (.int (22 : Int32)), (.ref b1), (.ref b1)])
  have K0_68 := (K0_65.wr W67 (Or.inr sz_b1))
  obtain ⟨cl69, Ar69, qk69, Sz69, Nn69, Hs69, Gf69⟩ := id V67
  have hin69 : ¬ ((22 : Int32) < 0 ∨ cl69.slots.size ≤ ((22 : Int32)).toNatClampNeg) := inb_of Sz69 ⟨by decide, by decide⟩
  obtain ⟨T70, h70, X70, e70, W70, st70⟩ := stI X67 hx hZ e67 Ar69 (j := (22 : Int32)) hin69 (g := (mkF m 152 #[.val (.int p0), .val (.int p1), .val (.int p2), .unset, .unset, .unset, .unset] [(.int (55295 : Int32)), (.int (22 : Int32)), (.ref b1), (.ref b1)])) rfl rfl (hb hby at_152)
  have V70 : Arv Z h70 b1 k1 .int (31 : Int32) [(.int (65 : Int32)), (.int (90 : Int32)), (.int (95 : Int32)), (.int (97 : Int32)), (.int (122 : Int32)), (.int (192 : Int32)), (.int (214 : Int32)), (.int (216 : Int32)), (.int (246 : Int32)), (.int (248 : Int32)), (.int (767 : Int32)), (.int (880 : Int32)), (.int (893 : Int32)), (.int (895 : Int32)), (.int (8191 : Int32)), (.int (8204 : Int32)), (.int (8205 : Int32)), (.int (8304 : Int32)), (.int (8591 : Int32)), (.int (11264 : Int32)), (.int (12271 : Int32)), (.int (12289 : Int32)), (.int (55295 : Int32)), (.int (0 : Int32)), (.int (0 : Int32)), (.int (0 : Int32)), (.int (0 : Int32)), (.int (0 : Int32)), (.int (0 : Int32)), (.int (0 : Int32)), (.int (0 : Int32))] (.int (0 : Int32)) := Arv.set Ar69 qk69 Sz69 Nn69 Hs69 Gf69 rfl W70 22 rfl (Nat.le_of_ble_eq_true rfl)
  obtain ⟨_, X70, N70⟩ := own_hide X70 (Fr.snoc X70 N67 g_b1)
  refine own_st st70 ?_
  show own_Go _ _ _ _ T70 (mkF m 153 #[.val (.int p0), .val (.int p1), .val (.int p2), .unset, .unset, .unset, .unset] [(.ref b1)])
  refine own_st (fun t k => XS.dup X70.here hx rfl (hb hby at_153) rfl rfl k) ?_
  show own_Go _ _ _ _ T70 (mkF m 154 #[.val (.int p0), .val (.int p1), .val (.int p2), .unset, .unset, .unset, .unset] [(.ref b1), (.ref b1)])
  refine own_st (fun t k => XS.bipush X70.here hx rfl (hb hby at_154) k) ?_
  show own_Go _ _ _ _ T70 (mkF m 156 #[.val (.int p0), .val (.int p1), .val (.int p2), .unset, .unset, .unset, .unset] [(.int (23 : Int32)), (.ref b1), (.ref b1)])
  refine own_st (X70.ldcInt hx hown (mvT hZ (hw _ (List.mem_of_getElem? (i := 2) rfl))) (g := (mkF m 156 #[.val (.int p0), .val (.int p1), .val (.int p2), .unset, .unset, .unset, .unset] [(.int (23 : Int32)), (.ref b1), (.ref b1)])) rfl (hb hby at_156)) ?_
  show own_Go _ _ _ _ T70 (mkF m 158 #[.val (.int p0), .val (.int p1), .val (.int p2), .unset, .unset, .unset, .unset] [(.int (63744 : Int32)), (.int (23 : Int32)), (.ref b1), (.ref b1)])
  have K0_71 := (K0_68.wr W70 (Or.inr sz_b1))
  obtain ⟨cl72, Ar72, qk72, Sz72, Nn72, Hs72, Gf72⟩ := id V70
  have hin72 : ¬ ((23 : Int32) < 0 ∨ cl72.slots.size ≤ ((23 : Int32)).toNatClampNeg) := inb_of Sz72 ⟨by decide, by decide⟩
  obtain ⟨T73, h73, X73, e73, W73, st73⟩ := stI X70 hx hZ e70 Ar72 (j := (23 : Int32)) hin72 (g := (mkF m 158 #[.val (.int p0), .val (.int p1), .val (.int p2), .unset, .unset, .unset, .unset] [(.int (63744 : Int32)), (.int (23 : Int32)), (.ref b1), (.ref b1)])) rfl rfl (hb hby at_158)
  have V73 : Arv Z h73 b1 k1 .int (31 : Int32) [(.int (65 : Int32)), (.int (90 : Int32)), (.int (95 : Int32)), (.int (97 : Int32)), (.int (122 : Int32)), (.int (192 : Int32)), (.int (214 : Int32)), (.int (216 : Int32)), (.int (246 : Int32)), (.int (248 : Int32)), (.int (767 : Int32)), (.int (880 : Int32)), (.int (893 : Int32)), (.int (895 : Int32)), (.int (8191 : Int32)), (.int (8204 : Int32)), (.int (8205 : Int32)), (.int (8304 : Int32)), (.int (8591 : Int32)), (.int (11264 : Int32)), (.int (12271 : Int32)), (.int (12289 : Int32)), (.int (55295 : Int32)), (.int (63744 : Int32)), (.int (0 : Int32)), (.int (0 : Int32)), (.int (0 : Int32)), (.int (0 : Int32)), (.int (0 : Int32)), (.int (0 : Int32)), (.int (0 : Int32))] (.int (0 : Int32)) := Arv.set Ar72 qk72 Sz72 Nn72 Hs72 Gf72 rfl W73 23 rfl (Nat.le_of_ble_eq_true rfl)
  obtain ⟨_, X73, N73⟩ := own_hide X73 (Fr.snoc X73 N70 g_b1)
  refine own_st st73 ?_
  show own_Go _ _ _ _ T73 (mkF m 159 #[.val (.int p0), .val (.int p1), .val (.int p2), .unset, .unset, .unset, .unset] [(.ref b1)])
  refine own_st (fun t k => XS.dup X73.here hx rfl (hb hby at_159) rfl rfl k) ?_
  show own_Go _ _ _ _ T73 (mkF m 160 #[.val (.int p0), .val (.int p1), .val (.int p2), .unset, .unset, .unset, .unset] [(.ref b1), (.ref b1)])
  refine own_st (fun t k => XS.bipush X73.here hx rfl (hb hby at_160) k) ?_
  show own_Go _ _ _ _ T73 (mkF m 162 #[.val (.int p0), .val (.int p1), .val (.int p2), .unset, .unset, .unset, .unset] [(.int (24 : Int32)), (.ref b1), (.ref b1)])
  refine own_st (X73.ldcInt hx hown (mvT hZ (hw _ (List.mem_of_getElem? (i := 3) rfl))) (g := (mkF m 162 #[.val (.int p0), .val (.int p1), .val (.int p2), .unset, .unset, .unset, .unset] [(.int (24 : Int32)), (.ref b1), (.ref b1)])) rfl (hb hby at_162)) ?_
  show own_Go _ _ _ _ T73 (mkF m 164 #[.val (.int p0), .val (.int p1), .val (.int p2), .unset, .unset, .unset, .unset] [(.int (64975 : Int32)), (.int (24 : Int32)), (.ref b1), (.ref b1)])
  have K0_74 := (K0_71.wr W73 (Or.inr sz_b1))
  obtain ⟨cl75, Ar75, qk75, Sz75, Nn75, Hs75, Gf75⟩ := id V73
  have hin75 : ¬ ((24 : Int32) < 0 ∨ cl75.slots.size ≤ ((24 : Int32)).toNatClampNeg) := inb_of Sz75 ⟨by decide, by decide⟩
  obtain ⟨T76, h76, X76, e76, W76, st76⟩ := stI X73 hx hZ e73 Ar75 (j := (24 : Int32)) hin75 (g := (mkF m 164 #[.val (.int p0), .val (.int p1), .val (.int p2), .unset, .unset, .unset, .unset] [(.int (64975 : Int32)), (.int (24 : Int32)), (.ref b1), (.ref b1)])) rfl rfl (hb hby at_164)
  have V76 : Arv Z h76 b1 k1 .int (31 : Int32) [(.int (65 : Int32)), (.int (90 : Int32)), (.int (95 : Int32)), (.int (97 : Int32)), (.int (122 : Int32)), (.int (192 : Int32)), (.int (214 : Int32)), (.int (216 : Int32)), (.int (246 : Int32)), (.int (248 : Int32)), (.int (767 : Int32)), (.int (880 : Int32)), (.int (893 : Int32)), (.int (895 : Int32)), (.int (8191 : Int32)), (.int (8204 : Int32)), (.int (8205 : Int32)), (.int (8304 : Int32)), (.int (8591 : Int32)), (.int (11264 : Int32)), (.int (12271 : Int32)), (.int (12289 : Int32)), (.int (55295 : Int32)), (.int (63744 : Int32)), (.int (64975 : Int32)), (.int (0 : Int32)), (.int (0 : Int32)), (.int (0 : Int32)), (.int (0 : Int32)), (.int (0 : Int32)), (.int (0 : Int32))] (.int (0 : Int32)) := Arv.set Ar75 qk75 Sz75 Nn75 Hs75 Gf75 rfl W76 24 rfl (Nat.le_of_ble_eq_true rfl)
  obtain ⟨_, X76, N76⟩ := own_hide X76 (Fr.snoc X76 N73 g_b1)
  refine own_st st76 ?_
  show own_Go _ _ _ _ T76 (mkF m 165 #[.val (.int p0), .val (.int p1), .val (.int p2), .unset, .unset, .unset, .unset] [(.ref b1)])
  refine own_st (fun t k => XS.dup X76.here hx rfl (hb hby at_165) rfl rfl k) ?_
  show own_Go _ _ _ _ T76 (mkF m 166 #[.val (.int p0), .val (.int p1), .val (.int p2), .unset, .unset, .unset, .unset] [(.ref b1), (.ref b1)])
  refine own_st (fun t k => XS.bipush X76.here hx rfl (hb hby at_166) k) ?_
  show own_Go _ _ _ _ T76 (mkF m 168 #[.val (.int p0), .val (.int p1), .val (.int p2), .unset, .unset, .unset, .unset] [(.int (25 : Int32)), (.ref b1), (.ref b1)])
  refine own_st (X76.ldcInt hx hown (mvT hZ (hw _ (List.mem_of_getElem? (i := 4) rfl))) (g := (mkF m 168 #[.val (.int p0), .val (.int p1), .val (.int p2), .unset, .unset, .unset, .unset] [(.int (25 : Int32)), (.ref b1), (.ref b1)])) rfl (hb hby at_168)) ?_
  show own_Go _ _ _ _ T76 (mkF m 170 #[.val (.int p0), .val (.int p1), .val (.int p2), .unset, .unset, .unset, .unset] [(.int (65008 : Int32)), (.int (25 : Int32)), (.ref b1), (.ref b1)])
  have K0_77 := (K0_74.wr W76 (Or.inr sz_b1))
  obtain ⟨cl78, Ar78, qk78, Sz78, Nn78, Hs78, Gf78⟩ := id V76
  have hin78 : ¬ ((25 : Int32) < 0 ∨ cl78.slots.size ≤ ((25 : Int32)).toNatClampNeg) := inb_of Sz78 ⟨by decide, by decide⟩
  obtain ⟨T79, h79, X79, e79, W79, st79⟩ := stI X76 hx hZ e76 Ar78 (j := (25 : Int32)) hin78 (g := (mkF m 170 #[.val (.int p0), .val (.int p1), .val (.int p2), .unset, .unset, .unset, .unset] [(.int (65008 : Int32)), (.int (25 : Int32)), (.ref b1), (.ref b1)])) rfl rfl (hb hby at_170)
  have V79 : Arv Z h79 b1 k1 .int (31 : Int32) [(.int (65 : Int32)), (.int (90 : Int32)), (.int (95 : Int32)), (.int (97 : Int32)), (.int (122 : Int32)), (.int (192 : Int32)), (.int (214 : Int32)), (.int (216 : Int32)), (.int (246 : Int32)), (.int (248 : Int32)), (.int (767 : Int32)), (.int (880 : Int32)), (.int (893 : Int32)), (.int (895 : Int32)), (.int (8191 : Int32)), (.int (8204 : Int32)), (.int (8205 : Int32)), (.int (8304 : Int32)), (.int (8591 : Int32)), (.int (11264 : Int32)), (.int (12271 : Int32)), (.int (12289 : Int32)), (.int (55295 : Int32)), (.int (63744 : Int32)), (.int (64975 : Int32)), (.int (65008 : Int32)), (.int (0 : Int32)), (.int (0 : Int32)), (.int (0 : Int32)), (.int (0 : Int32)), (.int (0 : Int32))] (.int (0 : Int32)) := Arv.set Ar78 qk78 Sz78 Nn78 Hs78 Gf78 rfl W79 25 rfl (Nat.le_of_ble_eq_true rfl)
  obtain ⟨_, X79, N79⟩ := own_hide X79 (Fr.snoc X79 N76 g_b1)
  refine own_st st79 ?_
  show own_Go _ _ _ _ T79 (mkF m 171 #[.val (.int p0), .val (.int p1), .val (.int p2), .unset, .unset, .unset, .unset] [(.ref b1)])
  refine own_st (fun t k => XS.dup X79.here hx rfl (hb hby at_171) rfl rfl k) ?_
  show own_Go _ _ _ _ T79 (mkF m 172 #[.val (.int p0), .val (.int p1), .val (.int p2), .unset, .unset, .unset, .unset] [(.ref b1), (.ref b1)])
  refine own_st (fun t k => XS.bipush X79.here hx rfl (hb hby at_172) k) ?_
  show own_Go _ _ _ _ T79 (mkF m 174 #[.val (.int p0), .val (.int p1), .val (.int p2), .unset, .unset, .unset, .unset] [(.int (26 : Int32)), (.ref b1), (.ref b1)])
  refine own_st (X79.ldcInt hx hown (mvT hZ (hw _ (List.mem_of_getElem? (i := 5) rfl))) (g := (mkF m 174 #[.val (.int p0), .val (.int p1), .val (.int p2), .unset, .unset, .unset, .unset] [(.int (26 : Int32)), (.ref b1), (.ref b1)])) rfl (hb hby at_174)) ?_
  show own_Go _ _ _ _ T79 (mkF m 176 #[.val (.int p0), .val (.int p1), .val (.int p2), .unset, .unset, .unset, .unset] [(.int (65533 : Int32)), (.int (26 : Int32)), (.ref b1), (.ref b1)])
  have K0_80 := (K0_77.wr W79 (Or.inr sz_b1))
  obtain ⟨cl81, Ar81, qk81, Sz81, Nn81, Hs81, Gf81⟩ := id V79
  have hin81 : ¬ ((26 : Int32) < 0 ∨ cl81.slots.size ≤ ((26 : Int32)).toNatClampNeg) := inb_of Sz81 ⟨by decide, by decide⟩
  obtain ⟨T82, h82, X82, e82, W82, st82⟩ := stI X79 hx hZ e79 Ar81 (j := (26 : Int32)) hin81 (g := (mkF m 176 #[.val (.int p0), .val (.int p1), .val (.int p2), .unset, .unset, .unset, .unset] [(.int (65533 : Int32)), (.int (26 : Int32)), (.ref b1), (.ref b1)])) rfl rfl (hb hby at_176)
  have V82 : Arv Z h82 b1 k1 .int (31 : Int32) [(.int (65 : Int32)), (.int (90 : Int32)), (.int (95 : Int32)), (.int (97 : Int32)), (.int (122 : Int32)), (.int (192 : Int32)), (.int (214 : Int32)), (.int (216 : Int32)), (.int (246 : Int32)), (.int (248 : Int32)), (.int (767 : Int32)), (.int (880 : Int32)), (.int (893 : Int32)), (.int (895 : Int32)), (.int (8191 : Int32)), (.int (8204 : Int32)), (.int (8205 : Int32)), (.int (8304 : Int32)), (.int (8591 : Int32)), (.int (11264 : Int32)), (.int (12271 : Int32)), (.int (12289 : Int32)), (.int (55295 : Int32)), (.int (63744 : Int32)), (.int (64975 : Int32)), (.int (65008 : Int32)), (.int (65533 : Int32)), (.int (0 : Int32)), (.int (0 : Int32)), (.int (0 : Int32)), (.int (0 : Int32))] (.int (0 : Int32)) := Arv.set Ar81 qk81 Sz81 Nn81 Hs81 Gf81 rfl W82 26 rfl (Nat.le_of_ble_eq_true rfl)
  obtain ⟨_, X82, N82⟩ := own_hide X82 (Fr.snoc X82 N79 g_b1)
  refine own_st st82 ?_
  show own_Go _ _ _ _ T82 (mkF m 177 #[.val (.int p0), .val (.int p1), .val (.int p2), .unset, .unset, .unset, .unset] [(.ref b1)])
  refine own_st (fun t k => XS.dup X82.here hx rfl (hb hby at_177) rfl rfl k) ?_
  show own_Go _ _ _ _ T82 (mkF m 178 #[.val (.int p0), .val (.int p1), .val (.int p2), .unset, .unset, .unset, .unset] [(.ref b1), (.ref b1)])
  refine own_st (fun t k => XS.bipush X82.here hx rfl (hb hby at_178) k) ?_
  show own_Go _ _ _ _ T82 (mkF m 180 #[.val (.int p0), .val (.int p1), .val (.int p2), .unset, .unset, .unset, .unset] [(.int (27 : Int32)), (.ref b1), (.ref b1)])
  refine own_st (X82.ldcInt hx hown (mvT hZ (hw _ (List.mem_of_getElem? (i := 6) rfl))) (g := (mkF m 180 #[.val (.int p0), .val (.int p1), .val (.int p2), .unset, .unset, .unset, .unset] [(.int (27 : Int32)), (.ref b1), (.ref b1)])) rfl (hb hby at_180)) ?_
  show own_Go _ _ _ _ T82 (mkF m 182 #[.val (.int p0), .val (.int p1), .val (.int p2), .unset, .unset, .unset, .unset] [(.int (65536 : Int32)), (.int (27 : Int32)), (.ref b1), (.ref b1)])
  have K0_83 := (K0_80.wr W82 (Or.inr sz_b1))
  obtain ⟨cl84, Ar84, qk84, Sz84, Nn84, Hs84, Gf84⟩ := id V82
  have hin84 : ¬ ((27 : Int32) < 0 ∨ cl84.slots.size ≤ ((27 : Int32)).toNatClampNeg) := inb_of Sz84 ⟨by decide, by decide⟩
  obtain ⟨T85, h85, X85, e85, W85, st85⟩ := stI X82 hx hZ e82 Ar84 (j := (27 : Int32)) hin84 (g := (mkF m 182 #[.val (.int p0), .val (.int p1), .val (.int p2), .unset, .unset, .unset, .unset] [(.int (65536 : Int32)), (.int (27 : Int32)), (.ref b1), (.ref b1)])) rfl rfl (hb hby at_182)
  have V85 : Arv Z h85 b1 k1 .int (31 : Int32) [(.int (65 : Int32)), (.int (90 : Int32)), (.int (95 : Int32)), (.int (97 : Int32)), (.int (122 : Int32)), (.int (192 : Int32)), (.int (214 : Int32)), (.int (216 : Int32)), (.int (246 : Int32)), (.int (248 : Int32)), (.int (767 : Int32)), (.int (880 : Int32)), (.int (893 : Int32)), (.int (895 : Int32)), (.int (8191 : Int32)), (.int (8204 : Int32)), (.int (8205 : Int32)), (.int (8304 : Int32)), (.int (8591 : Int32)), (.int (11264 : Int32)), (.int (12271 : Int32)), (.int (12289 : Int32)), (.int (55295 : Int32)), (.int (63744 : Int32)), (.int (64975 : Int32)), (.int (65008 : Int32)), (.int (65533 : Int32)), (.int (65536 : Int32)), (.int (0 : Int32)), (.int (0 : Int32)), (.int (0 : Int32))] (.int (0 : Int32)) := Arv.set Ar84 qk84 Sz84 Nn84 Hs84 Gf84 rfl W85 27 rfl (Nat.le_of_ble_eq_true rfl)
  obtain ⟨_, X85, N85⟩ := own_hide X85 (Fr.snoc X85 N82 g_b1)
  refine own_st st85 ?_
  show own_Go _ _ _ _ T85 (mkF m 183 #[.val (.int p0), .val (.int p1), .val (.int p2), .unset, .unset, .unset, .unset] [(.ref b1)])
  refine own_st (fun t k => XS.dup X85.here hx rfl (hb hby at_183) rfl rfl k) ?_
  show own_Go _ _ _ _ T85 (mkF m 184 #[.val (.int p0), .val (.int p1), .val (.int p2), .unset, .unset, .unset, .unset] [(.ref b1), (.ref b1)])
  refine own_st (fun t k => XS.bipush X85.here hx rfl (hb hby at_184) k) ?_
  show own_Go _ _ _ _ T85 (mkF m 186 #[.val (.int p0), .val (.int p1), .val (.int p2), .unset, .unset, .unset, .unset] [(.int (28 : Int32)), (.ref b1), (.ref b1)])
  refine own_st (X85.ldcInt hx hown (mvT hZ (hw _ (List.mem_of_getElem? (i := 7) rfl))) (g := (mkF m 186 #[.val (.int p0), .val (.int p1), .val (.int p2), .unset, .unset, .unset, .unset] [(.int (28 : Int32)), (.ref b1), (.ref b1)])) rfl (hb hby at_186)) ?_
  show own_Go _ _ _ _ T85 (mkF m 188 #[.val (.int p0), .val (.int p1), .val (.int p2), .unset, .unset, .unset, .unset] [(.int (983039 : Int32)), (.int (28 : Int32)), (.ref b1), (.ref b1)])
  have K0_86 := (K0_83.wr W85 (Or.inr sz_b1))
  obtain ⟨cl87, Ar87, qk87, Sz87, Nn87, Hs87, Gf87⟩ := id V85
  have hin87 : ¬ ((28 : Int32) < 0 ∨ cl87.slots.size ≤ ((28 : Int32)).toNatClampNeg) := inb_of Sz87 ⟨by decide, by decide⟩
  obtain ⟨T88, h88, X88, e88, W88, st88⟩ := stI X85 hx hZ e85 Ar87 (j := (28 : Int32)) hin87 (g := (mkF m 188 #[.val (.int p0), .val (.int p1), .val (.int p2), .unset, .unset, .unset, .unset] [(.int (983039 : Int32)), (.int (28 : Int32)), (.ref b1), (.ref b1)])) rfl rfl (hb hby at_188)
  have V88 : Arv Z h88 b1 k1 .int (31 : Int32) [(.int (65 : Int32)), (.int (90 : Int32)), (.int (95 : Int32)), (.int (97 : Int32)), (.int (122 : Int32)), (.int (192 : Int32)), (.int (214 : Int32)), (.int (216 : Int32)), (.int (246 : Int32)), (.int (248 : Int32)), (.int (767 : Int32)), (.int (880 : Int32)), (.int (893 : Int32)), (.int (895 : Int32)), (.int (8191 : Int32)), (.int (8204 : Int32)), (.int (8205 : Int32)), (.int (8304 : Int32)), (.int (8591 : Int32)), (.int (11264 : Int32)), (.int (12271 : Int32)), (.int (12289 : Int32)), (.int (55295 : Int32)), (.int (63744 : Int32)), (.int (64975 : Int32)), (.int (65008 : Int32)), (.int (65533 : Int32)), (.int (65536 : Int32)), (.int (983039 : Int32)), (.int (0 : Int32)), (.int (0 : Int32))] (.int (0 : Int32)) := Arv.set Ar87 qk87 Sz87 Nn87 Hs87 Gf87 rfl W88 28 rfl (Nat.le_of_ble_eq_true rfl)
  obtain ⟨_, X88, N88⟩ := own_hide X88 (Fr.snoc X88 N85 g_b1)
  refine own_st st88 ?_
  show own_Go _ _ _ _ T88 (mkF m 189 #[.val (.int p0), .val (.int p1), .val (.int p2), .unset, .unset, .unset, .unset] [(.ref b1)])
  refine own_st (fun t k => XS.dup X88.here hx rfl (hb hby at_189) rfl rfl k) ?_
  show own_Go _ _ _ _ T88 (mkF m 190 #[.val (.int p0), .val (.int p1), .val (.int p2), .unset, .unset, .unset, .unset] [(.ref b1), (.ref b1)])
  refine own_st (fun t k => XS.bipush X88.here hx rfl (hb hby at_190) k) ?_
  show own_Go _ _ _ _ T88 (mkF m 192 #[.val (.int p0), .val (.int p1), .val (.int p2), .unset, .unset, .unset, .unset] [(.int (29 : Int32)), (.ref b1), (.ref b1)])
  refine own_st (fun t k => XS.iconst X88.here hx rfl (hb hby at_192) k) ?_
  show own_Go _ _ _ _ T88 (mkF m 193 #[.val (.int p0), .val (.int p1), .val (.int p2), .unset, .unset, .unset, .unset] [(.int (0 : Int32)), (.int (29 : Int32)), (.ref b1), (.ref b1)])
  have K0_89 := (K0_86.wr W88 (Or.inr sz_b1))
  obtain ⟨cl90, Ar90, qk90, Sz90, Nn90, Hs90, Gf90⟩ := id V88
  have hin90 : ¬ ((29 : Int32) < 0 ∨ cl90.slots.size ≤ ((29 : Int32)).toNatClampNeg) := inb_of Sz90 ⟨by decide, by decide⟩
  obtain ⟨T91, h91, X91, e91, W91, st91⟩ := stI X88 hx hZ e88 Ar90 (j := (29 : Int32)) hin90 (g := (mkF m 193 #[.val (.int p0), .val (.int p1), .val (.int p2), .unset, .unset, .unset, .unset] [(.int (0 : Int32)), (.int (29 : Int32)), (.ref b1), (.ref b1)])) rfl rfl (hb hby at_193)
  have V91 : Arv Z h91 b1 k1 .int (31 : Int32) [(.int (65 : Int32)), (.int (90 : Int32)), (.int (95 : Int32)), (.int (97 : Int32)), (.int (122 : Int32)), (.int (192 : Int32)), (.int (214 : Int32)), (.int (216 : Int32)), (.int (246 : Int32)), (.int (248 : Int32)), (.int (767 : Int32)), (.int (880 : Int32)), (.int (893 : Int32)), (.int (895 : Int32)), (.int (8191 : Int32)), (.int (8204 : Int32)), (.int (8205 : Int32)), (.int (8304 : Int32)), (.int (8591 : Int32)), (.int (11264 : Int32)), (.int (12271 : Int32)), (.int (12289 : Int32)), (.int (55295 : Int32)), (.int (63744 : Int32)), (.int (64975 : Int32)), (.int (65008 : Int32)), (.int (65533 : Int32)), (.int (65536 : Int32)), (.int (983039 : Int32)), (.int (0 : Int32)), (.int (0 : Int32))] (.int (0 : Int32)) := Arv.set Ar90 qk90 Sz90 Nn90 Hs90 Gf90 rfl W91 29 rfl (Nat.le_of_ble_eq_true rfl)
  obtain ⟨_, X91, N91⟩ := own_hide X91 (Fr.snoc X91 N88 g_b1)
  refine own_st st91 ?_
  show own_Go _ _ _ _ T91 (mkF m 194 #[.val (.int p0), .val (.int p1), .val (.int p2), .unset, .unset, .unset, .unset] [(.ref b1)])
  refine own_st (fun t k => XS.dup X91.here hx rfl (hb hby at_194) rfl rfl k) ?_
  show own_Go _ _ _ _ T91 (mkF m 195 #[.val (.int p0), .val (.int p1), .val (.int p2), .unset, .unset, .unset, .unset] [(.ref b1), (.ref b1)])
  refine own_st (fun t k => XS.bipush X91.here hx rfl (hb hby at_195) k) ?_
  show own_Go _ _ _ _ T91 (mkF m 197 #[.val (.int p0), .val (.int p1), .val (.int p2), .unset, .unset, .unset, .unset] [(.int (30 : Int32)), (.ref b1), (.ref b1)])
  refine own_st (X91.ldcInt hx hown (mvT hZ (hw _ (List.mem_of_getElem? (i := 8) rfl))) (g := (mkF m 197 #[.val (.int p0), .val (.int p1), .val (.int p2), .unset, .unset, .unset, .unset] [(.int (30 : Int32)), (.ref b1), (.ref b1)])) rfl (hb hby at_197)) ?_
  show own_Go _ _ _ _ T91 (mkF m 199 #[.val (.int p0), .val (.int p1), .val (.int p2), .unset, .unset, .unset, .unset] [(.int (2147483643 : Int32)), (.int (30 : Int32)), (.ref b1), (.ref b1)])
  have K0_92 := (K0_89.wr W91 (Or.inr sz_b1))
  obtain ⟨cl93, Ar93, qk93, Sz93, Nn93, Hs93, Gf93⟩ := id V91
  have hin93 : ¬ ((30 : Int32) < 0 ∨ cl93.slots.size ≤ ((30 : Int32)).toNatClampNeg) := inb_of Sz93 ⟨by decide, by decide⟩
  obtain ⟨T94, h94, X94, e94, W94, st94⟩ := stI X91 hx hZ e91 Ar93 (j := (30 : Int32)) hin93 (g := (mkF m 199 #[.val (.int p0), .val (.int p1), .val (.int p2), .unset, .unset, .unset, .unset] [(.int (2147483643 : Int32)), (.int (30 : Int32)), (.ref b1), (.ref b1)])) rfl rfl (hb hby at_199)
  have V94 : Arv Z h94 b1 k1 .int (31 : Int32) [(.int (65 : Int32)), (.int (90 : Int32)), (.int (95 : Int32)), (.int (97 : Int32)), (.int (122 : Int32)), (.int (192 : Int32)), (.int (214 : Int32)), (.int (216 : Int32)), (.int (246 : Int32)), (.int (248 : Int32)), (.int (767 : Int32)), (.int (880 : Int32)), (.int (893 : Int32)), (.int (895 : Int32)), (.int (8191 : Int32)), (.int (8204 : Int32)), (.int (8205 : Int32)), (.int (8304 : Int32)), (.int (8591 : Int32)), (.int (11264 : Int32)), (.int (12271 : Int32)), (.int (12289 : Int32)), (.int (55295 : Int32)), (.int (63744 : Int32)), (.int (64975 : Int32)), (.int (65008 : Int32)), (.int (65533 : Int32)), (.int (65536 : Int32)), (.int (983039 : Int32)), (.int (0 : Int32)), (.int (2147483643 : Int32))] (.int (0 : Int32)) := Arv.set Ar93 qk93 Sz93 Nn93 Hs93 Gf93 rfl W94 30 rfl (Nat.le_of_ble_eq_true rfl)
  obtain ⟨_, X94, N94⟩ := own_hide X94 (Fr.snoc X94 N91 g_b1)
  refine own_st st94 ?_
  show own_Go _ _ _ _ T94 (mkF m 200 #[.val (.int p0), .val (.int p1), .val (.int p2), .unset, .unset, .unset, .unset] [(.ref b1)])
  refine own_st (fun t k => XS.astoreN X94.here hx rfl (hb hby at_200) rfl rfl (l' := #[.val (.int p0), .val (.int p1), .val (.int p2), .val (.ref b1), .unset, .unset, .unset]) rfl k) ?_
  show own_Go _ _ _ _ T94 (mkF m 201 #[.val (.int p0), .val (.int p1), .val (.int p2), .val (.ref b1), .unset, .unset, .unset] [])
  refine own_st (fun t k => XS.aloadN X94.here hx rfl (hb hby at_201) rfl rfl k) ?_
  show own_Go _ _ _ _ T94 (mkF m 202 #[.val (.int p0), .val (.int p1), .val (.int p2), .val (.ref b1), .unset, .unset, .unset] [(.ref b1)])
  refine own_st (fun t k => XS.iloadN X94.here hx rfl (hb hby at_202) rfl k) ?_
  show own_Go _ _ _ _ T94 (mkF m 203 #[.val (.int p0), .val (.int p1), .val (.int p2), .val (.ref b1), .unset, .unset, .unset] [(.int p1), (.ref b1)])
  refine own_st (X94.ldcInt hx hown (mvT hZ (hw _ (List.mem_of_getElem? (i := 9) rfl))) (g := (mkF m 203 #[.val (.int p0), .val (.int p1), .val (.int p2), .val (.ref b1), .unset, .unset, .unset] [(.int p1), (.ref b1)])) rfl (hb hby at_203)) ?_
  show own_Go _ _ _ _ T94 (mkF m 205 #[.val (.int p0), .val (.int p1), .val (.int p2), .val (.ref b1), .unset, .unset, .unset] [(.int (2147483647 : Int32)), (.int p1), (.ref b1)])
  refine own_st (fun t k => XS.iand X94.here hx rfl (hb hby at_205) rfl k) ?_
  show own_Go _ _ _ _ T94 (mkF m 206 #[.val (.int p0), .val (.int p1), .val (.int p2), .val (.ref b1), .unset, .unset, .unset] [(.int (p1 &&& (2147483647 : Int32))), (.ref b1)])
  refine own_st (fun t k => XS.bipush X94.here hx rfl (hb hby at_206) k) ?_
  show own_Go _ _ _ _ T94 (mkF m 208 #[.val (.int p0), .val (.int p1), .val (.int p2), .val (.ref b1), .unset, .unset, .unset] [(.int (31 : Int32)), (.int (p1 &&& (2147483647 : Int32))), (.ref b1)])
  refine own_st (fun t k => iremM X94 hx rfl (hb hby at_208) rfl (by decide) k) ?_
  show own_Go _ _ _ _ T94 (mkF m 209 #[.val (.int p0), .val (.int p1), .val (.int p2), .val (.ref b1), .unset, .unset, .unset] [(.int ((p1 &&& (2147483647 : Int32)) % (31 : Int32))), (.ref b1)])
  obtain ⟨cl95, Ar95, qk95, Sz95, Nn95, Hs95, Gf95⟩ := id V94
  have hin95 : ¬ (((p1 &&& (2147483647 : Int32)) % (31 : Int32)) < 0 ∨ cl95.slots.size ≤ (((p1 &&& (2147483647 : Int32)) % (31 : Int32))).toNatClampNeg) := inb_of Sz95 (own_idx _)
  obtain ⟨w95, hw95, hat95⟩ : ∃ w : Int32, w = [(65 : Int32), (90 : Int32), (95 : Int32), (97 : Int32), (122 : Int32), (192 : Int32), (214 : Int32), (216 : Int32), (246 : Int32), (248 : Int32), (767 : Int32), (880 : Int32), (893 : Int32), (895 : Int32), (8191 : Int32), (8204 : Int32), (8205 : Int32), (8304 : Int32), (8591 : Int32), (11264 : Int32), (12271 : Int32), (12289 : Int32), (55295 : Int32), (63744 : Int32), (64975 : Int32), (65008 : Int32), (65533 : Int32), (65536 : Int32), (983039 : Int32), (0 : Int32), (2147483643 : Int32)].getD (((p1 &&& (2147483647 : Int32)) % (31 : Int32))).toNatClampNeg (0 : Int32) ∧ cl95.slots[(((p1 &&& (2147483647 : Int32)) % (31 : Int32))).toNatClampNeg]? = some (.int w) := ⟨_, rfl, Has.at Hs95 hin95 (own_getD_int [(65 : Int32), (90 : Int32), (95 : Int32), (97 : Int32), (122 : Int32), (192 : Int32), (214 : Int32), (216 : Int32), (246 : Int32), (248 : Int32), (767 : Int32), (880 : Int32), (893 : Int32), (895 : Int32), (8191 : Int32), (8204 : Int32), (8205 : Int32), (8304 : Int32), (8591 : Int32), (11264 : Int32), (12271 : Int32), (12289 : Int32), (55295 : Int32), (63744 : Int32), (64975 : Int32), (65008 : Int32), (65533 : Int32), (65536 : Int32), (983039 : Int32), (0 : Int32), (2147483643 : Int32)] _)⟩
  refine own_st (X94.iaload hx (j := ((p1 &&& (2147483647 : Int32)) % (31 : Int32))) (v := (.int w95)) (by rw [e94]; exact Ar95.1) (State.isArrayOf_alike hZ.alike Ar95.2.1) Ar95.2.2 hin95 hat95 (g := (mkF m 209 #[.val (.int p0), .val (.int p1), .val (.int p2), .val (.ref b1), .unset, .unset, .unset] [(.int ((p1 &&& (2147483647 : Int32)) % (31 : Int32))), (.ref b1)])) rfl rfl (hb hby at_209)) ?_
  show own_Go _ _ _ _ T94 (mkF m 210 #[.val (.int p0), .val (.int p1), .val (.int p2), .val (.ref b1), .unset, .unset, .unset] [(.int w95)])
  refine own_st (fun t k => XS.iloadN X94.here hx rfl (hb hby at_210) rfl k) ?_
  show own_Go _ _ _ _ T94 (mkF m 211 #[.val (.int p0), .val (.int p1), .val (.int p2), .val (.ref b1), .unset, .unset, .unset] [(.int p2), (.int w95)])
  refine own_st (fun t k => XS.bipush X94.here hx rfl (hb hby at_211) k) ?_
  show own_Go _ _ _ _ T94 (mkF m 213 #[.val (.int p0), .val (.int p1), .val (.int p2), .val (.ref b1), .unset, .unset, .unset] [(.int (7 : Int32)), (.int p2), (.int w95)])
  refine own_st (fun t k => XS.iand X94.here hx rfl (hb hby at_213) rfl k) ?_
  show own_Go _ _ _ _ T94 (mkF m 214 #[.val (.int p0), .val (.int p1), .val (.int p2), .val (.ref b1), .unset, .unset, .unset] [(.int (p2 &&& (7 : Int32))), (.int w95)])
  refine own_st (fun t k => XS.iconst X94.here hx rfl (hb hby at_214) k) ?_
  show own_Go _ _ _ _ T94 (mkF m 215 #[.val (.int p0), .val (.int p1), .val (.int p2), .val (.ref b1), .unset, .unset, .unset] [(.int (3 : Int32)), (.int (p2 &&& (7 : Int32))), (.int w95)])
  refine own_st (fun t k => XS.isub X94.here hx rfl (hb hby at_215) rfl k) ?_
  show own_Go _ _ _ _ T94 (mkF m 216 #[.val (.int p0), .val (.int p1), .val (.int p2), .val (.ref b1), .unset, .unset, .unset] [(.int ((p2 &&& (7 : Int32)) - (3 : Int32))), (.int w95)])
  refine own_st (fun t k => XS.iadd X94.here hx rfl (hb hby at_216) rfl k) ?_
  show own_Go _ _ _ _ T94 (mkF m 217 #[.val (.int p0), .val (.int p1), .val (.int p2), .val (.ref b1), .unset, .unset, .unset] [(.int (w95 + ((p2 &&& (7 : Int32)) - (3 : Int32))))])
  refine own_st (fun t k => XS.istore X94.here hx rfl (hb hby at_217) rfl (l' := #[.val (.int p0), .val (.int p1), .val (.int p2), .val (.ref b1), .val (.int (w95 + ((p2 &&& (7 : Int32)) - (3 : Int32)))), .unset, .unset]) rfl k) ?_
  show own_Go _ _ _ _ T94 (mkF m 219 #[.val (.int p0), .val (.int p1), .val (.int p2), .val (.ref b1), .val (.int (w95 + ((p2 &&& (7 : Int32)) - (3 : Int32)))), .unset, .unset] [])
  refine own_st (fun t k => XS.iloadN X94.here hx rfl (hb hby at_219) rfl k) ?_
  show own_Go _ _ _ _ T94 (mkF m 220 #[.val (.int p0), .val (.int p1), .val (.int p2), .val (.ref b1), .val (.int (w95 + ((p2 &&& (7 : Int32)) - (3 : Int32)))), .unset, .unset] [(.int p0)])
  have K0_97 := (K0_92.wr W94 (Or.inr sz_b1))
  obtain ⟨_, _, ⟨T96, L96, k96, n96⟩, -, X96, ⟨Lc96, hQ96, l96, y96, z96⟩, st96⟩ := Jvm.LawKit.callS X94 hx (y := (⟨"shelfmark/Rdf", "isNameStart", "(I)Z"⟩ : MethodName)) hown (mvT hZ (hw _ (List.mem_of_getElem? (i := 10) rfl))) (mvT hZ (hw _ (List.mem_of_getElem? (i := 11) rfl))) (mvT hZ (hw _ (List.mem_of_getElem? (i := 12) rfl))) (mvT hZ (hw _ (List.mem_of_getElem? (i := 13) rfl))) (by decide) (backOf (W := 0) (rm1 l Z a0 hw [] p0  h94 n0 (Nat.le_trans Z0 K0_97.1) ) hZ (hw _ (List.mem_of_getElem? (i := 13) rfl)) (hw _ (List.mem_of_getElem? (i := 12) rfl)) (by decide) (by decide)) (g := (mkF m 220 #[.val (.int p0), .val (.int p1), .val (.int p2), .val (.ref b1), .val (.int (w95 + ((p2 &&& (7 : Int32)) - (3 : Int32)))), .unset, .unset] [(.int p0)])) rfl (by rw [hml]; rfl) (argsL := [(.int p0)]) (rest := []) (lenOf pd__28I_29Z rfl) rfl (by show 2 * 0 + _ ≤ _; exact Nat.le_of_eq rfl) (hb hby at_220) (fun _ _ => ⟨rfl, e94, (by decide : 1 + 0 ≤ _), (by decide : 31 + 0 ≤ _)⟩)
  dsimp only [Pt.U, Pt.locs, Pt.cells, Pt.slots] at X96 l96 y96 z96 st96 hQ96
  subst l96 y96 z96
  obtain ⟨rfl, N96q, e96⟩ := hQ96
  obtain ⟨_, X96, N96⟩ := own_hide X96 (Fr.app N94 N96q)
  refine own_st st96 ?_
  show own_Go _ _ _ _ T96 (mkF m 223 #[.val (.int p0), .val (.int p1), .val (.int p2), .val (.ref b1), .val (.int (w95 + ((p2 &&& (7 : Int32)) - (3 : Int32)))), .unset, .unset] [(.int (own_f1 p0))])
  refine own_st (fun t k => XS.iloadN X96.here hx rfl (hb hby at_223) rfl k) ?_
  show own_Go _ _ _ _ T96 (mkF m 224 #[.val (.int p0), .val (.int p1), .val (.int p2), .val (.ref b1), .val (.int (w95 + ((p2 &&& (7 : Int32)) - (3 : Int32)))), .unset, .unset] [(.int p0), (.int (own_f1 p0))])
  obtain ⟨_, _, ⟨T98, L98, k98, n98⟩, -, X98, ⟨Lc98, hQ98, l98, y98, z98⟩, st98⟩ := Jvm.LawKit.callS X96 hx (y := (⟨"shelfmark/RdfIsNameStartPinLaw", "excluded", "(I)Z"⟩ : MethodName)) hown (mvT hZ (hw _ (List.mem_of_getElem? (i := 17) rfl))) (mvT hZ (hw _ (List.mem_of_getElem? (i := 18) rfl))) (mvT hZ (hw _ (List.mem_of_getElem? (i := 19) rfl))) (mvT hZ (hw _ (List.mem_of_getElem? (i := 20) rfl))) (by decide) (backOf (W := 1) (rm2 l Z a0 hw [] p0  h94 n0 (Nat.le_trans Z0 K0_97.1) ) hZ (hw _ (List.mem_of_getElem? (i := 20) rfl)) (hw _ (List.mem_of_getElem? (i := 19) rfl)) (by decide) (by decide)) (g := (mkF m 224 #[.val (.int p0), .val (.int p1), .val (.int p2), .val (.ref b1), .val (.int (w95 + ((p2 &&& (7 : Int32)) - (3 : Int32)))), .unset, .unset] [(.int p0), (.int (own_f1 p0))])) rfl (by rw [hml]; rfl) (argsL := [(.int p0)]) (rest := [(.int (own_f1 p0))]) (lenOf pd__28I_29Z rfl) rfl (by show 2 * 0 + _ ≤ _; exact Nat.le_of_eq rfl) (hb hby at_224) (fun _ _ => ⟨rfl, e96, (by decide : 1 + 0 ≤ _), (by decide : 31 + 0 ≤ _)⟩)
  dsimp only [Pt.U, Pt.locs, Pt.cells, Pt.slots] at X98 l98 y98 z98 st98 hQ98
  subst l98 y98 z98
  obtain ⟨rfl, N98q, e98⟩ := hQ98
  obtain ⟨_, X98, N98⟩ := own_hide X98 (Fr.app N96 N98q)
  refine own_st st98 ?_
  show own_Go _ _ _ _ T98 (mkF m 227 #[.val (.int p0), .val (.int p1), .val (.int p2), .val (.ref b1), .val (.int (w95 + ((p2 &&& (7 : Int32)) - (3 : Int32)))), .unset, .unset] [(.int (own_f2 p0)), (.int (own_f1 p0))])
  by_cases c227_99 : (own_f2 p0) = (0 : Int32)
  ·
    refine own_st (fun t k => XS.ifNo X98.here hx rfl (hb hby at_227) rfl ((if0 _ _).trans (teq c227_99).2) k) ?_
    show own_Go _ _ _ _ T98 (mkF m 230 #[.val (.int p0), .val (.int p1), .val (.int p2), .val (.ref b1), .val (.int (w95 + ((p2 &&& (7 : Int32)) - (3 : Int32)))), .unset, .unset] [(.int (own_f1 p0))])
    refine own_st (fun t k => XS.iconst X98.here hx rfl (hb hby at_230) k) ?_
    show own_Go _ _ _ _ T98 (mkF m 231 #[.val (.int p0), .val (.int p1), .val (.int p2), .val (.ref b1), .val (.int (w95 + ((p2 &&& (7 : Int32)) - (3 : Int32)))), .unset, .unset] [(.int (1 : Int32)), (.int (own_f1 p0))])
    refine own_st (fun t k => XS.goto X98.here hx rfl (pc0 := 231) (pc' := 235) rfl (hb hby at_231) (by decide) (by decide) k) ?_
    show own_Go _ _ _ _ T98 (mkF m 235 #[.val (.int p0), .val (.int p1), .val (.int p2), .val (.ref b1), .val (.int (w95 + ((p2 &&& (7 : Int32)) - (3 : Int32)))), .unset, .unset] [(.int (1 : Int32)), (.int (own_f1 p0))])
    refine own_st (fun t k => XS.icmpNo X98.here hx rfl (hb hby at_235) rfl (teq (own_one c227_99 : (own_f1 p0) = (1 : Int32))).2 k) ?_
    show own_Go _ _ _ _ T98 (mkF m 238 #[.val (.int p0), .val (.int p1), .val (.int p2), .val (.ref b1), .val (.int (w95 + ((p2 &&& (7 : Int32)) - (3 : Int32)))), .unset, .unset] [])
    refine own_st (fun t k => XS.iconst X98.here hx rfl (hb hby at_238) k) ?_
    show own_Go _ _ _ _ T98 (mkF m 239 #[.val (.int p0), .val (.int p1), .val (.int p2), .val (.ref b1), .val (.int (w95 + ((p2 &&& (7 : Int32)) - (3 : Int32)))), .unset, .unset] [(.int (1 : Int32))])
    refine own_st (fun t k => XS.goto X98.here hx rfl (pc0 := 239) (pc' := 243) rfl (hb hby at_239) (by decide) (by decide) k) ?_
    show own_Go _ _ _ _ T98 (mkF m 243 #[.val (.int p0), .val (.int p1), .val (.int p2), .val (.ref b1), .val (.int (w95 + ((p2 &&& (7 : Int32)) - (3 : Int32)))), .unset, .unset] [(.int (1 : Int32))])
    refine own_st (fun t k => XS.istore X98.here hx rfl (hb hby at_243) rfl (l' := #[.val (.int p0), .val (.int p1), .val (.int p2), .val (.ref b1), .val (.int (w95 + ((p2 &&& (7 : Int32)) - (3 : Int32)))), .val (.int (1 : Int32)), .unset]) rfl k) ?_
    show own_Go _ _ _ _ T98 (mkF m 245 #[.val (.int p0), .val (.int p1), .val (.int p2), .val (.ref b1), .val (.int (w95 + ((p2 &&& (7 : Int32)) - (3 : Int32)))), .val (.int (1 : Int32)), .unset] [])
    refine own_st (fun t k => XS.iload X98.here hx rfl (hb hby at_245) rfl k) ?_
    show own_Go _ _ _ _ T98 (mkF m 247 #[.val (.int p0), .val (.int p1), .val (.int p2), .val (.ref b1), .val (.int (w95 + ((p2 &&& (7 : Int32)) - (3 : Int32)))), .val (.int (1 : Int32)), .unset] [(.int (w95 + ((p2 &&& (7 : Int32)) - (3 : Int32))))])
    obtain ⟨_, _, ⟨T100, L100, k100, n100⟩, -, X100, ⟨Lc100, hQ100, l100, y100, z100⟩, st100⟩ := Jvm.LawKit.callS X98 hx (y := (⟨"shelfmark/Rdf", "isNameStart", "(I)Z"⟩ : MethodName)) hown (mvT hZ (hw _ (List.mem_of_getElem? (i := 10) rfl))) (mvT hZ (hw _ (List.mem_of_getElem? (i := 11) rfl))) (mvT hZ (hw _ (List.mem_of_getElem? (i := 12) rfl))) (mvT hZ (hw _ (List.mem_of_getElem? (i := 13) rfl))) (by decide) (backOf (W := 0) (rm1 l Z a0 hw [] (w95 + ((p2 &&& (7 : Int32)) - (3 : Int32)))  h94 n0 (Nat.le_trans Z0 K0_97.1) ) hZ (hw _ (List.mem_of_getElem? (i := 13) rfl)) (hw _ (List.mem_of_getElem? (i := 12) rfl)) (by decide) (by decide)) (g := (mkF m 247 #[.val (.int p0), .val (.int p1), .val (.int p2), .val (.ref b1), .val (.int (w95 + ((p2 &&& (7 : Int32)) - (3 : Int32)))), .val (.int (1 : Int32)), .unset] [(.int (w95 + ((p2 &&& (7 : Int32)) - (3 : Int32))))])) rfl (by rw [hml]; rfl) (argsL := [(.int (w95 + ((p2 &&& (7 : Int32)) - (3 : Int32))))]) (rest := []) (lenOf pd__28I_29Z rfl) rfl (by show 2 * 0 + _ ≤ _; exact Nat.le_of_eq rfl) (hb hby at_247) (fun _ _ => ⟨rfl, e98, (by decide : 1 + 0 ≤ _), (by decide : 31 + 0 ≤ _)⟩)
    dsimp only [Pt.U, Pt.locs, Pt.cells, Pt.slots] at X100 l100 y100 z100 st100 hQ100
    subst l100 y100 z100
    obtain ⟨rfl, N100q, e100⟩ := hQ100
    obtain ⟨_, X100, N100⟩ := own_hide X100 (Fr.app N98 N100q)
    refine own_st st100 ?_
    show own_Go _ _ _ _ T100 (mkF m 250 #[.val (.int p0), .val (.int p1), .val (.int p2), .val (.ref b1), .val (.int (w95 + ((p2 &&& (7 : Int32)) - (3 : Int32)))), .val (.int (1 : Int32)), .unset] [(.int (own_f1 (w95 + ((p2 &&& (7 : Int32)) - (3 : Int32)))))])
    refine own_st (fun t k => XS.iload X100.here hx rfl (hb hby at_250) rfl k) ?_
    show own_Go _ _ _ _ T100 (mkF m 252 #[.val (.int p0), .val (.int p1), .val (.int p2), .val (.ref b1), .val (.int (w95 + ((p2 &&& (7 : Int32)) - (3 : Int32)))), .val (.int (1 : Int32)), .unset] [(.int (w95 + ((p2 &&& (7 : Int32)) - (3 : Int32)))), (.int (own_f1 (w95 + ((p2 &&& (7 : Int32)) - (3 : Int32)))))])
    obtain ⟨_, _, ⟨T101, L101, k101, n101⟩, -, X101, ⟨Lc101, hQ101, l101, y101, z101⟩, st101⟩ := Jvm.LawKit.callS X100 hx (y := (⟨"shelfmark/RdfIsNameStartPinLaw", "excluded", "(I)Z"⟩ : MethodName)) hown (mvT hZ (hw _ (List.mem_of_getElem? (i := 17) rfl))) (mvT hZ (hw _ (List.mem_of_getElem? (i := 18) rfl))) (mvT hZ (hw _ (List.mem_of_getElem? (i := 19) rfl))) (mvT hZ (hw _ (List.mem_of_getElem? (i := 20) rfl))) (by decide) (backOf (W := 1) (rm2 l Z a0 hw [] (w95 + ((p2 &&& (7 : Int32)) - (3 : Int32)))  h94 n0 (Nat.le_trans Z0 K0_97.1) ) hZ (hw _ (List.mem_of_getElem? (i := 20) rfl)) (hw _ (List.mem_of_getElem? (i := 19) rfl)) (by decide) (by decide)) (g := (mkF m 252 #[.val (.int p0), .val (.int p1), .val (.int p2), .val (.ref b1), .val (.int (w95 + ((p2 &&& (7 : Int32)) - (3 : Int32)))), .val (.int (1 : Int32)), .unset] [(.int (w95 + ((p2 &&& (7 : Int32)) - (3 : Int32)))), (.int (own_f1 (w95 + ((p2 &&& (7 : Int32)) - (3 : Int32)))))])) rfl (by rw [hml]; rfl) (argsL := [(.int (w95 + ((p2 &&& (7 : Int32)) - (3 : Int32))))]) (rest := [(.int (own_f1 (w95 + ((p2 &&& (7 : Int32)) - (3 : Int32)))))]) (lenOf pd__28I_29Z rfl) rfl (by show 2 * 0 + _ ≤ _; exact Nat.le_of_eq rfl) (hb hby at_252) (fun _ _ => ⟨rfl, e100, (by decide : 1 + 0 ≤ _), (by decide : 31 + 0 ≤ _)⟩)
    dsimp only [Pt.U, Pt.locs, Pt.cells, Pt.slots] at X101 l101 y101 z101 st101 hQ101
    subst l101 y101 z101
    obtain ⟨rfl, N101q, e101⟩ := hQ101
    obtain ⟨_, X101, N101⟩ := own_hide X101 (Fr.app N100 N101q)
    refine own_st st101 ?_
    show own_Go _ _ _ _ T101 (mkF m 255 #[.val (.int p0), .val (.int p1), .val (.int p2), .val (.ref b1), .val (.int (w95 + ((p2 &&& (7 : Int32)) - (3 : Int32)))), .val (.int (1 : Int32)), .unset] [(.int (own_f2 (w95 + ((p2 &&& (7 : Int32)) - (3 : Int32))))), (.int (own_f1 (w95 + ((p2 &&& (7 : Int32)) - (3 : Int32)))))])
    by_cases c255_102 : (own_f2 (w95 + ((p2 &&& (7 : Int32)) - (3 : Int32)))) = (0 : Int32)
    ·
      refine own_st (fun t k => XS.ifNo X101.here hx rfl (hb hby at_255) rfl ((if0 _ _).trans (teq c255_102).2) k) ?_
      show own_Go _ _ _ _ T101 (mkF m 258 #[.val (.int p0), .val (.int p1), .val (.int p2), .val (.ref b1), .val (.int (w95 + ((p2 &&& (7 : Int32)) - (3 : Int32)))), .val (.int (1 : Int32)), .unset] [(.int (own_f1 (w95 + ((p2 &&& (7 : Int32)) - (3 : Int32)))))])
      refine own_st (fun t k => XS.iconst X101.here hx rfl (hb hby at_258) k) ?_
      show own_Go _ _ _ _ T101 (mkF m 259 #[.val (.int p0), .val (.int p1), .val (.int p2), .val (.ref b1), .val (.int (w95 + ((p2 &&& (7 : Int32)) - (3 : Int32)))), .val (.int (1 : Int32)), .unset] [(.int (1 : Int32)), (.int (own_f1 (w95 + ((p2 &&& (7 : Int32)) - (3 : Int32)))))])
      refine own_st (fun t k => XS.goto X101.here hx rfl (pc0 := 259) (pc' := 263) rfl (hb hby at_259) (by decide) (by decide) k) ?_
      show own_Go _ _ _ _ T101 (mkF m 263 #[.val (.int p0), .val (.int p1), .val (.int p2), .val (.ref b1), .val (.int (w95 + ((p2 &&& (7 : Int32)) - (3 : Int32)))), .val (.int (1 : Int32)), .unset] [(.int (1 : Int32)), (.int (own_f1 (w95 + ((p2 &&& (7 : Int32)) - (3 : Int32)))))])
      refine own_st (fun t k => XS.icmpNo X101.here hx rfl (hb hby at_263) rfl (teq (own_one c255_102 : (own_f1 (w95 + ((p2 &&& (7 : Int32)) - (3 : Int32)))) = (1 : Int32))).2 k) ?_
      show own_Go _ _ _ _ T101 (mkF m 266 #[.val (.int p0), .val (.int p1), .val (.int p2), .val (.ref b1), .val (.int (w95 + ((p2 &&& (7 : Int32)) - (3 : Int32)))), .val (.int (1 : Int32)), .unset] [])
      refine own_st (fun t k => XS.iconst X101.here hx rfl (hb hby at_266) k) ?_
      show own_Go _ _ _ _ T101 (mkF m 267 #[.val (.int p0), .val (.int p1), .val (.int p2), .val (.ref b1), .val (.int (w95 + ((p2 &&& (7 : Int32)) - (3 : Int32)))), .val (.int (1 : Int32)), .unset] [(.int (1 : Int32))])
      refine own_st (fun t k => XS.goto X101.here hx rfl (pc0 := 267) (pc' := 271) rfl (hb hby at_267) (by decide) (by decide) k) ?_
      show own_Go _ _ _ _ T101 (mkF m 271 #[.val (.int p0), .val (.int p1), .val (.int p2), .val (.ref b1), .val (.int (w95 + ((p2 &&& (7 : Int32)) - (3 : Int32)))), .val (.int (1 : Int32)), .unset] [(.int (1 : Int32))])
      refine own_st (fun t k => XS.istore X101.here hx rfl (hb hby at_271) rfl (l' := #[.val (.int p0), .val (.int p1), .val (.int p2), .val (.ref b1), .val (.int (w95 + ((p2 &&& (7 : Int32)) - (3 : Int32)))), .val (.int (1 : Int32)), .val (.int (1 : Int32))]) rfl k) ?_
      show own_Go _ _ _ _ T101 (mkF m 273 #[.val (.int p0), .val (.int p1), .val (.int p2), .val (.ref b1), .val (.int (w95 + ((p2 &&& (7 : Int32)) - (3 : Int32)))), .val (.int (1 : Int32)), .val (.int (1 : Int32))] [])
      refine own_st (fun t k => XS.iload X101.here hx rfl (hb hby at_273) rfl k) ?_
      show own_Go _ _ _ _ T101 (mkF m 275 #[.val (.int p0), .val (.int p1), .val (.int p2), .val (.ref b1), .val (.int (w95 + ((p2 &&& (7 : Int32)) - (3 : Int32)))), .val (.int (1 : Int32)), .val (.int (1 : Int32))] [(.int (1 : Int32))])
      refine own_st (fun t k => XS.ifNo X101.here hx rfl (hb hby at_275) rfl ((if0 _ _).trans (feq (by decide : ¬ ((1 : Int32) = (0 : Int32)))).1) k) ?_
      show own_Go _ _ _ _ T101 (mkF m 278 #[.val (.int p0), .val (.int p1), .val (.int p2), .val (.ref b1), .val (.int (w95 + ((p2 &&& (7 : Int32)) - (3 : Int32)))), .val (.int (1 : Int32)), .val (.int (1 : Int32))] [])
      refine own_st (fun t k => XS.iload X101.here hx rfl (hb hby at_278) rfl k) ?_
      show own_Go _ _ _ _ T101 (mkF m 280 #[.val (.int p0), .val (.int p1), .val (.int p2), .val (.ref b1), .val (.int (w95 + ((p2 &&& (7 : Int32)) - (3 : Int32)))), .val (.int (1 : Int32)), .val (.int (1 : Int32))] [(.int (1 : Int32))])
      refine own_st (fun t k => XS.ifNo X101.here hx rfl (hb hby at_280) rfl ((if0 _ _).trans (feq (by decide : ¬ ((1 : Int32) = (0 : Int32)))).1) k) ?_
      show own_Go _ _ _ _ T101 (mkF m 283 #[.val (.int p0), .val (.int p1), .val (.int p2), .val (.ref b1), .val (.int (w95 + ((p2 &&& (7 : Int32)) - (3 : Int32)))), .val (.int (1 : Int32)), .val (.int (1 : Int32))] [])
      refine own_st (fun t k => XS.iconst X101.here hx rfl (hb hby at_283) k) ?_
      show own_Go _ _ _ _ T101 (mkF m 284 #[.val (.int p0), .val (.int p1), .val (.int p2), .val (.ref b1), .val (.int (w95 + ((p2 &&& (7 : Int32)) - (3 : Int32)))), .val (.int (1 : Int32)), .val (.int (1 : Int32))] [(.int (1 : Int32))])
      refine own_st (fun t k => XS.goto X101.here hx rfl (pc0 := 284) (pc' := 288) rfl (hb hby at_284) (by decide) (by decide) k) ?_
      show own_Go _ _ _ _ T101 (mkF m 288 #[.val (.int p0), .val (.int p1), .val (.int p2), .val (.ref b1), .val (.int (w95 + ((p2 &&& (7 : Int32)) - (3 : Int32)))), .val (.int (1 : Int32)), .val (.int (1 : Int32))] [(.int (1 : Int32))])
      exact own_retN X101 hx hlk (t := .boolean) hrt (by simp) (hb hby at_288) ⟨rfl, N101⟩ (by decide) (by decide)
    ·
      refine own_st (fun t k => XS.ifYes X101.here hx rfl (pc0 := 255) (pc' := 262) rfl (hb hby at_255) rfl ((if0 _ _).trans (feq c255_102).2) (by decide) (by decide) k) ?_
      show own_Go _ _ _ _ T101 (mkF m 262 #[.val (.int p0), .val (.int p1), .val (.int p2), .val (.ref b1), .val (.int (w95 + ((p2 &&& (7 : Int32)) - (3 : Int32)))), .val (.int (1 : Int32)), .unset] [(.int (own_f1 (w95 + ((p2 &&& (7 : Int32)) - (3 : Int32)))))])
      refine own_st (fun t k => XS.iconst X101.here hx rfl (hb hby at_262) k) ?_
      show own_Go _ _ _ _ T101 (mkF m 263 #[.val (.int p0), .val (.int p1), .val (.int p2), .val (.ref b1), .val (.int (w95 + ((p2 &&& (7 : Int32)) - (3 : Int32)))), .val (.int (1 : Int32)), .unset] [(.int (0 : Int32)), (.int (own_f1 (w95 + ((p2 &&& (7 : Int32)) - (3 : Int32)))))])
      refine own_st (fun t k => XS.icmpNo X101.here hx rfl (hb hby at_263) rfl (teq (own_zero c255_102 : (own_f1 (w95 + ((p2 &&& (7 : Int32)) - (3 : Int32)))) = (0 : Int32))).2 k) ?_
      show own_Go _ _ _ _ T101 (mkF m 266 #[.val (.int p0), .val (.int p1), .val (.int p2), .val (.ref b1), .val (.int (w95 + ((p2 &&& (7 : Int32)) - (3 : Int32)))), .val (.int (1 : Int32)), .unset] [])
      refine own_st (fun t k => XS.iconst X101.here hx rfl (hb hby at_266) k) ?_
      show own_Go _ _ _ _ T101 (mkF m 267 #[.val (.int p0), .val (.int p1), .val (.int p2), .val (.ref b1), .val (.int (w95 + ((p2 &&& (7 : Int32)) - (3 : Int32)))), .val (.int (1 : Int32)), .unset] [(.int (1 : Int32))])
      refine own_st (fun t k => XS.goto X101.here hx rfl (pc0 := 267) (pc' := 271) rfl (hb hby at_267) (by decide) (by decide) k) ?_
      show own_Go _ _ _ _ T101 (mkF m 271 #[.val (.int p0), .val (.int p1), .val (.int p2), .val (.ref b1), .val (.int (w95 + ((p2 &&& (7 : Int32)) - (3 : Int32)))), .val (.int (1 : Int32)), .unset] [(.int (1 : Int32))])
      refine own_st (fun t k => XS.istore X101.here hx rfl (hb hby at_271) rfl (l' := #[.val (.int p0), .val (.int p1), .val (.int p2), .val (.ref b1), .val (.int (w95 + ((p2 &&& (7 : Int32)) - (3 : Int32)))), .val (.int (1 : Int32)), .val (.int (1 : Int32))]) rfl k) ?_
      show own_Go _ _ _ _ T101 (mkF m 273 #[.val (.int p0), .val (.int p1), .val (.int p2), .val (.ref b1), .val (.int (w95 + ((p2 &&& (7 : Int32)) - (3 : Int32)))), .val (.int (1 : Int32)), .val (.int (1 : Int32))] [])
      refine own_st (fun t k => XS.iload X101.here hx rfl (hb hby at_273) rfl k) ?_
      show own_Go _ _ _ _ T101 (mkF m 275 #[.val (.int p0), .val (.int p1), .val (.int p2), .val (.ref b1), .val (.int (w95 + ((p2 &&& (7 : Int32)) - (3 : Int32)))), .val (.int (1 : Int32)), .val (.int (1 : Int32))] [(.int (1 : Int32))])
      refine own_st (fun t k => XS.ifNo X101.here hx rfl (hb hby at_275) rfl ((if0 _ _).trans (feq (by decide : ¬ ((1 : Int32) = (0 : Int32)))).1) k) ?_
      show own_Go _ _ _ _ T101 (mkF m 278 #[.val (.int p0), .val (.int p1), .val (.int p2), .val (.ref b1), .val (.int (w95 + ((p2 &&& (7 : Int32)) - (3 : Int32)))), .val (.int (1 : Int32)), .val (.int (1 : Int32))] [])
      refine own_st (fun t k => XS.iload X101.here hx rfl (hb hby at_278) rfl k) ?_
      show own_Go _ _ _ _ T101 (mkF m 280 #[.val (.int p0), .val (.int p1), .val (.int p2), .val (.ref b1), .val (.int (w95 + ((p2 &&& (7 : Int32)) - (3 : Int32)))), .val (.int (1 : Int32)), .val (.int (1 : Int32))] [(.int (1 : Int32))])
      refine own_st (fun t k => XS.ifNo X101.here hx rfl (hb hby at_280) rfl ((if0 _ _).trans (feq (by decide : ¬ ((1 : Int32) = (0 : Int32)))).1) k) ?_
      show own_Go _ _ _ _ T101 (mkF m 283 #[.val (.int p0), .val (.int p1), .val (.int p2), .val (.ref b1), .val (.int (w95 + ((p2 &&& (7 : Int32)) - (3 : Int32)))), .val (.int (1 : Int32)), .val (.int (1 : Int32))] [])
      refine own_st (fun t k => XS.iconst X101.here hx rfl (hb hby at_283) k) ?_
      show own_Go _ _ _ _ T101 (mkF m 284 #[.val (.int p0), .val (.int p1), .val (.int p2), .val (.ref b1), .val (.int (w95 + ((p2 &&& (7 : Int32)) - (3 : Int32)))), .val (.int (1 : Int32)), .val (.int (1 : Int32))] [(.int (1 : Int32))])
      refine own_st (fun t k => XS.goto X101.here hx rfl (pc0 := 284) (pc' := 288) rfl (hb hby at_284) (by decide) (by decide) k) ?_
      show own_Go _ _ _ _ T101 (mkF m 288 #[.val (.int p0), .val (.int p1), .val (.int p2), .val (.ref b1), .val (.int (w95 + ((p2 &&& (7 : Int32)) - (3 : Int32)))), .val (.int (1 : Int32)), .val (.int (1 : Int32))] [(.int (1 : Int32))])
      exact own_retN X101 hx hlk (t := .boolean) hrt (by simp) (hb hby at_288) ⟨rfl, N101⟩ (by decide) (by decide)
  ·
    refine own_st (fun t k => XS.ifYes X98.here hx rfl (pc0 := 227) (pc' := 234) rfl (hb hby at_227) rfl ((if0 _ _).trans (feq c227_99).2) (by decide) (by decide) k) ?_
    show own_Go _ _ _ _ T98 (mkF m 234 #[.val (.int p0), .val (.int p1), .val (.int p2), .val (.ref b1), .val (.int (w95 + ((p2 &&& (7 : Int32)) - (3 : Int32)))), .unset, .unset] [(.int (own_f1 p0))])
    refine own_st (fun t k => XS.iconst X98.here hx rfl (hb hby at_234) k) ?_
    show own_Go _ _ _ _ T98 (mkF m 235 #[.val (.int p0), .val (.int p1), .val (.int p2), .val (.ref b1), .val (.int (w95 + ((p2 &&& (7 : Int32)) - (3 : Int32)))), .unset, .unset] [(.int (0 : Int32)), (.int (own_f1 p0))])
    refine own_st (fun t k => XS.icmpNo X98.here hx rfl (hb hby at_235) rfl (teq (own_zero c227_99 : (own_f1 p0) = (0 : Int32))).2 k) ?_
    show own_Go _ _ _ _ T98 (mkF m 238 #[.val (.int p0), .val (.int p1), .val (.int p2), .val (.ref b1), .val (.int (w95 + ((p2 &&& (7 : Int32)) - (3 : Int32)))), .unset, .unset] [])
    refine own_st (fun t k => XS.iconst X98.here hx rfl (hb hby at_238) k) ?_
    show own_Go _ _ _ _ T98 (mkF m 239 #[.val (.int p0), .val (.int p1), .val (.int p2), .val (.ref b1), .val (.int (w95 + ((p2 &&& (7 : Int32)) - (3 : Int32)))), .unset, .unset] [(.int (1 : Int32))])
    refine own_st (fun t k => XS.goto X98.here hx rfl (pc0 := 239) (pc' := 243) rfl (hb hby at_239) (by decide) (by decide) k) ?_
    show own_Go _ _ _ _ T98 (mkF m 243 #[.val (.int p0), .val (.int p1), .val (.int p2), .val (.ref b1), .val (.int (w95 + ((p2 &&& (7 : Int32)) - (3 : Int32)))), .unset, .unset] [(.int (1 : Int32))])
    refine own_st (fun t k => XS.istore X98.here hx rfl (hb hby at_243) rfl (l' := #[.val (.int p0), .val (.int p1), .val (.int p2), .val (.ref b1), .val (.int (w95 + ((p2 &&& (7 : Int32)) - (3 : Int32)))), .val (.int (1 : Int32)), .unset]) rfl k) ?_
    show own_Go _ _ _ _ T98 (mkF m 245 #[.val (.int p0), .val (.int p1), .val (.int p2), .val (.ref b1), .val (.int (w95 + ((p2 &&& (7 : Int32)) - (3 : Int32)))), .val (.int (1 : Int32)), .unset] [])
    refine own_st (fun t k => XS.iload X98.here hx rfl (hb hby at_245) rfl k) ?_
    show own_Go _ _ _ _ T98 (mkF m 247 #[.val (.int p0), .val (.int p1), .val (.int p2), .val (.ref b1), .val (.int (w95 + ((p2 &&& (7 : Int32)) - (3 : Int32)))), .val (.int (1 : Int32)), .unset] [(.int (w95 + ((p2 &&& (7 : Int32)) - (3 : Int32))))])
    obtain ⟨_, _, ⟨T103, L103, k103, n103⟩, -, X103, ⟨Lc103, hQ103, l103, y103, z103⟩, st103⟩ := Jvm.LawKit.callS X98 hx (y := (⟨"shelfmark/Rdf", "isNameStart", "(I)Z"⟩ : MethodName)) hown (mvT hZ (hw _ (List.mem_of_getElem? (i := 10) rfl))) (mvT hZ (hw _ (List.mem_of_getElem? (i := 11) rfl))) (mvT hZ (hw _ (List.mem_of_getElem? (i := 12) rfl))) (mvT hZ (hw _ (List.mem_of_getElem? (i := 13) rfl))) (by decide) (backOf (W := 0) (rm1 l Z a0 hw [] (w95 + ((p2 &&& (7 : Int32)) - (3 : Int32)))  h94 n0 (Nat.le_trans Z0 K0_97.1) ) hZ (hw _ (List.mem_of_getElem? (i := 13) rfl)) (hw _ (List.mem_of_getElem? (i := 12) rfl)) (by decide) (by decide)) (g := (mkF m 247 #[.val (.int p0), .val (.int p1), .val (.int p2), .val (.ref b1), .val (.int (w95 + ((p2 &&& (7 : Int32)) - (3 : Int32)))), .val (.int (1 : Int32)), .unset] [(.int (w95 + ((p2 &&& (7 : Int32)) - (3 : Int32))))])) rfl (by rw [hml]; rfl) (argsL := [(.int (w95 + ((p2 &&& (7 : Int32)) - (3 : Int32))))]) (rest := []) (lenOf pd__28I_29Z rfl) rfl (by show 2 * 0 + _ ≤ _; exact Nat.le_of_eq rfl) (hb hby at_247) (fun _ _ => ⟨rfl, e98, (by decide : 1 + 0 ≤ _), (by decide : 31 + 0 ≤ _)⟩)
    dsimp only [Pt.U, Pt.locs, Pt.cells, Pt.slots] at X103 l103 y103 z103 st103 hQ103
    subst l103 y103 z103
    obtain ⟨rfl, N103q, e103⟩ := hQ103
    obtain ⟨_, X103, N103⟩ := own_hide X103 (Fr.app N98 N103q)
    refine own_st st103 ?_
    show own_Go _ _ _ _ T103 (mkF m 250 #[.val (.int p0), .val (.int p1), .val (.int p2), .val (.ref b1), .val (.int (w95 + ((p2 &&& (7 : Int32)) - (3 : Int32)))), .val (.int (1 : Int32)), .unset] [(.int (own_f1 (w95 + ((p2 &&& (7 : Int32)) - (3 : Int32)))))])
    refine own_st (fun t k => XS.iload X103.here hx rfl (hb hby at_250) rfl k) ?_
    show own_Go _ _ _ _ T103 (mkF m 252 #[.val (.int p0), .val (.int p1), .val (.int p2), .val (.ref b1), .val (.int (w95 + ((p2 &&& (7 : Int32)) - (3 : Int32)))), .val (.int (1 : Int32)), .unset] [(.int (w95 + ((p2 &&& (7 : Int32)) - (3 : Int32)))), (.int (own_f1 (w95 + ((p2 &&& (7 : Int32)) - (3 : Int32)))))])
    obtain ⟨_, _, ⟨T104, L104, k104, n104⟩, -, X104, ⟨Lc104, hQ104, l104, y104, z104⟩, st104⟩ := Jvm.LawKit.callS X103 hx (y := (⟨"shelfmark/RdfIsNameStartPinLaw", "excluded", "(I)Z"⟩ : MethodName)) hown (mvT hZ (hw _ (List.mem_of_getElem? (i := 17) rfl))) (mvT hZ (hw _ (List.mem_of_getElem? (i := 18) rfl))) (mvT hZ (hw _ (List.mem_of_getElem? (i := 19) rfl))) (mvT hZ (hw _ (List.mem_of_getElem? (i := 20) rfl))) (by decide) (backOf (W := 1) (rm2 l Z a0 hw [] (w95 + ((p2 &&& (7 : Int32)) - (3 : Int32)))  h94 n0 (Nat.le_trans Z0 K0_97.1) ) hZ (hw _ (List.mem_of_getElem? (i := 20) rfl)) (hw _ (List.mem_of_getElem? (i := 19) rfl)) (by decide) (by decide)) (g := (mkF m 252 #[.val (.int p0), .val (.int p1), .val (.int p2), .val (.ref b1), .val (.int (w95 + ((p2 &&& (7 : Int32)) - (3 : Int32)))), .val (.int (1 : Int32)), .unset] [(.int (w95 + ((p2 &&& (7 : Int32)) - (3 : Int32)))), (.int (own_f1 (w95 + ((p2 &&& (7 : Int32)) - (3 : Int32)))))])) rfl (by rw [hml]; rfl) (argsL := [(.int (w95 + ((p2 &&& (7 : Int32)) - (3 : Int32))))]) (rest := [(.int (own_f1 (w95 + ((p2 &&& (7 : Int32)) - (3 : Int32)))))]) (lenOf pd__28I_29Z rfl) rfl (by show 2 * 0 + _ ≤ _; exact Nat.le_of_eq rfl) (hb hby at_252) (fun _ _ => ⟨rfl, e103, (by decide : 1 + 0 ≤ _), (by decide : 31 + 0 ≤ _)⟩)
    dsimp only [Pt.U, Pt.locs, Pt.cells, Pt.slots] at X104 l104 y104 z104 st104 hQ104
    subst l104 y104 z104
    obtain ⟨rfl, N104q, e104⟩ := hQ104
    obtain ⟨_, X104, N104⟩ := own_hide X104 (Fr.app N103 N104q)
    refine own_st st104 ?_
    show own_Go _ _ _ _ T104 (mkF m 255 #[.val (.int p0), .val (.int p1), .val (.int p2), .val (.ref b1), .val (.int (w95 + ((p2 &&& (7 : Int32)) - (3 : Int32)))), .val (.int (1 : Int32)), .unset] [(.int (own_f2 (w95 + ((p2 &&& (7 : Int32)) - (3 : Int32))))), (.int (own_f1 (w95 + ((p2 &&& (7 : Int32)) - (3 : Int32)))))])
    by_cases c255_105 : (own_f2 (w95 + ((p2 &&& (7 : Int32)) - (3 : Int32)))) = (0 : Int32)
    ·
      refine own_st (fun t k => XS.ifNo X104.here hx rfl (hb hby at_255) rfl ((if0 _ _).trans (teq c255_105).2) k) ?_
      show own_Go _ _ _ _ T104 (mkF m 258 #[.val (.int p0), .val (.int p1), .val (.int p2), .val (.ref b1), .val (.int (w95 + ((p2 &&& (7 : Int32)) - (3 : Int32)))), .val (.int (1 : Int32)), .unset] [(.int (own_f1 (w95 + ((p2 &&& (7 : Int32)) - (3 : Int32)))))])
      refine own_st (fun t k => XS.iconst X104.here hx rfl (hb hby at_258) k) ?_
      show own_Go _ _ _ _ T104 (mkF m 259 #[.val (.int p0), .val (.int p1), .val (.int p2), .val (.ref b1), .val (.int (w95 + ((p2 &&& (7 : Int32)) - (3 : Int32)))), .val (.int (1 : Int32)), .unset] [(.int (1 : Int32)), (.int (own_f1 (w95 + ((p2 &&& (7 : Int32)) - (3 : Int32)))))])
      refine own_st (fun t k => XS.goto X104.here hx rfl (pc0 := 259) (pc' := 263) rfl (hb hby at_259) (by decide) (by decide) k) ?_
      show own_Go _ _ _ _ T104 (mkF m 263 #[.val (.int p0), .val (.int p1), .val (.int p2), .val (.ref b1), .val (.int (w95 + ((p2 &&& (7 : Int32)) - (3 : Int32)))), .val (.int (1 : Int32)), .unset] [(.int (1 : Int32)), (.int (own_f1 (w95 + ((p2 &&& (7 : Int32)) - (3 : Int32)))))])
      refine own_st (fun t k => XS.icmpNo X104.here hx rfl (hb hby at_263) rfl (teq (own_one c255_105 : (own_f1 (w95 + ((p2 &&& (7 : Int32)) - (3 : Int32)))) = (1 : Int32))).2 k) ?_
      show own_Go _ _ _ _ T104 (mkF m 266 #[.val (.int p0), .val (.int p1), .val (.int p2), .val (.ref b1), .val (.int (w95 + ((p2 &&& (7 : Int32)) - (3 : Int32)))), .val (.int (1 : Int32)), .unset] [])
      refine own_st (fun t k => XS.iconst X104.here hx rfl (hb hby at_266) k) ?_
      show own_Go _ _ _ _ T104 (mkF m 267 #[.val (.int p0), .val (.int p1), .val (.int p2), .val (.ref b1), .val (.int (w95 + ((p2 &&& (7 : Int32)) - (3 : Int32)))), .val (.int (1 : Int32)), .unset] [(.int (1 : Int32))])
      refine own_st (fun t k => XS.goto X104.here hx rfl (pc0 := 267) (pc' := 271) rfl (hb hby at_267) (by decide) (by decide) k) ?_
      show own_Go _ _ _ _ T104 (mkF m 271 #[.val (.int p0), .val (.int p1), .val (.int p2), .val (.ref b1), .val (.int (w95 + ((p2 &&& (7 : Int32)) - (3 : Int32)))), .val (.int (1 : Int32)), .unset] [(.int (1 : Int32))])
      refine own_st (fun t k => XS.istore X104.here hx rfl (hb hby at_271) rfl (l' := #[.val (.int p0), .val (.int p1), .val (.int p2), .val (.ref b1), .val (.int (w95 + ((p2 &&& (7 : Int32)) - (3 : Int32)))), .val (.int (1 : Int32)), .val (.int (1 : Int32))]) rfl k) ?_
      show own_Go _ _ _ _ T104 (mkF m 273 #[.val (.int p0), .val (.int p1), .val (.int p2), .val (.ref b1), .val (.int (w95 + ((p2 &&& (7 : Int32)) - (3 : Int32)))), .val (.int (1 : Int32)), .val (.int (1 : Int32))] [])
      refine own_st (fun t k => XS.iload X104.here hx rfl (hb hby at_273) rfl k) ?_
      show own_Go _ _ _ _ T104 (mkF m 275 #[.val (.int p0), .val (.int p1), .val (.int p2), .val (.ref b1), .val (.int (w95 + ((p2 &&& (7 : Int32)) - (3 : Int32)))), .val (.int (1 : Int32)), .val (.int (1 : Int32))] [(.int (1 : Int32))])
      refine own_st (fun t k => XS.ifNo X104.here hx rfl (hb hby at_275) rfl ((if0 _ _).trans (feq (by decide : ¬ ((1 : Int32) = (0 : Int32)))).1) k) ?_
      show own_Go _ _ _ _ T104 (mkF m 278 #[.val (.int p0), .val (.int p1), .val (.int p2), .val (.ref b1), .val (.int (w95 + ((p2 &&& (7 : Int32)) - (3 : Int32)))), .val (.int (1 : Int32)), .val (.int (1 : Int32))] [])
      refine own_st (fun t k => XS.iload X104.here hx rfl (hb hby at_278) rfl k) ?_
      show own_Go _ _ _ _ T104 (mkF m 280 #[.val (.int p0), .val (.int p1), .val (.int p2), .val (.ref b1), .val (.int (w95 + ((p2 &&& (7 : Int32)) - (3 : Int32)))), .val (.int (1 : Int32)), .val (.int (1 : Int32))] [(.int (1 : Int32))])
      refine own_st (fun t k => XS.ifNo X104.here hx rfl (hb hby at_280) rfl ((if0 _ _).trans (feq (by decide : ¬ ((1 : Int32) = (0 : Int32)))).1) k) ?_
      show own_Go _ _ _ _ T104 (mkF m 283 #[.val (.int p0), .val (.int p1), .val (.int p2), .val (.ref b1), .val (.int (w95 + ((p2 &&& (7 : Int32)) - (3 : Int32)))), .val (.int (1 : Int32)), .val (.int (1 : Int32))] [])
      refine own_st (fun t k => XS.iconst X104.here hx rfl (hb hby at_283) k) ?_
      show own_Go _ _ _ _ T104 (mkF m 284 #[.val (.int p0), .val (.int p1), .val (.int p2), .val (.ref b1), .val (.int (w95 + ((p2 &&& (7 : Int32)) - (3 : Int32)))), .val (.int (1 : Int32)), .val (.int (1 : Int32))] [(.int (1 : Int32))])
      refine own_st (fun t k => XS.goto X104.here hx rfl (pc0 := 284) (pc' := 288) rfl (hb hby at_284) (by decide) (by decide) k) ?_
      show own_Go _ _ _ _ T104 (mkF m 288 #[.val (.int p0), .val (.int p1), .val (.int p2), .val (.ref b1), .val (.int (w95 + ((p2 &&& (7 : Int32)) - (3 : Int32)))), .val (.int (1 : Int32)), .val (.int (1 : Int32))] [(.int (1 : Int32))])
      exact own_retN X104 hx hlk (t := .boolean) hrt (by simp) (hb hby at_288) ⟨rfl, N104⟩ (by decide) (by decide)
    ·
      refine own_st (fun t k => XS.ifYes X104.here hx rfl (pc0 := 255) (pc' := 262) rfl (hb hby at_255) rfl ((if0 _ _).trans (feq c255_105).2) (by decide) (by decide) k) ?_
      show own_Go _ _ _ _ T104 (mkF m 262 #[.val (.int p0), .val (.int p1), .val (.int p2), .val (.ref b1), .val (.int (w95 + ((p2 &&& (7 : Int32)) - (3 : Int32)))), .val (.int (1 : Int32)), .unset] [(.int (own_f1 (w95 + ((p2 &&& (7 : Int32)) - (3 : Int32)))))])
      refine own_st (fun t k => XS.iconst X104.here hx rfl (hb hby at_262) k) ?_
      show own_Go _ _ _ _ T104 (mkF m 263 #[.val (.int p0), .val (.int p1), .val (.int p2), .val (.ref b1), .val (.int (w95 + ((p2 &&& (7 : Int32)) - (3 : Int32)))), .val (.int (1 : Int32)), .unset] [(.int (0 : Int32)), (.int (own_f1 (w95 + ((p2 &&& (7 : Int32)) - (3 : Int32)))))])
      refine own_st (fun t k => XS.icmpNo X104.here hx rfl (hb hby at_263) rfl (teq (own_zero c255_105 : (own_f1 (w95 + ((p2 &&& (7 : Int32)) - (3 : Int32)))) = (0 : Int32))).2 k) ?_
      show own_Go _ _ _ _ T104 (mkF m 266 #[.val (.int p0), .val (.int p1), .val (.int p2), .val (.ref b1), .val (.int (w95 + ((p2 &&& (7 : Int32)) - (3 : Int32)))), .val (.int (1 : Int32)), .unset] [])
      refine own_st (fun t k => XS.iconst X104.here hx rfl (hb hby at_266) k) ?_
      show own_Go _ _ _ _ T104 (mkF m 267 #[.val (.int p0), .val (.int p1), .val (.int p2), .val (.ref b1), .val (.int (w95 + ((p2 &&& (7 : Int32)) - (3 : Int32)))), .val (.int (1 : Int32)), .unset] [(.int (1 : Int32))])
      refine own_st (fun t k => XS.goto X104.here hx rfl (pc0 := 267) (pc' := 271) rfl (hb hby at_267) (by decide) (by decide) k) ?_
      show own_Go _ _ _ _ T104 (mkF m 271 #[.val (.int p0), .val (.int p1), .val (.int p2), .val (.ref b1), .val (.int (w95 + ((p2 &&& (7 : Int32)) - (3 : Int32)))), .val (.int (1 : Int32)), .unset] [(.int (1 : Int32))])
      refine own_st (fun t k => XS.istore X104.here hx rfl (hb hby at_271) rfl (l' := #[.val (.int p0), .val (.int p1), .val (.int p2), .val (.ref b1), .val (.int (w95 + ((p2 &&& (7 : Int32)) - (3 : Int32)))), .val (.int (1 : Int32)), .val (.int (1 : Int32))]) rfl k) ?_
      show own_Go _ _ _ _ T104 (mkF m 273 #[.val (.int p0), .val (.int p1), .val (.int p2), .val (.ref b1), .val (.int (w95 + ((p2 &&& (7 : Int32)) - (3 : Int32)))), .val (.int (1 : Int32)), .val (.int (1 : Int32))] [])
      refine own_st (fun t k => XS.iload X104.here hx rfl (hb hby at_273) rfl k) ?_
      show own_Go _ _ _ _ T104 (mkF m 275 #[.val (.int p0), .val (.int p1), .val (.int p2), .val (.ref b1), .val (.int (w95 + ((p2 &&& (7 : Int32)) - (3 : Int32)))), .val (.int (1 : Int32)), .val (.int (1 : Int32))] [(.int (1 : Int32))])
      refine own_st (fun t k => XS.ifNo X104.here hx rfl (hb hby at_275) rfl ((if0 _ _).trans (feq (by decide : ¬ ((1 : Int32) = (0 : Int32)))).1) k) ?_
      show own_Go _ _ _ _ T104 (mkF m 278 #[.val (.int p0), .val (.int p1), .val (.int p2), .val (.ref b1), .val (.int (w95 + ((p2 &&& (7 : Int32)) - (3 : Int32)))), .val (.int (1 : Int32)), .val (.int (1 : Int32))] [])
      refine own_st (fun t k => XS.iload X104.here hx rfl (hb hby at_278) rfl k) ?_
      show own_Go _ _ _ _ T104 (mkF m 280 #[.val (.int p0), .val (.int p1), .val (.int p2), .val (.ref b1), .val (.int (w95 + ((p2 &&& (7 : Int32)) - (3 : Int32)))), .val (.int (1 : Int32)), .val (.int (1 : Int32))] [(.int (1 : Int32))])
      refine own_st (fun t k => XS.ifNo X104.here hx rfl (hb hby at_280) rfl ((if0 _ _).trans (feq (by decide : ¬ ((1 : Int32) = (0 : Int32)))).1) k) ?_
      show own_Go _ _ _ _ T104 (mkF m 283 #[.val (.int p0), .val (.int p1), .val (.int p2), .val (.ref b1), .val (.int (w95 + ((p2 &&& (7 : Int32)) - (3 : Int32)))), .val (.int (1 : Int32)), .val (.int (1 : Int32))] [])
      refine own_st (fun t k => XS.iconst X104.here hx rfl (hb hby at_283) k) ?_
      show own_Go _ _ _ _ T104 (mkF m 284 #[.val (.int p0), .val (.int p1), .val (.int p2), .val (.ref b1), .val (.int (w95 + ((p2 &&& (7 : Int32)) - (3 : Int32)))), .val (.int (1 : Int32)), .val (.int (1 : Int32))] [(.int (1 : Int32))])
      refine own_st (fun t k => XS.goto X104.here hx rfl (pc0 := 284) (pc' := 288) rfl (hb hby at_284) (by decide) (by decide) k) ?_
      show own_Go _ _ _ _ T104 (mkF m 288 #[.val (.int p0), .val (.int p1), .val (.int p2), .val (.ref b1), .val (.int (w95 + ((p2 &&& (7 : Int32)) - (3 : Int32)))), .val (.int (1 : Int32)), .val (.int (1 : Int32))] [(.int (1 : Int32))])
      exact own_retN X104 hx hlk (t := .boolean) hrt (by simp) (hb hby at_288) ⟨rfl, N104⟩ (by decide) (by decide)
set_option maxRecDepth 65536 in
set_option maxHeartbeats 40000000 in
theorem comes_1 {Post : Tables → Env → Array Value → State → Outcome → State → Prop} (hpost : ∀ tb e args s v u, (limb_1_1.after args s (.returned v) u = true ∧ limb_1_2.after args s (.returned v) u = true ∧ True) → FrameEnd s (.returned v) u (Jvm.fieldLocs frame_1_writes args s ++ Jvm.arrayLocs frame_1_arrays args s ++ Jvm.staticLocs frame_1_statics s) 16 128 → Post tb e args s (.returned v) u) :
    ArmFor flags0 classFile x code maxLocals ret World_1 tables_1 room_1 Calls_1 rest_1 Pre_1 Post := by
  intro l hfl _ _ p e ha hc hk s m args below hf hA hF happ hP
  obtain ⟨hcalls, hrest, hpre⟩ := hP
  obtain ⟨-, -, -, hnamed, -, -, -, hat⟩ := (Spec.applies_iff hf).mp happ
  obtain ⟨hg, hn⟩ := and_e (Cond.before_iff.mp (show (Jvm.Cond.and given_1 narrow_1).before args s = true from hpre))
  obtain ⟨gc, gr0⟩ := and_e hg
  obtain ⟨ga0, gr1⟩ := and_e gr0
  obtain ⟨ga1, gr2⟩ := and_e gr1
  obtain ⟨w0, w1, w2, rfl⟩ : ∃ w0 w1 w2 : Value, args = #[w0, w1, w2] := by
    have hs : args.size = 3 := by simpa [Cond.value, given_1] using gc
    obtain ⟨L⟩ := args
    match L, hs with
    | [w0, w1, w2], _ => exact ⟨w0, w1, w2, rfl⟩
  have hw := fun d (hd : d ∈ tables_1) => atoms_spec (ws := Jvm.Cond.code x code maxLocals ret :: tables_1) hat d (List.mem_cons_of_mem _ hd)
  have hfit : Fit s := fun {y c} hc i hi => by
    obtain ⟨ha, rfl⟩ := Array.getElem?_eq_some_iff.mp hc
    have q := List.all_eq_true.mp ((Array.all_eq_true_iff_forall_mem.mp hF) _ (Array.getElem_mem ha)) i (List.mem_range.mpr hi)
    simpa [Array.getElem?_eq_getElem hi] using q
  obtain ⟨i0, ei0⟩ := is_v ga0
  obtain rfl : w0 = (.int i0) := Option.some.inj ei0
  obtain ⟨i1, ei1⟩ := is_v ga1
  obtain rfl : w1 = (.int i1) := Option.some.inj ei1
  obtain ⟨i2, ei2⟩ := is_v gr2
  obtain rfl : w2 = (.int i2) := Option.some.inj ei2
  obtain ⟨n, o, h1, h2, h3, _, L, rfl, ⟨rfl, N⟩, hq⟩ := rm0 l s _ hw tables_1 i0 i1 i2  s.heap s.heap.size (Nat.le_refl _)  p e ha hc hk s m _ below hf ((Spec.applies_iff_loose hf).mp happ).1 ⟨rfl, State.Warmed39.refl s, rfl⟩ trivial
  refine ⟨n, _, h1, h2, h3, hpost _ _ _ _ _ _ ⟨Cond.after_iff.mpr rfl, Cond.after_iff.mpr (eq_i res_at (Term.int_eval (1)) rfl), trivial⟩ ⟨hq.1, hq.2.1, (hq.2.2.sift fun y hy => Or.inr (N y hy)).mono (by decide) (by decide)⟩⟩
theorem main_1_1 : Claimed_1_1 := comes_1 fun _ _ _ _ _ _ h hF => ⟨h.1, hF⟩
theorem main_1_2 : Claimed_1_2 := comes_1 fun _ _ _ _ _ _ h hF => ⟨h.2.1, hF⟩
end Jvm.Pilot.@@N@@
namespace Jvm.Pilot.@@N@@
open Jvm Jvm.ClassFile Sem Op Lib Jvm.Free Jvm.Stand Jvm.Pilot.@@N@@.Jvm.D
/-! MADE BY PROGRAM (witnessworld.py) out of the Statement's table words and the real class files: 9 classes; the members and pool entries that the words name. The judged class is class 1, her method 2. -/
namespace start1
open Jvm.ClassFile
def u (s : String) : CpInfo := .utf8 (stringToUtf16 s)
/-- a pool by its gaps: so many unusable entries, then the entry; so many at the end -/
def gap : Nat → List CpInfo → List CpInfo
  | 0, r => r
  | n + 1, r => .unusable :: gap n r
def poolList (es : List (Nat × CpInfo)) (last : Nat) : List CpInfo := es.foldr (fun e r => gap e.1 (e.2 :: r)) (gap last [])
def pool (es : List (Nat × CpInfo)) (last : Nat) : Array CpInfo := ⟨poolList es last⟩
def fileOf (pool : Array CpInfo) (this : Nat) (attrs : Array Attribute := #[]) (ms : Array MethodInfo := #[]) (fl : Nat := 33) (sup : Nat := 0) (ifs : Array Nat := #[]) (fds : Array FieldInfo := #[]) : ClassFile where
  minorVersion := 0
  majorVersion := 65
  constantPool := pool
  accessFlags := fl
  thisClass := this
  superClass := sup
  interfaces := ifs
  fields := fds
  methods := ms
  attributes := attrs
def plain (name : String) (sup : Option ClassId) : Class where
  name := name
  kind := .ordinary
  loader := none
  accessFlags := 33
  super := sup
  interfaces := #[]
  cf := none
  fields := #[]
  methods := #[]
  instanceTypes := #[]
  staticTypes := #[]
  resolved := #[]
  callSites := []
  init := .initialized
  statics := none
  mirror := none

def pool0 : Array CpInfo := pool [(5, u "<init>"), (0, u "()V"), (1, .class_ 10), (1, u "java/lang/Object")] 113

def k0m0 : Method := { name := "<init>", desc := "()V", sig := { parameters := [], returnType := none }, accessFlags := 1, code := none }
/-- java/lang/Object -/
def k0 : Class := { plain "java/lang/Object" none with
  accessFlags := 33
  interfaces := #[]
  cf := some (fileOf pool0 8 #[] #[{ accessFlags := 1, nameIndex := 5, descriptorIndex := 6, attributes := #[] }] 33 0 #[] #[])
  fields := #[]
  methods := #[k0m0]
  instanceTypes := #[]
  staticTypes := #[]
  resolved := Array.replicate 124 none
  statics := none }

def pool1 : Array CpInfo := pool [(2, .class_ 4), (1, u "java/lang/Object"), (0, u "<init>"), (0, u "()V"), (0, .integer 55296), (0, .integer 63743), (0, .integer 64976), (0, .integer 65007), (0, .integer 65534), (0, .integer 65535), (0, .integer 983039), (0, .integer 55295), (0, .integer 63744), (0, .integer 64975), (0, .integer 65008), (0, .integer 65533), (0, .integer 65536), (0, .integer 2147483643), (0, .integer 2147483647), (0, .methodref 23 24), (0, .class_ 25), (0, .nameAndType 26 27), (0, u "shelfmark/Rdf"), (0, u "isNameStart"), (0, u "(I)Z"), (0, .methodref 29 30), (0, .class_ 31), (0, .nameAndType 32 27), (0, u "shelfmark/RdfIsNameStartPinLaw"), (0, u "excluded"), (3, u "law"), (0, u "(III)Z")] 4

def k1m0 : Method := { name := "<init>", desc := "()V", sig := { parameters := [], returnType := none }, accessFlags := 2, code := none }
def k1c1 : Code := { maxStack := 2, maxLocals := 1, code := method_2_code, exceptionTable := #[], attributes := #[] }
def k1m1 : Method := { name := "excluded", desc := "(I)Z", sig := { parameters := [.int], returnType := some .boolean }, accessFlags := 10, code := some k1c1 }
def k1c2 : Code := { maxStack := 4, maxLocals := 7, code := code, exceptionTable := #[], attributes := #[] }
def k1m2 : Method := { name := "law", desc := "(III)Z", sig := { parameters := [.int, .int, .int], returnType := some .boolean }, accessFlags := 9, code := some k1c2 }
/-- shelfmark/RdfIsNameStartPinLaw -/
def k1 : Class := { plain "shelfmark/RdfIsNameStartPinLaw" (some 0) with
  accessFlags := 49
  interfaces := #[]
  cf := some (fileOf pool1 29 #[] #[{ accessFlags := 2, nameIndex := 5, descriptorIndex := 6, attributes := #[] }, { accessFlags := 10, nameIndex := 32, descriptorIndex := 27, attributes := #[] }, { accessFlags := 9, nameIndex := 36, descriptorIndex := 37, attributes := #[] }] 49 2 #[] #[])
  fields := #[]
  methods := #[k1m0, k1m1, k1m2]
  instanceTypes := #[]
  staticTypes := #[]
  resolved := Array.replicate 42 none
  statics := none }

def pool2 : Array CpInfo := pool [(1, .class_ 2), (0, u "shelfmark/Rdf"), (1, .class_ 6), (1, u "java/lang/Object"), (0, u "<init>"), (0, u "()V"), (2, u "PREFIXES"), (0, u "Ljava/util/List;"), (16, .class_ 30), (0, u "shelfmark/Rdf$Prefix"), (30, u "isNameStart"), (0, u "(I)Z"), (13, .integer 55295), (0, .integer 63744), (0, .integer 64975), (0, .integer 65008), (0, .integer 65533), (0, .integer 65536), (0, .integer 983039), (3, .class_ 88), (1, u "shelfmark/Rdf$Term"), (4, u "TYPE"), (0, u "Lshelfmark/Rdf$Term;"), (4, u "FIRST"), (4, u "REST"), (4, u "NIL"), (43, u "RDF"), (0, u "Ljava/lang/String;"), (1, u "XSD"), (0, u "VOID"), (0, u "DCTERMS"), (0, u "BIBO"), (0, u "FOAF"), (0, u "FRBR"), (0, u "ISBD"), (0, u "LANG_STRING"), (13, .class_ 178), (0, u "shelfmark/Rdf$Description"), (0, .class_ 180), (0, u "shelfmark/Rdf$Triple"), (0, .class_ 182), (0, u "shelfmark/Rdf$Kind")] 6

def k2m0 : Method := { name := "<init>", desc := "()V", sig := { parameters := [], returnType := none }, accessFlags := 2, code := none }
def k2c1 : Code := { maxStack := 2, maxLocals := 1, code := prog_50_method_4_code, exceptionTable := #[], attributes := #[] }
def k2m1 : Method := { name := "isNameStart", desc := "(I)Z", sig := { parameters := [.int], returnType := some .boolean }, accessFlags := 8, code := some k2c1 }
/-- shelfmark/Rdf -/
def k2 : Class := { plain "shelfmark/Rdf" (some 0) with
  accessFlags := 48
  interfaces := #[]
  cf := some (fileOf pool2 1 #[.nestMembers #[29, 177, 179, 86, 181]] #[{ accessFlags := 2, nameIndex := 7, descriptorIndex := 8, attributes := #[] }, { accessFlags := 8, nameIndex := 61, descriptorIndex := 62, attributes := #[] }] 48 4 #[] #[{ accessFlags := 24, nameIndex := 153, descriptorIndex := 154, attributes := #[] }, { accessFlags := 24, nameIndex := 156, descriptorIndex := 154, attributes := #[] }, { accessFlags := 24, nameIndex := 157, descriptorIndex := 154, attributes := #[] }, { accessFlags := 24, nameIndex := 158, descriptorIndex := 154, attributes := #[] }, { accessFlags := 24, nameIndex := 159, descriptorIndex := 154, attributes := #[] }, { accessFlags := 24, nameIndex := 160, descriptorIndex := 154, attributes := #[] }, { accessFlags := 24, nameIndex := 161, descriptorIndex := 154, attributes := #[] }, { accessFlags := 24, nameIndex := 162, descriptorIndex := 154, attributes := #[] }, { accessFlags := 24, nameIndex := 93, descriptorIndex := 94, attributes := #[] }, { accessFlags := 24, nameIndex := 99, descriptorIndex := 94, attributes := #[] }, { accessFlags := 24, nameIndex := 104, descriptorIndex := 94, attributes := #[] }, { accessFlags := 24, nameIndex := 109, descriptorIndex := 94, attributes := #[] }, { accessFlags := 24, nameIndex := 163, descriptorIndex := 154, attributes := #[] }, { accessFlags := 24, nameIndex := 11, descriptorIndex := 12, attributes := #[] }])
  fields := #[{ name := "RDF", type := (.object "java/lang/String"), accessFlags := 24, slot := 0, constantValue := 0 }, { name := "XSD", type := (.object "java/lang/String"), accessFlags := 24, slot := 1, constantValue := 0 }, { name := "VOID", type := (.object "java/lang/String"), accessFlags := 24, slot := 2, constantValue := 0 }, { name := "DCTERMS", type := (.object "java/lang/String"), accessFlags := 24, slot := 3, constantValue := 0 }, { name := "BIBO", type := (.object "java/lang/String"), accessFlags := 24, slot := 4, constantValue := 0 }, { name := "FOAF", type := (.object "java/lang/String"), accessFlags := 24, slot := 5, constantValue := 0 }, { name := "FRBR", type := (.object "java/lang/String"), accessFlags := 24, slot := 6, constantValue := 0 }, { name := "ISBD", type := (.object "java/lang/String"), accessFlags := 24, slot := 7, constantValue := 0 }, { name := "TYPE", type := (.object "shelfmark/Rdf$Term"), accessFlags := 24, slot := 8, constantValue := 0 }, { name := "FIRST", type := (.object "shelfmark/Rdf$Term"), accessFlags := 24, slot := 9, constantValue := 0 }, { name := "REST", type := (.object "shelfmark/Rdf$Term"), accessFlags := 24, slot := 10, constantValue := 0 }, { name := "NIL", type := (.object "shelfmark/Rdf$Term"), accessFlags := 24, slot := 11, constantValue := 0 }, { name := "LANG_STRING", type := (.object "java/lang/String"), accessFlags := 24, slot := 12, constantValue := 0 }, { name := "PREFIXES", type := (.object "java/util/List"), accessFlags := 24, slot := 13, constantValue := 0 }]
  methods := #[k2m0, k2m1]
  instanceTypes := #[]
  staticTypes := #[(.object "java/lang/String"), (.object "java/lang/String"), (.object "java/lang/String"), (.object "java/lang/String"), (.object "java/lang/String"), (.object "java/lang/String"), (.object "java/lang/String"), (.object "java/lang/String"), (.object "shelfmark/Rdf$Term"), (.object "shelfmark/Rdf$Term"), (.object "shelfmark/Rdf$Term"), (.object "shelfmark/Rdf$Term"), (.object "java/lang/String"), (.object "java/util/List")]
  resolved := Array.replicate 189 none
  statics := none }

def pool3 : Array CpInfo := pool [(1, u "java/lang/Cloneable"), (0, .class_ 1), (0, u "java/lang/Object"), (0, .class_ 3)] 3

/-- java/lang/Cloneable -/
def k3 : Class := { plain "java/lang/Cloneable" (some 0) with
  accessFlags := 1537
  interfaces := #[]
  cf := some (fileOf pool3 2 #[] #[] 1537 4 #[] #[])
  fields := #[]
  methods := #[]
  instanceTypes := #[]
  staticTypes := #[]
  resolved := Array.replicate 8 none
  statics := none }

def pool4 : Array CpInfo := pool [(1, u "java/io/Serializable"), (0, .class_ 1), (0, u "java/lang/Object"), (0, .class_ 3)] 3

/-- java/io/Serializable -/
def k4 : Class := { plain "java/io/Serializable" (some 0) with
  accessFlags := 1537
  interfaces := #[]
  cf := some (fileOf pool4 2 #[] #[] 1537 4 #[] #[])
  fields := #[]
  methods := #[]
  instanceTypes := #[]
  staticTypes := #[]
  resolved := Array.replicate 8 none
  statics := none }

/-- the primitive byte -/
def k5 : Class := { plain "byte" none with kind := .primitive 'B', accessFlags := 0x411 }
/-- [B -/
def k6 : Class := { plain "[B" (some 0) with kind := .array 5 .byte, interfaces := #[3, 4], accessFlags := 1041 }

/-- the primitive int -/
def k7 : Class := { plain "int" none with kind := .primitive 'I', accessFlags := 0x411 }
/-- [I -/
def k8 : Class := { plain "[I" (some 0) with kind := .array 7 .int, interfaces := #[3, 4], accessFlags := 1041 }

def heap : Heap := #[]
def classes : Array Class := #[k0, k1, k2, k3, k4, k5, k6, k7, k8]
def interned : List (Array UInt16 × Addr) := []
def slotsUsed : Nat := 0
def theMethod : MethodId := ⟨1, 2⟩
def args0 : Array Value := #[.int 5, .int 300, .int 2]
def aboutOver (below : List Frame) : State where
  vm := { classes := classes, interned := interned.toArray }
  heap := heap
  slotsUsed := slotsUsed
  threads := #[{ frames := .invoking theMethod args0 :: below }]
def below0 : List Frame := [.native { method := ⟨0, 0⟩, args := #[] }]
def about1 : State := aboutOver below0
def p0 : Program := .bare "" "" ""
def e0 : Env := launch0.env 0 0 0
theorem w_frames : about1.frames = Frame.invoking theMethod args0 :: below0 := rfl
set_option maxRecDepth 65536 in
theorem w_args : argsFit about1.vm theMethod args0 = true := by decide +kernel
set_option maxRecDepth 65536 in
theorem w_heap : heapFits about1 = true := by decide +kernel
set_option maxRecDepth 65536 in
theorem w_runnable : about1.curStatus? = some .runnable := by decide +kernel
set_option maxRecDepth 65536 in
theorem w_alone : about1.alone = true := by decide +kernel
set_option maxRecDepth 65536 in
theorem w_named : about1.methodNamed? x = some theMethod := by decide +kernel
set_option maxRecDepth 65536 in
theorem w_hears : about1.hears theMethod below0 = true := by decide +kernel
set_option maxRecDepth 65536 in
theorem w_ripe : about1.ripe theMethod args0 below0 = true := by decide +kernel
theorem w_running : about1.status = .running := rfl
set_option maxRecDepth 65536 in
theorem w_room : about1.hasRoom e0.platform room_1 = true :=
  launch0.hasRoom_least _ room_1 (by decide +kernel) (by decide +kernel) (by decide +kernel) (by decide +kernel) (by decide +kernel) (by decide +kernel)
theorem allAtoms_all (ts : List Jvm.Cond) (a : Array Jvm.Value) (st : Jvm.State) : (allAtoms ts).before a st = ts.all (fun c => c.before a st) := by
  induction ts with
  | nil => rfl
  | cons c t ih =>
    show (Jvm.Cond.and c (allAtoms t)).before a st = _
    rw [Jvm.Cond.before_and, ih, List.all_cons]
def words1 : List Jvm.Cond := Jvm.Cond.code x code maxLocals ret :: tables_1
/-- a 'code' word, met by the world's own term for the bytes: nothing is compared byte by byte -/
theorem code_word {y : MethodName} {bytes : ByteArray} {mx : Nat} {rt : Option FieldType} {a : Array Value} {s : State} {m : MethodId} {meth : Method} {c : Code} (h1 : s.methodNamed? y = some m) (h2 : s.vm.method? m = some meth) (h3 : meth.code = some c) (h4 : c.code = bytes)
    (h5 : (c.maxLocals == mx && c.exceptionTable.isEmpty && decide (c.maxStack ≤ mostOperands) && decide (meth.sig.returnType = rt) && !meth.locks && decide (parseMethodDescriptor y.desc = some meth.sig)) = true) : (Jvm.Cond.code y bytes mx rt).before a s = true := by
  simp only [Bool.and_eq_true, beq_iff_eq, Bool.not_eq_true', decide_eq_true_eq] at h5
  obtain ⟨⟨⟨⟨⟨g1, g2⟩, g3⟩, g4⟩, g5⟩, g6⟩ := h5
  simp [Cond.before, Cond.holds, Cond.value, h1, h2, h3, h4, g1, g2, g3, g4, g5, g6]
def isCode : Jvm.Cond → Bool
  | .code _ _ _ _ => true
  | _ => false
theorem all_split {L : List Jvm.Cond} {P : Jvm.Cond → Bool} (h1 : L.all (fun c => isCode c || P c) = true) (h2 : ∀ c ∈ L.filter isCode, P c = true) : L.all P = true := by
  refine List.all_eq_true.mpr fun c hc => ?_
  have h := List.all_eq_true.mp h1 c hc
  rcases Bool.eq_false_or_eq_true (isCode c) with hi | hi
  · exact h2 c (List.mem_filter.mpr ⟨hc, hi⟩)
  · simpa [hi] using h
set_option maxRecDepth 65536 in
theorem w_c0 : (Jvm.Cond.code x code maxLocals ret).before args0 about1 = true := code_word (m := ⟨1, 2⟩) (meth := k1m2) (c := k1c2) (by decide +kernel) rfl rfl rfl (by decide +kernel)
set_option maxRecDepth 65536 in
theorem w_c1 : (Jvm.Cond.code ({ cls := "shelfmark/Rdf", name := "isNameStart", desc := "(I)Z" } : Jvm.MethodName) prog_50_method_4_code (1 : Nat) (Option.some Jvm.ClassFile.FieldType.boolean)).before args0 about1 = true := code_word (m := ⟨2, 1⟩) (meth := k2m1) (c := k2c1) (by decide +kernel) rfl rfl rfl (by decide +kernel)
set_option maxRecDepth 65536 in
theorem w_c2 : (Jvm.Cond.code ({ cls := "shelfmark/RdfIsNameStartPinLaw", name := "excluded", desc := "(I)Z" } : Jvm.MethodName) method_2_code (1 : Nat) (Option.some Jvm.ClassFile.FieldType.boolean)).before args0 about1 = true := code_word (m := ⟨1, 1⟩) (meth := k1m1) (c := k1c1) (by decide +kernel) rfl rfl rfl (by decide +kernel)
def codes1 : List Jvm.Cond := [Jvm.Cond.code x code maxLocals ret, Jvm.Cond.code ({ cls := "shelfmark/Rdf", name := "isNameStart", desc := "(I)Z" } : Jvm.MethodName) prog_50_method_4_code (1 : Nat) (Option.some Jvm.ClassFile.FieldType.boolean), Jvm.Cond.code ({ cls := "shelfmark/RdfIsNameStartPinLaw", name := "excluded", desc := "(I)Z" } : Jvm.MethodName) method_2_code (1 : Nat) (Option.some Jvm.ClassFile.FieldType.boolean)]
set_option maxRecDepth 65536 in
theorem codes_eq : words1.filter isCode = codes1 := rfl
theorem w_codes : ∀ c ∈ words1.filter isCode, c.before args0 about1 = true := by
  rw [codes_eq]
  intro c hc
  simp only [codes1, List.mem_cons, List.not_mem_nil, or_false] at hc
  rcases hc with rfl | rfl | rfl
  · exact w_c0
  · exact w_c1
  · exact w_c2
set_option maxRecDepth 65536 in
theorem w_t1 : (words1.take 24).all (fun c => isCode c || c.before args0 about1) = true := by decide +kernel
set_option maxRecDepth 65536 in
theorem w_t2 : (words1.drop 24).all (fun c => isCode c || c.before args0 about1) = true := by decide +kernel
theorem w_tables : (allAtoms (Jvm.Cond.code x code maxLocals ret :: tables_1)).before args0 about1 = true := by
  rw [allAtoms_all]
  show words1.all (fun c => c.before args0 about1) = true
  refine all_split ?_ w_codes
  rw [← List.take_append_drop 24 words1, List.all_append, w_t1, w_t2]
  rfl
set_option maxRecDepth 65536 in
theorem w_case : (Jvm.Cond.and given_1 narrow_1).before args0 about1 = true := by decide +kernel
theorem w_applies : (headSpec (Jvm.Cond.code x code maxLocals ret :: tables_1) room_1).applies x e0.platform about1 = true :=
  (Spec.applies_iff w_frames).mpr ⟨w_running, w_runnable, w_alone, w_named, w_hears, w_ripe, w_room, w_tables⟩
theorem atStart : AtStart classFile x code maxLocals ret World_1 tables_1 room_1 Calls_1 rest_1 Pre_1 launch0 p0 e0 about1 theMethod args0 below0 :=
  ⟨lists_1, trivial, launch0.admits_env _ _ _, launch0.least_env, fairChoices_fair.cas, fairChoices_fair.clock, w_frames, w_args, w_heap, w_applies, trivial, trivial, w_case⟩
end start1
theorem witness_1 : WitnessClaimed_1 := ⟨start1.p0, start1.e0, start1.about1, start1.theMethod, start1.args0, start1.below0, start1.atStart⟩
end Jvm.Pilot.@@N@@
