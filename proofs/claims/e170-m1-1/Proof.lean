import JvmDerived
import JvmDerived.Pilot.@@N@@Statement
import JvmDerived.Pilot.@@N@@Code
set_option linter.unusedVariables false
set_option linter.unusedSimpArgs false
namespace Jvm.Pilot.@@N@@
open Jvm Jvm.ClassFile Sem Op Lib Jvm.Free Jvm.Stand Jvm.LawKit Jvm.RoadKit Bundle Jvm.Pilot.@@N@@.Jvm.D

section Own
variable {p : Program} {l : Launch} {e : Env} {R : Room} {s : State} {m : MethodId} {args : Array Value} {below : List Frame} {meth : Method} {c : Code} {T T' : State} {locs : List Loc} {cells slots : Nat}
/-- from the frame f over T the run comes to the method's return, with Q -/
def OwnEnds (p : Program) (e : Env) (below : List Frame) (s : State) (Q : Option Value → Heap → List Loc → Prop) (k n : Nat) (T : State) (f : JFrame) : Prop :=
  ∃ s₂ o, Steps p.tables e below (T.setTop f) s₂ ∧ s₂.status = .running ∧ Ended s₂ below o ∧ ∃ v L, o = .returned v ∧ Q v s₂.heap L ∧ FrameEnd s o s₂ L k n
theorem own_step {Q : Option Value → Heap → List Loc → Prop} {k n : Nat} {f f' : JFrame} (h : ∀ t, Steps p.tables e below (T'.setTop f') t → Steps p.tables e below (T.setTop f) t) (g : OwnEnds p e below s Q k n T' f') : OwnEnds p e below s Q k n T f := by
  obtain ⟨s2, o, h1, h2⟩ := g
  exact ⟨s2, o, h _ h1, h2⟩
theorem own_retN (X : Stand p l e R s m args below meth c T locs cells slots) (hx : p.tables.exec = Jvm.exec) (hlk : meth.locks = false) {pc : Nat} {Ls : Array Slot} {z : Int32} {t : FieldType} {rest : List Value} (hret : meth.sig.returnType = some t) (ht : t = .boolean ∨ t = .byte ∨ t = .char ∨ t = .short)
    (hd : decode c.code pc = .ok (.ireturn, 1)) {Q : Option Value → Heap → List Loc → Prop} {k n : Nat} (hk : cells ≤ k) (hn : slots ≤ n) (hQ : Q (some (.int (nar t z))) T.heap locs) : OwnEnds p e below s Q k n T (mkF m pc Ls (.int z :: rest)) := by
  obtain ⟨fs, hr, hrun, hended, hW, hsame⟩ := X.leave (v := some (.int (nar t z))) (fun h => by rw [hret] at h; cases h) hlk
  exact ⟨_, _, retN X hx hret ht hd hr, hrun, hended, _, _, rfl, hQ, ⟨_, rfl⟩, hW, hsame.mono hk hn⟩
theorem own_retO (X : Stand p l e R s m args below meth c T locs cells slots) (hx : p.tables.exec = Jvm.exec) (hlk : meth.locks = false) {pc : Nat} {Ls : Array Slot} {w : Value} {t : FieldType} {i : Instr} {rest : List Value} (hret : meth.sig.returnType = some t) (hnw : narrow t w = w)
    (hi : (i = .ireturn ∧ (t = .int ∨ t = .boolean ∨ t = .byte ∨ t = .char ∨ t = .short) ∧ ∃ z, w = .int z) ∨ (i = .lreturn ∧ t = .long ∧ ∃ z, w = .long z) ∨ (i = .dreturn ∧ t = .double ∧ ∃ z, w = .double z) ∨ (i = .freturn ∧ t = .float ∧ ∃ z, w = .float z) ∨ (i = .areturn ∧ t.isReference = true ∧ w.isRef = true))
    (hd : decode c.code pc = .ok (i, 1)) {Q : Option Value → Heap → List Loc → Prop} {k n : Nat} (hk : cells ≤ k) (hn : slots ≤ n) (hQ : Q (some w) T.heap locs) : OwnEnds p e below s Q k n T (mkF m pc Ls (w :: rest)) := by
  obtain ⟨fs, hr, hrun, hended, hW, hsame⟩ := X.leave (v := some w) (fun h => by rw [hret] at h; cases h) hlk
  exact ⟨_, _, retOut X hx hret hnw hi hd hr, hrun, hended, _, _, rfl, hQ, ⟨_, rfl⟩, hW, hsame.mono hk hn⟩
theorem own_retV (X : Stand p l e R s m args below meth c T locs cells slots) (hx : p.tables.exec = Jvm.exec) (hlk : meth.locks = false) {pc : Nat} {Ls : Array Slot} (hret : meth.sig.returnType = none)
    (hd : decode c.code pc = .ok (.return_, 1)) {Q : Option Value → Heap → List Loc → Prop} {k n : Nat} (hk : cells ≤ k) (hn : slots ≤ n) (hQ : Q none T.heap locs) : OwnEnds p e below s Q k n T (mkF m pc Ls []) := by
  obtain ⟨fs, hr, hrun, hended, hW, hsame⟩ := X.leave (v := none) (fun _ => rfl) hlk
  exact ⟨_, _, X.returnOut hx hret hd hr, hrun, hended, _, _, rfl, hQ, ⟨_, rfl⟩, hW, hsame.mono hk hn⟩
end Own
theorem own_mvM {Z s : State} {a0 args : Array Value} {own host : String} {index : Nat} {y : MethodName} (hZ : Z.Warmed39 s.vm) (w : (Jvm.Cond.methodLinkNest own index y host).before a0 Z = true) : (Jvm.Cond.methodLinkNest own index y host).before args s = true := (Cond.methodLinkNest_wide hZ w :)
theorem own_irr {x : Int32} : ¬ x < x := by rw [Int32.lt_iff_toInt_lt]; omega
theorem own_lceq {x y : Int64} (h : x = y) : ifCond.holds .eq (lcmpW x y) = true ∧ ifCond.holds .ne (lcmpW x y) = false := by
  have q : lcmpW x y = 0 := by rw [lcW]; exact (lc_eq x y).mpr h
  exact ⟨(if0 _ _).trans (teq q).1, (if0 _ _).trans (teq q).2⟩
theorem own_lcne {x y : Int64} (h : ¬ x = y) : ifCond.holds .eq (lcmpW x y) = false ∧ ifCond.holds .ne (lcmpW x y) = true := by
  have q : ¬ lcmpW x y = 0 := by rw [lcW]; exact fun z => h ((lc_eq x y).mp z)
  exact ⟨(if0 _ _).trans (feq q).1, (if0 _ _).trans (feq q).2⟩
theorem own_lclt {x y : Int64} (h : x < y) : ifCond.holds .lt (lcmpW x y) = true ∧ ifCond.holds .ge (lcmpW x y) = false ∧ ifCond.holds .gt (lcmpW y x) = true ∧ ifCond.holds .le (lcmpW y x) = false := by
  have q : lcmpW x y < 0 := by rw [lcW]; exact (lc_lt x y).mpr h
  have q' : 0 < lcmpW y x := by rw [lcW]; exact (lc_gt y x).mpr h
  exact ⟨(if0 _ _).trans (tlt q).1, (if0 _ _).trans (tlt q).2.1, (if0 _ _).trans (tlt q').2.2.1, (if0 _ _).trans (tlt q').2.2.2⟩
theorem own_lcnl {x y : Int64} (h : ¬ x < y) : ifCond.holds .lt (lcmpW x y) = false ∧ ifCond.holds .ge (lcmpW x y) = true ∧ ifCond.holds .gt (lcmpW y x) = false ∧ ifCond.holds .le (lcmpW y x) = true := by
  have q : ¬ lcmpW x y < 0 := by rw [lcW]; exact fun z => h ((lc_lt x y).mp z)
  have q' : ¬ 0 < lcmpW y x := by rw [lcW]; exact fun z => h ((lc_gt y x).mp z)
  exact ⟨(if0 _ _).trans (flt q).1, (if0 _ _).trans (flt q).2.1, (if0 _ _).trans (flt q').2.2.1, (if0 _ _).trans (flt q').2.2.2⟩
theorem own_ord {args : Array Value} {s : State} {t : Term} {a : Addr} {C n d : String} {k : Int32} (ev : t.eval args s none [] s = some (.ref a)) (h : (Jvm.Cond.eq (.field t C n d) (.int k)).value args s none s [] = some true) : s.fieldOf? a C n d = some (.int k) := by
  have h1 := fld_at (C := C) (n := n) (dd := d) ev
  obtain ⟨x, y, e1, e2, -, k2⟩ := cmp_v (Or.inl h)
  obtain rfl : y = .int k := (Option.some.inj e2).symm
  obtain ⟨z, rfl⟩ := k2
  have q : z = k := by simpa [Jvm.Cond.value, e1, e2] using h
  rw [← h1, e1, q]
theorem own_apart {s : State} {a b : Addr} {C n d : String} {k j : Int32} (h1 : s.fieldOf? a C n d = some (.int k)) (h2 : s.fieldOf? b C n d = some (.int j)) (hk : k ≠ j) : ¬ a = b := fun e => by
  subst e; rw [h1] at h2; exact hk (Value.int.inj (Option.some.inj h2))

theorem own_at {c : Cell} {vs : List Value} {d v : Value} {j : Int32} (hin : ¬ (j < 0 ∨ c.slots.size ≤ j.toNatClampNeg)) (H : Has c vs d) (i : Nat) (hj : j.toNatClampNeg = i) (hv : vs.getD i d = v) : c.slots[j.toNatClampNeg]? = some v := by
  rw [H _ (Nat.lt_of_not_le fun q => hin (Or.inr q)), hj, hv]

section OwnW
variable {p : Program} {l : Launch} {e : Env} {R : Room} {s : State} {m : MethodId} {args : Array Value} {below : List Frame} {meth : Method} {c : Code} {T T' : State} {locs : List Loc} {cells slots : Nat}
def OwnEndsW (p : Program) (e : Env) (below : List Frame) (s : State) (Q : Option Value → Heap → List Loc → Prop) (k n : Nat) (T : State) (f : JFrame) : Prop :=
  ∃ s₂ o, Steps p.tables e below (T.setTop f) s₂ ∧ s₂.status = .running ∧ Ended s₂ below o ∧ ∃ v L, o = .returned v ∧ Q v s₂.heap L ∧ ReturnedEndW s o s₂ L k n
theorem ownW_step {Q : Option Value → Heap → List Loc → Prop} {k n : Nat} {f f' : JFrame} (h : ∀ t, Steps p.tables e below (T'.setTop f') t → Steps p.tables e below (T.setTop f) t) (g : OwnEndsW p e below s Q k n T' f') : OwnEndsW p e below s Q k n T f := by
  obtain ⟨s2, o, h1, h2⟩ := g
  exact ⟨s2, o, h _ h1, h2⟩
theorem ownW_retN {vm₁ : Vm} (X : Stand p l e R (s.setVm vm₁) m args below meth c T locs cells slots) {k1 : Nat} (hS : s.Since vm₁ k1) (hk1 : k1 ≤ T.heap.size) (hx : p.tables.exec = Jvm.exec) (hlk : meth.locks = false) {pc : Nat} {Ls : Array Slot} {z : Int32} {t : FieldType} {rest : List Value} (hret : meth.sig.returnType = some t) (ht : t = .boolean ∨ t = .byte ∨ t = .char ∨ t = .short)
    (hd : decode c.code pc = .ok (.ireturn, 1)) {Q : Option Value → Heap → List Loc → Prop} {k n : Nat} (hk : cells ≤ k) (hn : slots ≤ n) (hQ : Q (some (.int (nar t z))) T.heap locs) : OwnEndsW p e below s Q k n T (mkF m pc Ls (.int z :: rest)) := by
  obtain ⟨fs, hr, hrun, hended, e1, e2, e3, e4⟩ := X.leaveW hS hk1 (v := some (.int (nar t z))) (fun h => by rw [hret] at h; cases h) hlk
  exact ⟨_, _, retN X hx hret ht hd hr, hrun, hended, _, _, rfl, hQ, e1, e2, e3, e4.mono hk hn⟩
end OwnW
theorem own_sta_keep {Z : State} {h h' : Heap} {C n d : String} {v : Value} {ws : List Addr} (F : Sta Z h C n d v) (K : Keep h h' ws) (q : ∀ b ∈ ws, ∃ D, Exa Z h b D) : Sta Z h' C n d v := by
  obtain ⟨cf, i, k, f, st, cell, h1, h2, h3, h4, h5, h6, h7⟩ := F
  refine ⟨cf, i, k, f, st, cell, h1, h2, h3, h4, K.2.1 st cell h5 fun hb => ?_, h6, h7⟩
  obtain ⟨D, cb, kb, e1, -, -, e4, -⟩ := q st hb
  cases h5.symm.trans e1
  rw [h6] at e4; cases e4
theorem own_nf {args : Array Value} {s : State} {C : String} {x z y : MethodName} (hsel : (Jvm.Cond.selects C x z).before args s = true) (hy : y.cls = z.cls) : NotFace s y := fun r0 h0 => by
  obtain ⟨c2, r2, m2, -, -, q3, -, kP, hkP, hkPi⟩ := Cond.selects_spec hsel
  have e1 := findClass_of_methodNamed h0
  have e2 := findClass_of_methodNamed q3
  rw [hy] at e1
  have e3 : r0.cls = m2.cls := Option.some.inj (e1.symm.trans e2)
  exact ⟨kP, by rw [e3]; exact hkP, hkPi⟩
theorem own_same {Z : State} {a0 : Array Value} {C : String} {x z y : MethodName} (hd : (Jvm.Cond.declares y).before a0 Z = true) (hsel : (Jvm.Cond.selects C x z).before a0 Z = true) (hy : y.cls = z.cls) (hm : y.cls ≠ "java/lang/invoke/MethodHandle" ∧ y.cls ≠ "java/lang/invoke/VarHandle") : (Jvm.Cond.sameMethod y.cls y.cls y.name y.desc).before a0 Z = true := by
  obtain ⟨m, meth, h1, -⟩ := Cond.declares_spec hd
  have hf := State.methodFound?_of_named h1 hm
  obtain ⟨kP, hk, hi⟩ := own_nf hsel hy m h1
  have hc := findClass_of_methodNamed h1
  simp [Cond.before, Cond.holds, Cond.value, hc, hf, h1, hk, hi]
theorem own_decl {Z : State} {a0 : Array Value} {y : MethodName} {bytes : ByteArray} {n : Nat} {r : Option FieldType} (hi : (Jvm.Cond.instanceMethod y).before a0 Z = true) (hc : (Jvm.Cond.code y bytes n r).before a0 Z = true) : (Jvm.Cond.declares y).before a0 Z = true := by
  obtain ⟨m, meth, h1, h2, h3, -⟩ := Cond.instanceMethod_spec hi
  obtain ⟨meth', c, g1, -, -, -, -, -, -, g8⟩ := Cond.code_spec h1 hc
  cases h2.symm.trans g1
  simp [Cond.before, Cond.holds, Cond.value, h1, h2, h3, g8]

section OwnH
variable {p : Program} {l : Launch} {e : Env} {R : Room} {s : State} {m : MethodId} {args : Array Value} {below : List Frame} {meth : Method} {c : Code} {T T' : State} {locs : List Loc} {cells slots : Nat} {Z : State} {EL : List (String × Nat)} {a0 : Array Value} {h h0 : Heap}
def OwnEndsH (Z : State) (EL : List (String × Nat)) (p : Program) (e : Env) (below : List Frame) (s : State) (Q : Option Value → Heap → List Loc → Prop) (k n : Nat) (T : State) (f : JFrame) : Prop :=
  ∃ s₂ o, Steps p.tables e below (T.setTop f) s₂ ∧ s₂.status = .running ∧ Ended s₂ below o ∧ ∃ v L, o = .returned v ∧ Q v s₂.heap L ∧ CHr Z EL s.vm s.heap s₂.vm s₂.heap ∧ ReturnedEndW s o s₂ L k n
theorem ownH_step {Q : Option Value → Heap → List Loc → Prop} {k n : Nat} {f f' : JFrame} (h : ∀ t, Steps p.tables e below (T'.setTop f') t → Steps p.tables e below (T.setTop f) t) (g : OwnEndsH Z EL p e below s Q k n T' f') : OwnEndsH Z EL p e below s Q k n T f := by
  obtain ⟨s2, o, h1, h2⟩ := g
  exact ⟨s2, o, h _ h1, h2⟩
theorem ownH_chr {vm₁ : Vm} (X : Stand p l e R (s.setVm vm₁) m args below meth c T locs cells slots) (hZ : Z.Warmed39 vm₁) (hEL : EW Z a0 EL) (hh : s.heap = h0) (eT : T.heap = h) (Cr : CHr Z EL s.vm h0 vm₁ h) (fs : List Frame) : CHr Z EL s.vm s.heap (T.setFrames fs).vm (T.setFrames fs).heap := by
  have q := Cr.trans (CHv.at X hZ hEL Cr.1)
  rw [← hh, ← eT] at q
  exact q
theorem ownH_retV {vm₁ : Vm} (X : Stand p l e R (s.setVm vm₁) m args below meth c T locs cells slots) {k1 : Nat} (hS : s.Since vm₁ k1) (hk1 : k1 ≤ T.heap.size) (hZ : Z.Warmed39 vm₁) (hEL : EW Z a0 EL) (hh : s.heap = h0) (eT : T.heap = h) (Cr : CHr Z EL s.vm h0 vm₁ h) (hx : p.tables.exec = Jvm.exec) (hlk : meth.locks = false) {pc : Nat} {Ls : Array Slot} (hret : meth.sig.returnType = none)
    (hd : decode c.code pc = .ok (.return_, 1)) {Q : Option Value → Heap → List Loc → Prop} {k n : Nat} (hk : cells ≤ k) (hn : slots ≤ n) (hQ : Q none T.heap locs) : OwnEndsH Z EL p e below s Q k n T (mkF m pc Ls []) := by
  obtain ⟨fs, hr, hrun, hended, e1, e2, e3, e4⟩ := X.leaveW hS hk1 (v := none) (fun _ => rfl) hlk
  exact ⟨_, _, X.returnOut hx hret hd hr, hrun, hended, _, _, rfl, hQ, ownH_chr X hZ hEL hh eT Cr fs, e1, e2, e3, e4.mono hk hn⟩
theorem ownH_retO {vm₁ : Vm} (X : Stand p l e R (s.setVm vm₁) m args below meth c T locs cells slots) {k1 : Nat} (hS : s.Since vm₁ k1) (hk1 : k1 ≤ T.heap.size) (hZ : Z.Warmed39 vm₁) (hEL : EW Z a0 EL) (hh : s.heap = h0) (eT : T.heap = h) (Cr : CHr Z EL s.vm h0 vm₁ h) (hx : p.tables.exec = Jvm.exec) (hlk : meth.locks = false) {pc : Nat} {Ls : Array Slot} {w : Value} {t : FieldType} {i : Instr} {rest : List Value} (hret : meth.sig.returnType = some t) (hnw : narrow t w = w)
    (hi : (i = .ireturn ∧ (t = .int ∨ t = .boolean ∨ t = .byte ∨ t = .char ∨ t = .short) ∧ ∃ z, w = .int z) ∨ (i = .lreturn ∧ t = .long ∧ ∃ z, w = .long z) ∨ (i = .dreturn ∧ t = .double ∧ ∃ z, w = .double z) ∨ (i = .freturn ∧ t = .float ∧ ∃ z, w = .float z) ∨ (i = .areturn ∧ t.isReference = true ∧ w.isRef = true))
    (hd : decode c.code pc = .ok (i, 1)) {Q : Option Value → Heap → List Loc → Prop} {k n : Nat} (hk : cells ≤ k) (hn : slots ≤ n) (hQ : Q (some w) T.heap locs) : OwnEndsH Z EL p e below s Q k n T (mkF m pc Ls (w :: rest)) := by
  obtain ⟨fs, hr, hrun, hended, e1, e2, e3, e4⟩ := X.leaveW hS hk1 (v := some w) (fun h => by rw [hret] at h; cases h) hlk
  exact ⟨_, _, retOut X hx hret hnw hi hd hr, hrun, hended, _, _, rfl, hQ, ownH_chr X hZ hEL hh eT Cr fs, e1, e2, e3, e4.mono hk hn⟩
end OwnH

theorem own_w {Z : State} {a0 : Array Value} (hw : ∀ d ∈ tables_1, d.before a0 Z = true) (i : Nat) {d : Jvm.Cond} (h : tables_1[i]? = some d) : d.before a0 Z = true := hw _ (List.mem_of_getElem? h)
def ownEL : List (String × Nat) := [("java/lang/String", 7)]
def OwnStr (Z : State) (h : Heap) (r b : Addr) (k : ClassId) (n : Int32) (vs : List Value) : Prop := Exa Z h r "java/lang/String" ∧ Fld Z h r "java/lang/String" "coder" "B" (.int (0 : Int32)) ∧ Fld Z h r "java/lang/String" "value" "[B" (.ref b) ∧ Arv Z h b k .byte n vs (.int (0 : Int32)) ∧ Exa Z h b "[B"

def QI (r : Int32) (h0 : Heap) (n0 : Nat) (v : Option Value) (h : Heap) (L : List Loc) : Prop := v = some (.int r) ∧ Fr n0 L ∧ h = h0
theorem d16_0 : decode method_3_code 0 = .ok (.iload_n 0, 1) := by decide +kernel
theorem d16_1 : decode method_3_code 1 = .ok (.bipush 32, 2) := by decide +kernel
theorem d16_3 : decode method_3_code 3 = .ok (.if_icmp .eq 9, 3) := by decide +kernel
theorem d16_6 : decode method_3_code 6 = .ok (.iload_n 0, 1) := by decide +kernel
theorem d16_7 : decode method_3_code 7 = .ok (.bipush 9, 2) := by decide +kernel
theorem d16_9 : decode method_3_code 9 = .ok (.if_icmp .ne 7, 3) := by decide +kernel
theorem d16_12 : decode method_3_code 12 = .ok (.iconst 1, 1) := by decide +kernel
theorem d16_13 : decode method_3_code 13 = .ok (.goto 4, 3) := by decide +kernel
theorem d16_16 : decode method_3_code 16 = .ok (.iconst 0, 1) := by decide +kernel
theorem d16_17 : decode method_3_code 17 = .ok (.ireturn, 1) := by decide +kernel
theorem pn_16 : plainName "com/example/lit2/lit2/input/LineBeginsSectionPinLaw" = true := by first | (simp [plainName, overriddenIn]; done) | decide +kernel
theorem ef_rm16 (m : MethodId) (x0 : Int32) : entryFrame m #[(.int x0)] 1 = mkF m 0 #[.val (.int x0)] [] := by first | (simp [entryFrame, mkF, argsToLocals, Value.category]; done) | rfl
def own_bl (p1 : Int32) : Int32 := (if p1 = (32 : Int32) then (1 : Int32) else (if p1 = (9 : Int32) then (1 : Int32) else (0 : Int32)))
set_option maxRecDepth 65536 in
set_option maxHeartbeats 40000000 in
theorem rm16 (l : Launch) (Z : State) (a0 : Array Value) (hw : ∀ d ∈ tables_1, d.before a0 Z = true) (ws : List Jvm.Cond) (p1 : Int32) (h0 : Heap) (n0 : Nat) (Z0 : n0 ≤ h0.size)  :
    MetFree l (⟨"com/example/lit2/lit2/input/LineBeginsSectionPinLaw", "blank", "(C)Z"⟩ : MethodName) (head1 (Jvm.Cond.code (⟨"com/example/lit2/lit2/input/LineBeginsSectionPinLaw", "blank", "(C)Z"⟩ : MethodName) method_3_code 1 (some .boolean) :: ws) ({ frames := 0, cells := 0, slots := 0, locals := 0 } : Room)) (fun a U => a = #[(.int p1)] ∧ Z.Warmed39 U.vm ∧ U.heap = h0) (fun _ _ _ _ _ => True) (fun _ U o U' => ∃ v L, o = .returned v ∧ QI (own_bl p1) h0 n0 v U'.heap L ∧ FrameEnd U o U' L ({ frames := 0, cells := 0, slots := 0, locals := 0 } : Room).cells ({ frames := 0, cells := 0, slots := 0, locals := 0 } : Room).slots) := by
  refine MetFree.of_bodySF (plainFor_of_name pn_16) hisR ?_
  intro p e s m args below meth c s₁ Bd hml0 hP hK
  obtain ⟨rfl, hZ, hh⟩ := hP
  have hx := Bd.exec
  have hby := Bd.bytes
  have hlk : meth.locks = false := BodyLoose.notSynchronized Bd
  have hml : c.maxLocals = 1 := hml0
  have hown : s.vm.findClass "com/example/lit2/lit2/input/LineBeginsSectionPinLaw" = some m.cls := findClass_of_methodNamed Bd.named
  have hnm := (name_of_methodNamed Bd.named Bd.method).1
  have X0 : Stand p l e ({ frames := 0, cells := 0, slots := 0, locals := 0 } : Room) s m #[(.int p1)] below meth c s₁ [] 0 0 := Stand.of_body Bd
  have e0 : s₁.heap = h0 := by rw [← hh, Bd.state]; rfl
  have N0 := Fr.nil n0
  show OwnEnds p e below s (QI (own_bl p1) h0 n0) ({ frames := 0, cells := 0, slots := 0, locals := 0 } : Room).cells ({ frames := 0, cells := 0, slots := 0, locals := 0 } : Room).slots s₁ (entryFrame m #[(.int p1)] 1)
  refine own_step (T' := s₁) (f' := (mkF m 0 #[.val (.int p1)] [])) (fun t k => castTop (ef_rm16 m p1) k) ?_
  refine own_step (T' := s₁) (f' := (mkF m 1 #[.val (.int p1)] [(.int p1)])) (fun t k => XS.iloadN X0.here hx rfl (hb hby d16_0) rfl k) ?_
  refine own_step (T' := s₁) (f' := (mkF m 3 #[.val (.int p1)] [(.int (32 : Int32)), (.int p1)])) (fun t k => XS.bipush X0.here hx rfl (hb hby d16_1) k) ?_
  by_cases hc3_1 : p1 = (32 : Int32)
  · skip
    refine own_step (T' := s₁) (f' := (mkF m 12 #[.val (.int p1)] [])) (fun t k => XS.icmpYes X0.here hx rfl (pc0 := 3) (pc' := 12) rfl (hb hby d16_3) rfl (teq hc3_1).1 (by decide) (by decide) k) ?_
    refine own_step (T' := s₁) (f' := (mkF m 13 #[.val (.int p1)] [(.int (1 : Int32))])) (fun t k => XS.iconst X0.here hx rfl (hb hby d16_12) k) ?_
    refine own_step (T' := s₁) (f' := (mkF m 17 #[.val (.int p1)] [(.int (1 : Int32))])) (fun t k => XS.goto X0.here hx rfl (pc0 := 13) (pc' := 17) rfl (hb hby d16_13) (by decide) (by decide) k) ?_
    exact own_retN X0 hx hlk (t := .boolean) Bd.returns (by simp) (hb hby d16_17) (by decide) (by decide) ⟨by unfold own_bl; rw [if_pos hc3_1]; try rfl, N0, e0⟩
  · skip
    refine own_step (T' := s₁) (f' := (mkF m 6 #[.val (.int p1)] [])) (fun t k => XS.icmpNo X0.here hx rfl (hb hby d16_3) rfl (feq hc3_1).1 k) ?_
    refine own_step (T' := s₁) (f' := (mkF m 7 #[.val (.int p1)] [(.int p1)])) (fun t k => XS.iloadN X0.here hx rfl (hb hby d16_6) rfl k) ?_
    refine own_step (T' := s₁) (f' := (mkF m 9 #[.val (.int p1)] [(.int (9 : Int32)), (.int p1)])) (fun t k => XS.bipush X0.here hx rfl (hb hby d16_7) k) ?_
    by_cases hc9_2 : p1 = (9 : Int32)
    · skip
      refine own_step (T' := s₁) (f' := (mkF m 12 #[.val (.int p1)] [])) (fun t k => XS.icmpNo X0.here hx rfl (hb hby d16_9) rfl (teq hc9_2).2 k) ?_
      refine own_step (T' := s₁) (f' := (mkF m 13 #[.val (.int p1)] [(.int (1 : Int32))])) (fun t k => XS.iconst X0.here hx rfl (hb hby d16_12) k) ?_
      refine own_step (T' := s₁) (f' := (mkF m 17 #[.val (.int p1)] [(.int (1 : Int32))])) (fun t k => XS.goto X0.here hx rfl (pc0 := 13) (pc' := 17) rfl (hb hby d16_13) (by decide) (by decide) k) ?_
      exact own_retN X0 hx hlk (t := .boolean) Bd.returns (by simp) (hb hby d16_17) (by decide) (by decide) ⟨by unfold own_bl; rw [if_neg hc3_1, if_pos hc9_2]; try rfl, N0, e0⟩
    · skip
      refine own_step (T' := s₁) (f' := (mkF m 16 #[.val (.int p1)] [])) (fun t k => XS.icmpYes X0.here hx rfl (pc0 := 9) (pc' := 16) rfl (hb hby d16_9) rfl (feq hc9_2).2 (by decide) (by decide) k) ?_
      refine own_step (T' := s₁) (f' := (mkF m 17 #[.val (.int p1)] [(.int (0 : Int32))])) (fun t k => XS.iconst X0.here hx rfl (hb hby d16_16) k) ?_
      exact own_retN X0 hx hlk (t := .boolean) Bd.returns (by simp) (hb hby d16_17) (by decide) (by decide) ⟨by unfold own_bl; rw [if_neg hc3_1, if_neg hc9_2]; try rfl, N0, e0⟩

theorem d17_0 : decode method_4_code 0 = .ok (.iload_n 0, 1) := by decide +kernel
theorem d17_1 : decode method_4_code 1 = .ok (.bipush 32, 2) := by decide +kernel
theorem d17_3 : decode method_4_code 3 = .ok (.if_icmp .eq 15, 3) := by decide +kernel
theorem d17_6 : decode method_4_code 6 = .ok (.iload_n 0, 1) := by decide +kernel
theorem d17_7 : decode method_4_code 7 = .ok (.bipush 9, 2) := by decide +kernel
theorem d17_9 : decode method_4_code 9 = .ok (.if_icmp .eq 9, 3) := by decide +kernel
theorem d17_12 : decode method_4_code 12 = .ok (.iload_n 0, 1) := by decide +kernel
theorem d17_13 : decode method_4_code 13 = .ok (.bipush 42, 2) := by decide +kernel
theorem d17_15 : decode method_4_code 15 = .ok (.if_icmp .ne 7, 3) := by decide +kernel
theorem d17_18 : decode method_4_code 18 = .ok (.iconst 1, 1) := by decide +kernel
theorem d17_19 : decode method_4_code 19 = .ok (.goto 4, 3) := by decide +kernel
theorem d17_22 : decode method_4_code 22 = .ok (.iconst 0, 1) := by decide +kernel
theorem d17_23 : decode method_4_code 23 = .ok (.ireturn, 1) := by decide +kernel
theorem pn_17 : plainName "com/example/lit2/lit2/input/LineBeginsSectionPinLaw" = true := by first | (simp [plainName, overriddenIn]; done) | decide +kernel
theorem ef_rm17 (m : MethodId) (x0 : Int32) : entryFrame m #[(.int x0)] 1 = mkF m 0 #[.val (.int x0)] [] := by first | (simp [entryFrame, mkF, argsToLocals, Value.category]; done) | rfl
def own_fo (p1 : Int32) : Int32 := (if p1 = (32 : Int32) then (1 : Int32) else (if p1 = (9 : Int32) then (1 : Int32) else (if p1 = (42 : Int32) then (1 : Int32) else (0 : Int32))))
set_option maxRecDepth 65536 in
set_option maxHeartbeats 40000000 in
theorem rm17 (l : Launch) (Z : State) (a0 : Array Value) (hw : ∀ d ∈ tables_1, d.before a0 Z = true) (ws : List Jvm.Cond) (p1 : Int32) (h0 : Heap) (n0 : Nat) (Z0 : n0 ≤ h0.size)  :
    MetFree l (⟨"com/example/lit2/lit2/input/LineBeginsSectionPinLaw", "follows", "(C)Z"⟩ : MethodName) (head1 (Jvm.Cond.code (⟨"com/example/lit2/lit2/input/LineBeginsSectionPinLaw", "follows", "(C)Z"⟩ : MethodName) method_4_code 1 (some .boolean) :: ws) ({ frames := 0, cells := 0, slots := 0, locals := 0 } : Room)) (fun a U => a = #[(.int p1)] ∧ Z.Warmed39 U.vm ∧ U.heap = h0) (fun _ _ _ _ _ => True) (fun _ U o U' => ∃ v L, o = .returned v ∧ QI (own_fo p1) h0 n0 v U'.heap L ∧ FrameEnd U o U' L ({ frames := 0, cells := 0, slots := 0, locals := 0 } : Room).cells ({ frames := 0, cells := 0, slots := 0, locals := 0 } : Room).slots) := by
  refine MetFree.of_bodySF (plainFor_of_name pn_17) hisR ?_
  intro p e s m args below meth c s₁ Bd hml0 hP hK
  obtain ⟨rfl, hZ, hh⟩ := hP
  have hx := Bd.exec
  have hby := Bd.bytes
  have hlk : meth.locks = false := BodyLoose.notSynchronized Bd
  have hml : c.maxLocals = 1 := hml0
  have hown : s.vm.findClass "com/example/lit2/lit2/input/LineBeginsSectionPinLaw" = some m.cls := findClass_of_methodNamed Bd.named
  have hnm := (name_of_methodNamed Bd.named Bd.method).1
  have X0 : Stand p l e ({ frames := 0, cells := 0, slots := 0, locals := 0 } : Room) s m #[(.int p1)] below meth c s₁ [] 0 0 := Stand.of_body Bd
  have e0 : s₁.heap = h0 := by rw [← hh, Bd.state]; rfl
  have N0 := Fr.nil n0
  show OwnEnds p e below s (QI (own_fo p1) h0 n0) ({ frames := 0, cells := 0, slots := 0, locals := 0 } : Room).cells ({ frames := 0, cells := 0, slots := 0, locals := 0 } : Room).slots s₁ (entryFrame m #[(.int p1)] 1)
  refine own_step (T' := s₁) (f' := (mkF m 0 #[.val (.int p1)] [])) (fun t k => castTop (ef_rm17 m p1) k) ?_
  refine own_step (T' := s₁) (f' := (mkF m 1 #[.val (.int p1)] [(.int p1)])) (fun t k => XS.iloadN X0.here hx rfl (hb hby d17_0) rfl k) ?_
  refine own_step (T' := s₁) (f' := (mkF m 3 #[.val (.int p1)] [(.int (32 : Int32)), (.int p1)])) (fun t k => XS.bipush X0.here hx rfl (hb hby d17_1) k) ?_
  by_cases hc3_1 : p1 = (32 : Int32)
  · skip
    refine own_step (T' := s₁) (f' := (mkF m 18 #[.val (.int p1)] [])) (fun t k => XS.icmpYes X0.here hx rfl (pc0 := 3) (pc' := 18) rfl (hb hby d17_3) rfl (teq hc3_1).1 (by decide) (by decide) k) ?_
    refine own_step (T' := s₁) (f' := (mkF m 19 #[.val (.int p1)] [(.int (1 : Int32))])) (fun t k => XS.iconst X0.here hx rfl (hb hby d17_18) k) ?_
    refine own_step (T' := s₁) (f' := (mkF m 23 #[.val (.int p1)] [(.int (1 : Int32))])) (fun t k => XS.goto X0.here hx rfl (pc0 := 19) (pc' := 23) rfl (hb hby d17_19) (by decide) (by decide) k) ?_
    exact own_retN X0 hx hlk (t := .boolean) Bd.returns (by simp) (hb hby d17_23) (by decide) (by decide) ⟨by unfold own_fo; rw [if_pos hc3_1]; try rfl, N0, e0⟩
  · skip
    refine own_step (T' := s₁) (f' := (mkF m 6 #[.val (.int p1)] [])) (fun t k => XS.icmpNo X0.here hx rfl (hb hby d17_3) rfl (feq hc3_1).1 k) ?_
    refine own_step (T' := s₁) (f' := (mkF m 7 #[.val (.int p1)] [(.int p1)])) (fun t k => XS.iloadN X0.here hx rfl (hb hby d17_6) rfl k) ?_
    refine own_step (T' := s₁) (f' := (mkF m 9 #[.val (.int p1)] [(.int (9 : Int32)), (.int p1)])) (fun t k => XS.bipush X0.here hx rfl (hb hby d17_7) k) ?_
    by_cases hc9_2 : p1 = (9 : Int32)
    · skip
      refine own_step (T' := s₁) (f' := (mkF m 18 #[.val (.int p1)] [])) (fun t k => XS.icmpYes X0.here hx rfl (pc0 := 9) (pc' := 18) rfl (hb hby d17_9) rfl (teq hc9_2).1 (by decide) (by decide) k) ?_
      refine own_step (T' := s₁) (f' := (mkF m 19 #[.val (.int p1)] [(.int (1 : Int32))])) (fun t k => XS.iconst X0.here hx rfl (hb hby d17_18) k) ?_
      refine own_step (T' := s₁) (f' := (mkF m 23 #[.val (.int p1)] [(.int (1 : Int32))])) (fun t k => XS.goto X0.here hx rfl (pc0 := 19) (pc' := 23) rfl (hb hby d17_19) (by decide) (by decide) k) ?_
      exact own_retN X0 hx hlk (t := .boolean) Bd.returns (by simp) (hb hby d17_23) (by decide) (by decide) ⟨by unfold own_fo; rw [if_neg hc3_1, if_pos hc9_2]; try rfl, N0, e0⟩
    · skip
      refine own_step (T' := s₁) (f' := (mkF m 12 #[.val (.int p1)] [])) (fun t k => XS.icmpNo X0.here hx rfl (hb hby d17_9) rfl (feq hc9_2).1 k) ?_
      refine own_step (T' := s₁) (f' := (mkF m 13 #[.val (.int p1)] [(.int p1)])) (fun t k => XS.iloadN X0.here hx rfl (hb hby d17_12) rfl k) ?_
      refine own_step (T' := s₁) (f' := (mkF m 15 #[.val (.int p1)] [(.int (42 : Int32)), (.int p1)])) (fun t k => XS.bipush X0.here hx rfl (hb hby d17_13) k) ?_
      by_cases hc15_3 : p1 = (42 : Int32)
      · skip
        refine own_step (T' := s₁) (f' := (mkF m 18 #[.val (.int p1)] [])) (fun t k => XS.icmpNo X0.here hx rfl (hb hby d17_15) rfl (teq hc15_3).2 k) ?_
        refine own_step (T' := s₁) (f' := (mkF m 19 #[.val (.int p1)] [(.int (1 : Int32))])) (fun t k => XS.iconst X0.here hx rfl (hb hby d17_18) k) ?_
        refine own_step (T' := s₁) (f' := (mkF m 23 #[.val (.int p1)] [(.int (1 : Int32))])) (fun t k => XS.goto X0.here hx rfl (pc0 := 19) (pc' := 23) rfl (hb hby d17_19) (by decide) (by decide) k) ?_
        exact own_retN X0 hx hlk (t := .boolean) Bd.returns (by simp) (hb hby d17_23) (by decide) (by decide) ⟨by unfold own_fo; rw [if_neg hc3_1, if_neg hc9_2, if_pos hc15_3]; try rfl, N0, e0⟩
      · skip
        refine own_step (T' := s₁) (f' := (mkF m 22 #[.val (.int p1)] [])) (fun t k => XS.icmpYes X0.here hx rfl (pc0 := 15) (pc' := 22) rfl (hb hby d17_15) rfl (feq hc15_3).2 (by decide) (by decide) k) ?_
        refine own_step (T' := s₁) (f' := (mkF m 23 #[.val (.int p1)] [(.int (0 : Int32))])) (fun t k => XS.iconst X0.here hx rfl (hb hby d17_22) k) ?_
        exact own_retN X0 hx hlk (t := .boolean) Bd.returns (by simp) (hb hby d17_23) (by decide) (by decide) ⟨by unfold own_fo; rw [if_neg hc3_1, if_neg hc9_2, if_neg hc15_3]; try rfl, N0, e0⟩

/-! the plain law: chars, bytes, and where a section begins -/
def OwnC (c : Int32) : Prop := 0 ≤ c.toInt ∧ c.toInt ≤ 255
def own_sb (c : Int32) : Int32 := nar .byte (c.toInt8.toInt32)
theorem own_fin256 {c : Int32} (h : OwnC c) : ∃ n : Fin 256, c = Int32.ofNat n.val := by
  obtain ⟨h1, h2⟩ := h
  obtain ⟨n, hn⟩ : ∃ n : Nat, c.toInt = n := ⟨c.toInt.toNat, (Int.toNat_of_nonneg h1).symm⟩
  refine ⟨⟨n, by omega⟩, ?_⟩
  apply Int32.toInt_inj.mp
  rw [hn, Int32.toInt_ofNat_of_lt (by omega)]
theorem own_all : ∀ n : Fin 256, nar .char (Int32.ofNat n.val) = Int32.ofNat n.val ∧ (¬ (255 : Int32) < Int32.ofNat n.val) ∧ (own_sb (Int32.ofNat n.val) = 32 ↔ Int32.ofNat n.val = 32) ∧ (own_sb (Int32.ofNat n.val) = 9 ↔ Int32.ofNat n.val = 9) ∧ (own_sb (Int32.ofNat n.val) = 64 ↔ Int32.ofNat n.val = 64) ∧ (own_sb (Int32.ofNat n.val) = 42 ↔ Int32.ofNat n.val = 42) ∧ (Int32.ofNat n.val).toUInt32.toUInt16.toUInt32.toInt32 = Int32.ofNat n.val := by decide +kernel
theorem own_nc {c : Int32} (h : OwnC c) : nar .char c = c := by obtain ⟨n, rfl⟩ := own_fin256 h; exact (own_all n).1
theorem own_c255 {c : Int32} (h : OwnC c) : ¬ (255 : Int32) < c := by obtain ⟨n, rfl⟩ := own_fin256 h; exact (own_all n).2.1
theorem own_sb32 {c : Int32} (h : OwnC c) : own_sb c = 32 ↔ c = 32 := by obtain ⟨n, rfl⟩ := own_fin256 h; exact (own_all n).2.2.1
theorem own_sb9 {c : Int32} (h : OwnC c) : own_sb c = 9 ↔ c = 9 := by obtain ⟨n, rfl⟩ := own_fin256 h; exact (own_all n).2.2.2.1
theorem own_sb64 {c : Int32} (h : OwnC c) : own_sb c = 64 ↔ c = 64 := by obtain ⟨n, rfl⟩ := own_fin256 h; exact (own_all n).2.2.2.2.1
theorem own_sb42 {c : Int32} (h : OwnC c) : own_sb c = 42 ↔ c = 42 := by obtain ⟨n, rfl⟩ := own_fin256 h; exact (own_all n).2.2.2.2.2.1
theorem own_i2c {c : Int32} (h : OwnC c) : c.toUInt32.toUInt16.toUInt32.toInt32 = c := by obtain ⟨n, rfl⟩ := own_fin256 h; exact (own_all n).2.2.2.2.2.2
theorem own_and255 (x : Int32) : OwnC (x &&& (255 : Int32)) := by
  have e : (x &&& 255).toBitVec.toNat = x.toBitVec.toNat &&& 255 := by rw [Int32.toBitVec_and, BitVec.toNat_and]; rfl
  have hle : (x &&& 255).toBitVec.toNat ≤ 255 := by rw [e]; exact Nat.and_le_right
  have e1 : (x &&& 255).toInt = ((x &&& 255).toBitVec.toNat : Int) := by
    show (x &&& 255).toBitVec.toInt = _
    rw [BitVec.toInt_eq_toNat_cond]; split <;> omega
  unfold OwnC; rw [e1]; omega
theorem own_pickc (x : Int32) : OwnC (nar .char ((x &&& (255 : Int32)).toUInt32.toUInt16.toUInt32.toInt32)) := by rw [own_i2c (own_and255 x), own_nc (own_and255 x)]; exact own_and255 x
theorem own_mod5 (x : Int32) : ((x &&& (2147483647 : Int32)) % (5 : Int32)) = 0 ∨ ((x &&& (2147483647 : Int32)) % (5 : Int32)) = 1 ∨ ((x &&& (2147483647 : Int32)) % (5 : Int32)) = 2 ∨ ((x &&& (2147483647 : Int32)) % (5 : Int32)) = 3 ∨ ((x &&& (2147483647 : Int32)) % (5 : Int32)) = 4 := by
  have e : (x &&& 2147483647).toBitVec.toNat = x.toBitVec.toNat &&& 2147483647 := by rw [Int32.toBitVec_and, BitVec.toNat_and]; rfl
  have hle : (x &&& 2147483647).toBitVec.toNat ≤ 2147483647 := by rw [e]; exact Nat.and_le_right
  have hp : 0 ≤ (x &&& 2147483647).toInt := by
    show 0 ≤ (x &&& 2147483647).toBitVec.toInt
    rw [BitVec.toInt_eq_toNat_cond]; split <;> omega
  have e5 : ((5 : Int32)).toInt = 5 := rfl
  have h1 := Int.tmod_nonneg (5 : Int) hp
  have h2 := Int.tmod_lt_of_pos (x &&& 2147483647).toInt (show (0 : Int) < 5 by omega)
  have em : ((x &&& (2147483647 : Int32)) % (5 : Int32)).toInt = (x &&& 2147483647).toInt.tmod 5 := by rw [Int32.toInt_mod, e5]
  rw [← em] at h1 h2
  generalize (x &&& 2147483647) % 5 = y at h1 h2
  have z : ∀ k : Int32, y.toInt = k.toInt → y = k := fun k q => Int32.toInt_inj.mp q
  have z0 : ((0 : Int32)).toInt = 0 := rfl
  have z1 : ((1 : Int32)).toInt = 1 := rfl
  have z2 : ((2 : Int32)).toInt = 2 := rfl
  have z3 : ((3 : Int32)).toInt = 3 := rfl
  have z4 : ((4 : Int32)).toInt = 4 := rfl
  have : y.toInt = 0 ∨ y.toInt = 1 ∨ y.toInt = 2 ∨ y.toInt = 3 ∨ y.toInt = 4 := by omega
  rcases this with q | q | q | q | q
  · exact Or.inl (z 0 (by rw [q, z0]))
  · exact Or.inr (Or.inl (z 1 (by rw [q, z1])))
  · exact Or.inr (Or.inr (Or.inl (z 2 (by rw [q, z2]))))
  · exact Or.inr (Or.inr (Or.inr (Or.inl (z 3 (by rw [q, z3])))))
  · exact Or.inr (Or.inr (Or.inr (Or.inr (z 4 (by rw [q, z4])))))
def own_nx : List Int32 → Int32
  | [] => 1
  | z :: _ => if z = 32 then 1 else if z = 9 then 1 else if z = 42 then 1 else 0
def own_bs : List Int32 → Int32
  | [] => 0
  | y :: r => if y = 32 then own_bs r else if y = 9 then own_bs r else if y = 64 then own_nx r else 0
theorem own_bs32 {y : Int32} {r : List Int32} (h : y = 32) : own_bs (y :: r) = own_bs r := by rw [own_bs, if_pos h]
theorem own_bs9 {y : Int32} {r : List Int32} (h : y = 9) : own_bs (y :: r) = own_bs r := by subst h; rfl
theorem own_bs64 {y : Int32} {r : List Int32} (h : y = 64) : own_bs (y :: r) = own_nx r := by subst h; rfl
theorem own_bsN {y : Int32} {r : List Int32} (h : ¬ y = 32) (h2 : ¬ y = 9) (h3 : ¬ y = 64) : own_bs (y :: r) = 0 := by rw [own_bs, if_neg h, if_neg h2, if_neg h3]
theorem own_nx32 {y : Int32} {r : List Int32} (h : y = 32) : own_nx (y :: r) = 1 := by rw [own_nx, if_pos h]
theorem own_nx9 {y : Int32} {r : List Int32} (h : y = 9) : own_nx (y :: r) = 1 := by subst h; rfl
theorem own_nx42 {y : Int32} {r : List Int32} (h : y = 42) : own_nx (y :: r) = 1 := by subst h; rfl
theorem own_nxN {y : Int32} {r : List Int32} (h : ¬ y = 32) (h2 : ¬ y = 9) (h3 : ¬ y = 42) : own_nx (y :: r) = 0 := by rw [own_nx, if_neg h, if_neg h2, if_neg h3]
theorem own_skip {c : Int32} {r : List Int32} (hC : OwnC c) (h : ¬ own_bl c = 0) : own_bs (own_sb c :: r) = own_bs r := by
  unfold own_bl at h
  by_cases a : c = 32
  · exact own_bs32 ((own_sb32 hC).mpr a)
  · by_cases b : c = 9
    · exact own_bs9 ((own_sb9 hC).mpr b)
    · rw [if_neg a, if_neg b] at h; exact absurd rfl h
theorem own_stopN {c : Int32} {r : List Int32} (hC : OwnC c) (h : own_bl c = 0) (h3 : ¬ c = 64) : own_bs (own_sb c :: r) = 0 := by
  unfold own_bl at h
  have a : ¬ c = 32 := fun a => by rw [if_pos a] at h; exact absurd h (by decide)
  have b : ¬ c = 9 := fun b => by rw [if_neg a, if_pos b] at h; exact absurd h (by decide)
  exact own_bsN (fun q => a ((own_sb32 hC).mp q)) (fun q => b ((own_sb9 hC).mp q)) (fun q => h3 ((own_sb64 hC).mp q))
theorem own_stopY {c : Int32} {r : List Int32} (hC : OwnC c) (h3 : c = 64) : own_bs (own_sb c :: r) = own_nx r := own_bs64 ((own_sb64 hC).mpr h3)
theorem own_nxf {c : Int32} {r : List Int32} (hC : OwnC c) : own_nx (own_sb c :: r) = own_fo c := by
  unfold own_fo
  by_cases a : c = 32
  · rw [if_pos a]; exact own_nx32 ((own_sb32 hC).mpr a)
  · by_cases b : c = 9
    · rw [if_neg a, if_pos b]; exact own_nx9 ((own_sb9 hC).mpr b)
    · by_cases d : c = 42
      · rw [if_neg a, if_neg b, if_pos d]; exact own_nx42 ((own_sb42 hC).mpr d)
      · rw [if_neg a, if_neg b, if_neg d]; exact own_nxN (fun q => a ((own_sb32 hC).mp q)) (fun q => b ((own_sb9 hC).mp q)) (fun q => d ((own_sb42 hC).mp q))
theorem own_cs {s : State} {args : Array Value} {cs : Int32} (hcw : (Jvm.Cond.not (.eq (.static "java/lang/String" "COMPACT_STRINGS" "Z") (.int 0))).before args s = true) (ecs : (Term.static "java/lang/String" "COMPACT_STRINGS" "Z").eval args s none [] s = some (.int cs)) : ¬ cs = (0 : Int32) := fun q => by
  have u := not_v (Cond.before_iff.mp hcw)
  have w := eq_i ecs (Term.int_eval 0) (by rw [q])
  rw [w] at u; cases u
/-- a literal's array is exactly a byte[] -/
theorem own_litB {Z s : State} {a0 : Array Value} {EL : List (String × Nat)} {own text : String} {index : Nat} {vm : Vm} {h : Heap} {cO : ClassId} {a b : Addr} (hW : Z.Warmed39 vm) (hf : vm.findClass own = some cO) (w : (Jvm.Cond.stringLink own index text).before a0 Z = true) (hmem : (own, index) ∈ EL) (hC : CHv Z EL vm h) (hL : Lit (s.setVm vm) own index a)
    (F : Fld Z h a "java/lang/String" "value" "[B" (.ref b)) : Exa Z h b "[B" := by
  have hal : Z.vm.Alike vm := hW.alike
  have w2 : (Jvm.Cond.stringLink own index text).before a0 (Wst Z vm h) = true := mvS (s := { Z with heap := h }) hW w
  obtain ⟨k0', cf, i, units, hkx, hcf, hp, hu, -, htext, -⟩ := Cond.stringLink_spec (s := Wst Z vm h) hf w2
  have hres : k0'.resolved[index]? = some (some (.string a)) := by
    have q : (s.setVm vm).resolvedAt? own index = some (.string a) := hL
    have hf' : vm.findClass own = some cO := hf
    have hk' : vm.classes[cO]? = some k0' := hkx
    simp [State.resolvedAt?, hf', hk'] at q
    cases hr : k0'.resolved[index]? with
    | none => rw [hr] at q; cases q
    | some o => rw [hr] at q; cases o with
      | none => cases q
      | some r => simpa using q
  obtain ⟨q, hqa, G⟩ := SlB.of (hC _ hmem units a ⟨cO, k0', cf, i, hf, hkx, hcf, hp, hu, Or.inl hres⟩)
  subst hqa
  obtain ⟨cS, ⟨⟨s1, -, -, ⟨cv, kv, ivv, s4, -⟩, -, -, -, s8, -, s10, s11, -⟩, -⟩, -, hB, -⟩ := G
  obtain ⟨cell, cf1, k1, i1, f, f1, f2, -, -, -, -, f7⟩ := F
  cases (show h[q.sa]? = some q.sC from s1).symm.trans f1
  obtain ⟨kv', z4⟩ := ff_back (U := Wst Z vm h) hal s4
  have z5 := f2.symm.trans z4
  simp only [Option.some.injEq, Prod.mk.injEq] at z5
  rw [← z5.2.2.2, f7] at s8
  cases s8
  have hB' : vm.findClass "[B" = some q.SA.cls := hB
  have hBZ : Z.vm.findClass "[B" = some q.SA.cls := by rw [← hal.findClass]; exact hB'
  obtain ⟨kb, hkb, -⟩ := Vm.findClass_spec hBZ
  obtain ⟨kb', hkb', ekb⟩ := hal.2.2 _ _ hkb
  obtain ⟨hst, k9, hk9, comp, hkind9⟩ := s11
  have hk9' : vm.classes[q.SA.cls]? = some k9 := hk9
  have ek9 : k9 = kb' := Option.some.inj (hk9'.symm.trans hkb')
  have hkZ : kb.kind = .array comp .byte := by rw [ek9, ekb] at hkind9; exact hkind9
  have hst' : q.SA.vm.isStatics = false := by cases hv : q.SA.vm <;> first | rfl | exact absurd hv (hst _)
  exact ⟨q.SA, kb, s10, hBZ, hkb, hst', fun ho => by rw [hkZ] at ho; cases ho⟩

/-- a String under construction is no booked one: its value is null -/
theorem own_safe {Z : State} {EL : List (String × Nat)} {vm : Vm} {h : Heap} {x : Addr} (hal : Z.vm.Alike vm) (E : Exa Z h x "java/lang/String") (F : Fld Z h x "java/lang/String" "value" "[B" .null) : Safe Z EL vm h x := fun B => by
  obtain ⟨p, -, u, a, -, q, -, G, rfl | rfl⟩ := B
  · obtain ⟨cell, cf, k, i, f, f1, f2, -, -, -, -, f7⟩ := F
    cases (show h[q.sa]? = some q.sC from G.ha).symm.trans f1
    obtain ⟨cS, ⟨⟨-, -, -, ⟨cv, kv, ivv, s4, -⟩, -, -, -, s8, -⟩, -⟩, -⟩ := G
    obtain ⟨kv', z4⟩ := ff_back (U := Wst Z vm h) hal s4
    have z5 := f2.symm.trans z4
    simp only [Option.some.injEq, Prod.mk.injEq] at z5
    rw [← z5.2.2.2, f7] at s8
    cases s8
  · obtain ⟨cell, k, e1, e2, e3, -, -⟩ := E
    cases (show h[q.sd]? = some q.SA from G.hd).symm.trans e1
    obtain ⟨cS, -, -, f, -⟩ := G
    have f' : vm.findClass "[B" = some q.SA.cls := f
    rw [hal.findClass] at f'
    obtain ⟨k1, q1, q2⟩ := Vm.findClass_spec f'
    obtain ⟨k2, q3, q4⟩ := Vm.findClass_spec e2
    cases q1.symm.trans q3
    have := q2.symm.trans q4
    exact absurd this (by decide)

def Q1 (h0 : Heap) (n0 : Nat) (v : Option Value) (h : Heap) (L : List Loc) : Prop := ∃ c : Int32, v = some (.int c) ∧ Fr n0 L ∧ h = h0 ∧ OwnC c
theorem d1_0 : decode method_2_code 0 = .ok (.iload_n 0, 1) := by decide +kernel
theorem d1_1 : decode method_2_code 1 = .ok (.bipush 7, 2) := by decide +kernel
theorem d1_3 : decode method_2_code 3 = .ok (.iand, 1) := by decide +kernel
theorem d1_4 : decode method_2_code 4 = .ok (.istore_n 1, 1) := by decide +kernel
theorem d1_5 : decode method_2_code 5 = .ok (.iload_n 1, 1) := by decide +kernel
theorem d1_6 : decode method_2_code 6 = .ok (.ifCond .ne 6, 3) := by decide +kernel
theorem d1_9 : decode method_2_code 9 = .ok (.bipush 32, 2) := by decide +kernel
theorem d1_11 : decode method_2_code 11 = .ok (.ireturn, 1) := by decide +kernel
theorem d1_12 : decode method_2_code 12 = .ok (.iload_n 1, 1) := by decide +kernel
theorem d1_13 : decode method_2_code 13 = .ok (.iconst 1, 1) := by decide +kernel
theorem d1_14 : decode method_2_code 14 = .ok (.if_icmp .ne 6, 3) := by decide +kernel
theorem d1_17 : decode method_2_code 17 = .ok (.bipush 9, 2) := by decide +kernel
theorem d1_19 : decode method_2_code 19 = .ok (.ireturn, 1) := by decide +kernel
theorem d1_20 : decode method_2_code 20 = .ok (.iload_n 1, 1) := by decide +kernel
theorem d1_21 : decode method_2_code 21 = .ok (.iconst 2, 1) := by decide +kernel
theorem d1_22 : decode method_2_code 22 = .ok (.if_icmp .ne 6, 3) := by decide +kernel
theorem d1_25 : decode method_2_code 25 = .ok (.bipush 64, 2) := by decide +kernel
theorem d1_27 : decode method_2_code 27 = .ok (.ireturn, 1) := by decide +kernel
theorem d1_28 : decode method_2_code 28 = .ok (.iload_n 1, 1) := by decide +kernel
theorem d1_29 : decode method_2_code 29 = .ok (.iconst 3, 1) := by decide +kernel
theorem d1_30 : decode method_2_code 30 = .ok (.if_icmp .ne 6, 3) := by decide +kernel
theorem d1_33 : decode method_2_code 33 = .ok (.bipush 42, 2) := by decide +kernel
theorem d1_35 : decode method_2_code 35 = .ok (.ireturn, 1) := by decide +kernel
theorem d1_36 : decode method_2_code 36 = .ok (.iload_n 0, 1) := by decide +kernel
theorem d1_37 : decode method_2_code 37 = .ok (.iconst 3, 1) := by decide +kernel
theorem d1_38 : decode method_2_code 38 = .ok (.iushr, 1) := by decide +kernel
theorem d1_39 : decode method_2_code 39 = .ok (.sipush 255, 3) := by decide +kernel
theorem d1_42 : decode method_2_code 42 = .ok (.iand, 1) := by decide +kernel
theorem d1_43 : decode method_2_code 43 = .ok (.i2c, 1) := by decide +kernel
theorem d1_44 : decode method_2_code 44 = .ok (.ireturn, 1) := by decide +kernel
theorem pn_1 : plainName "com/example/lit2/lit2/input/LineBeginsSectionPinLaw" = true := by first | (simp [plainName, overriddenIn]; done) | decide +kernel
theorem ef_rm1 (m : MethodId) (x0 : Int32) : entryFrame m #[(.int x0)] 2 = mkF m 0 #[.val (.int x0), .unset] [] := by first | (simp [entryFrame, mkF, argsToLocals, Value.category]; done) | rfl
set_option maxRecDepth 65536 in
set_option maxHeartbeats 40000000 in
theorem rm1 (l : Launch) (Z : State) (a0 : Array Value) (hw : ∀ d ∈ tables_1, d.before a0 Z = true) (ws : List Jvm.Cond) (p1 : Int32) (h0 : Heap) (n0 : Nat) (Z0 : n0 ≤ h0.size)  :
    MetFree l (⟨"com/example/lit2/lit2/input/LineBeginsSectionPinLaw", "pick", "(I)C"⟩ : MethodName) (head1 (Jvm.Cond.code (⟨"com/example/lit2/lit2/input/LineBeginsSectionPinLaw", "pick", "(I)C"⟩ : MethodName) method_2_code 2 (some .char) :: ws) ({ frames := 0, cells := 0, slots := 0, locals := 0 } : Room)) (fun a U => a = #[(.int p1)] ∧ Z.Warmed39 U.vm ∧ U.heap = h0) (fun _ _ _ _ _ => True) (fun _ U o U' => ∃ v L, o = .returned v ∧ Q1 h0 n0 v U'.heap L ∧ FrameEnd U o U' L ({ frames := 0, cells := 0, slots := 0, locals := 0 } : Room).cells ({ frames := 0, cells := 0, slots := 0, locals := 0 } : Room).slots) := by
  refine MetFree.of_bodySF (plainFor_of_name pn_1) hisR ?_
  intro p e s m args below meth c s₁ Bd hml0 hP hK
  obtain ⟨rfl, hZ, hh⟩ := hP
  have hx := Bd.exec
  have hby := Bd.bytes
  have hlk : meth.locks = false := BodyLoose.notSynchronized Bd
  have hml : c.maxLocals = 2 := hml0
  have hown : s.vm.findClass "com/example/lit2/lit2/input/LineBeginsSectionPinLaw" = some m.cls := findClass_of_methodNamed Bd.named
  have hnm := (name_of_methodNamed Bd.named Bd.method).1
  have X0 : Stand p l e ({ frames := 0, cells := 0, slots := 0, locals := 0 } : Room) s m #[(.int p1)] below meth c s₁ [] 0 0 := Stand.of_body Bd
  have e0 : s₁.heap = h0 := by rw [← hh, Bd.state]; rfl
  have N0 := Fr.nil n0
  show OwnEnds p e below s (Q1 h0 n0) ({ frames := 0, cells := 0, slots := 0, locals := 0 } : Room).cells ({ frames := 0, cells := 0, slots := 0, locals := 0 } : Room).slots s₁ (entryFrame m #[(.int p1)] 2)
  refine own_step (T' := s₁) (f' := (mkF m 0 #[.val (.int p1), .unset] [])) (fun t k => castTop (ef_rm1 m p1) k) ?_
  refine own_step (T' := s₁) (f' := (mkF m 1 #[.val (.int p1), .unset] [(.int p1)])) (fun t k => XS.iloadN X0.here hx rfl (hb hby d1_0) rfl k) ?_
  refine own_step (T' := s₁) (f' := (mkF m 3 #[.val (.int p1), .unset] [(.int (7 : Int32)), (.int p1)])) (fun t k => XS.bipush X0.here hx rfl (hb hby d1_1) k) ?_
  refine own_step (T' := s₁) (f' := (mkF m 4 #[.val (.int p1), .unset] [(.int (p1 &&& (7 : Int32)))])) (fun t k => XS.iand X0.here hx rfl (hb hby d1_3) rfl k) ?_
  refine own_step (T' := s₁) (f' := (mkF m 5 #[.val (.int p1), .val (.int (p1 &&& (7 : Int32)))] [])) (fun t k => XS.istoreN X0.here hx rfl (hb hby d1_4) rfl (l' := #[.val (.int p1), .val (.int (p1 &&& (7 : Int32)))]) rfl k) ?_
  refine own_step (T' := s₁) (f' := (mkF m 6 #[.val (.int p1), .val (.int (p1 &&& (7 : Int32)))] [(.int (p1 &&& (7 : Int32)))])) (fun t k => XS.iloadN X0.here hx rfl (hb hby d1_5) rfl k) ?_
  by_cases hc6_1 : (p1 &&& (7 : Int32)) = (0 : Int32)
  · skip
    refine own_step (T' := s₁) (f' := (mkF m 9 #[.val (.int p1), .val (.int (p1 &&& (7 : Int32)))] [])) (fun t k => XS.ifNo X0.here hx rfl (hb hby d1_6) rfl ((if0 _ _).trans (teq hc6_1).2) k) ?_
    refine own_step (T' := s₁) (f' := (mkF m 11 #[.val (.int p1), .val (.int (p1 &&& (7 : Int32)))] [(.int (32 : Int32))])) (fun t k => XS.bipush X0.here hx rfl (hb hby d1_9) k) ?_
    exact own_retN X0 hx hlk (t := .char) Bd.returns (by simp) (hb hby d1_11) (by decide) (by decide) ⟨_, rfl, N0, e0, (by constructor <;> decide)⟩
  · skip
    refine own_step (T' := s₁) (f' := (mkF m 12 #[.val (.int p1), .val (.int (p1 &&& (7 : Int32)))] [])) (fun t k => XS.ifYes X0.here hx rfl (pc0 := 6) (pc' := 12) rfl (hb hby d1_6) rfl ((if0 _ _).trans (feq hc6_1).2) (by decide) (by decide) k) ?_
    refine own_step (T' := s₁) (f' := (mkF m 13 #[.val (.int p1), .val (.int (p1 &&& (7 : Int32)))] [(.int (p1 &&& (7 : Int32)))])) (fun t k => XS.iloadN X0.here hx rfl (hb hby d1_12) rfl k) ?_
    refine own_step (T' := s₁) (f' := (mkF m 14 #[.val (.int p1), .val (.int (p1 &&& (7 : Int32)))] [(.int (1 : Int32)), (.int (p1 &&& (7 : Int32)))])) (fun t k => XS.iconst X0.here hx rfl (hb hby d1_13) k) ?_
    by_cases hc14_2 : (p1 &&& (7 : Int32)) = (1 : Int32)
    · skip
      refine own_step (T' := s₁) (f' := (mkF m 17 #[.val (.int p1), .val (.int (p1 &&& (7 : Int32)))] [])) (fun t k => XS.icmpNo X0.here hx rfl (hb hby d1_14) rfl (teq hc14_2).2 k) ?_
      refine own_step (T' := s₁) (f' := (mkF m 19 #[.val (.int p1), .val (.int (p1 &&& (7 : Int32)))] [(.int (9 : Int32))])) (fun t k => XS.bipush X0.here hx rfl (hb hby d1_17) k) ?_
      exact own_retN X0 hx hlk (t := .char) Bd.returns (by simp) (hb hby d1_19) (by decide) (by decide) ⟨_, rfl, N0, e0, (by constructor <;> decide)⟩
    · skip
      refine own_step (T' := s₁) (f' := (mkF m 20 #[.val (.int p1), .val (.int (p1 &&& (7 : Int32)))] [])) (fun t k => XS.icmpYes X0.here hx rfl (pc0 := 14) (pc' := 20) rfl (hb hby d1_14) rfl (feq hc14_2).2 (by decide) (by decide) k) ?_
      refine own_step (T' := s₁) (f' := (mkF m 21 #[.val (.int p1), .val (.int (p1 &&& (7 : Int32)))] [(.int (p1 &&& (7 : Int32)))])) (fun t k => XS.iloadN X0.here hx rfl (hb hby d1_20) rfl k) ?_
      refine own_step (T' := s₁) (f' := (mkF m 22 #[.val (.int p1), .val (.int (p1 &&& (7 : Int32)))] [(.int (2 : Int32)), (.int (p1 &&& (7 : Int32)))])) (fun t k => XS.iconst X0.here hx rfl (hb hby d1_21) k) ?_
      by_cases hc22_3 : (p1 &&& (7 : Int32)) = (2 : Int32)
      · skip
        refine own_step (T' := s₁) (f' := (mkF m 25 #[.val (.int p1), .val (.int (p1 &&& (7 : Int32)))] [])) (fun t k => XS.icmpNo X0.here hx rfl (hb hby d1_22) rfl (teq hc22_3).2 k) ?_
        refine own_step (T' := s₁) (f' := (mkF m 27 #[.val (.int p1), .val (.int (p1 &&& (7 : Int32)))] [(.int (64 : Int32))])) (fun t k => XS.bipush X0.here hx rfl (hb hby d1_25) k) ?_
        exact own_retN X0 hx hlk (t := .char) Bd.returns (by simp) (hb hby d1_27) (by decide) (by decide) ⟨_, rfl, N0, e0, (by constructor <;> decide)⟩
      · skip
        refine own_step (T' := s₁) (f' := (mkF m 28 #[.val (.int p1), .val (.int (p1 &&& (7 : Int32)))] [])) (fun t k => XS.icmpYes X0.here hx rfl (pc0 := 22) (pc' := 28) rfl (hb hby d1_22) rfl (feq hc22_3).2 (by decide) (by decide) k) ?_
        refine own_step (T' := s₁) (f' := (mkF m 29 #[.val (.int p1), .val (.int (p1 &&& (7 : Int32)))] [(.int (p1 &&& (7 : Int32)))])) (fun t k => XS.iloadN X0.here hx rfl (hb hby d1_28) rfl k) ?_
        refine own_step (T' := s₁) (f' := (mkF m 30 #[.val (.int p1), .val (.int (p1 &&& (7 : Int32)))] [(.int (3 : Int32)), (.int (p1 &&& (7 : Int32)))])) (fun t k => XS.iconst X0.here hx rfl (hb hby d1_29) k) ?_
        by_cases hc30_4 : (p1 &&& (7 : Int32)) = (3 : Int32)
        · skip
          refine own_step (T' := s₁) (f' := (mkF m 33 #[.val (.int p1), .val (.int (p1 &&& (7 : Int32)))] [])) (fun t k => XS.icmpNo X0.here hx rfl (hb hby d1_30) rfl (teq hc30_4).2 k) ?_
          refine own_step (T' := s₁) (f' := (mkF m 35 #[.val (.int p1), .val (.int (p1 &&& (7 : Int32)))] [(.int (42 : Int32))])) (fun t k => XS.bipush X0.here hx rfl (hb hby d1_33) k) ?_
          exact own_retN X0 hx hlk (t := .char) Bd.returns (by simp) (hb hby d1_35) (by decide) (by decide) ⟨_, rfl, N0, e0, (by constructor <;> decide)⟩
        · skip
          refine own_step (T' := s₁) (f' := (mkF m 36 #[.val (.int p1), .val (.int (p1 &&& (7 : Int32)))] [])) (fun t k => XS.icmpYes X0.here hx rfl (pc0 := 30) (pc' := 36) rfl (hb hby d1_30) rfl (feq hc30_4).2 (by decide) (by decide) k) ?_
          refine own_step (T' := s₁) (f' := (mkF m 37 #[.val (.int p1), .val (.int (p1 &&& (7 : Int32)))] [(.int p1)])) (fun t k => XS.iloadN X0.here hx rfl (hb hby d1_36) rfl k) ?_
          refine own_step (T' := s₁) (f' := (mkF m 38 #[.val (.int p1), .val (.int (p1 &&& (7 : Int32)))] [(.int (3 : Int32)), (.int p1)])) (fun t k => XS.iconst X0.here hx rfl (hb hby d1_37) k) ?_
          refine own_step (T' := s₁) (f' := (mkF m 39 #[.val (.int p1), .val (.int (p1 &&& (7 : Int32)))] [(.int ((p1.toUInt32 >>> ((3 : Int32) &&& 31).toUInt32).toInt32))])) (fun t k => XS.iushr X0.here hx rfl (hb hby d1_38) rfl k) ?_
          refine own_step (T' := s₁) (f' := (mkF m 42 #[.val (.int p1), .val (.int (p1 &&& (7 : Int32)))] [(.int (255 : Int32)), (.int ((p1.toUInt32 >>> ((3 : Int32) &&& 31).toUInt32).toInt32))])) (fun t k => XS.sipush X0.here hx rfl (hb hby d1_39) k) ?_
          refine own_step (T' := s₁) (f' := (mkF m 43 #[.val (.int p1), .val (.int (p1 &&& (7 : Int32)))] [(.int (((p1.toUInt32 >>> ((3 : Int32) &&& 31).toUInt32).toInt32) &&& (255 : Int32)))])) (fun t k => XS.iand X0.here hx rfl (hb hby d1_42) rfl k) ?_
          refine own_step (T' := s₁) (f' := (mkF m 44 #[.val (.int p1), .val (.int (p1 &&& (7 : Int32)))] [(.int ((((p1.toUInt32 >>> ((3 : Int32) &&& 31).toUInt32).toInt32) &&& (255 : Int32)).toUInt32.toUInt16.toUInt32.toInt32))])) (fun t k => XS.i2c X0.here hx rfl (hb hby d1_43) rfl k) ?_
          exact own_retN X0 hx hlk (t := .char) Bd.returns (by simp) (hb hby d1_44) (by decide) (by decide) ⟨_, rfl, N0, e0, own_pickc _⟩

theorem d8_0 : decode jdk_42_method_152_code 0 = .ok (.getstatic 38, 3) := by decide +kernel
theorem d8_3 : decode jdk_42_method_152_code 3 = .ok (.ifCond .eq 10, 3) := by decide +kernel
theorem d8_6 : decode jdk_42_method_152_code 6 = .ok (.aload_n 0, 1) := by decide +kernel
theorem d8_7 : decode jdk_42_method_152_code 7 = .ok (.getfield 15, 3) := by decide +kernel
theorem d8_10 : decode jdk_42_method_152_code 10 = .ok (.goto 4, 3) := by decide +kernel
theorem d8_14 : decode jdk_42_method_152_code 14 = .ok (.ireturn, 1) := by decide +kernel
theorem pn_8 : plainName "java/lang/String" = true := by first | (simp [plainName, overriddenIn]; done) | decide +kernel
theorem ef_rm8 (m : MethodId) (x0 : Addr) : entryFrame m #[(.ref x0)] 1 = mkF m 0 #[.val (.ref x0)] [] := by first | (simp [entryFrame, mkF, argsToLocals, Value.category]; done) | rfl
set_option maxRecDepth 65536 in
set_option maxHeartbeats 40000000 in
theorem rm8 (l : Launch) (Z : State) (a0 : Array Value) (hw : ∀ d ∈ tables_1, d.before a0 Z = true) (ws : List Jvm.Cond) (a1 : Addr) (h0 : Heap) (n0 : Nat) (Z0 : n0 ≤ h0.size) (F_c : Fld Z h0 a1 "java/lang/String" "coder" "B" (.int (0 : Int32))) (cs : Int32) (S_CS : Sta Z h0 "java/lang/String" "COMPACT_STRINGS" "Z" (.int cs)) (hcs : ¬ cs = (0 : Int32)) :
    MetFree l (⟨"java/lang/String", "coder", "()B"⟩ : MethodName) (head1 (Jvm.Cond.code (⟨"java/lang/String", "coder", "()B"⟩ : MethodName) jdk_42_method_152_code 1 (some .byte) :: ws) ({ frames := 0, cells := 0, slots := 0, locals := 0 } : Room)) (fun a U => a = #[(.ref a1)] ∧ Z.Warmed39 U.vm ∧ U.heap = h0) (fun _ _ _ _ _ => True) (fun _ U o U' => ∃ v L, o = .returned v ∧ QI 0 h0 n0 v U'.heap L ∧ FrameEnd U o U' L ({ frames := 0, cells := 0, slots := 0, locals := 0 } : Room).cells ({ frames := 0, cells := 0, slots := 0, locals := 0 } : Room).slots) := by
  refine MetFree.of_bodySF (plainFor_of_name pn_8) hisR ?_
  intro p e s m args below meth c s₁ Bd hml0 hP hK
  obtain ⟨rfl, hZ, hh⟩ := hP
  have hx := Bd.exec
  have hby := Bd.bytes
  have hlk : meth.locks = false := BodyLoose.notSynchronized Bd
  have hml : c.maxLocals = 1 := hml0
  have hown : s.vm.findClass "java/lang/String" = some m.cls := findClass_of_methodNamed Bd.named
  have hnm := (name_of_methodNamed Bd.named Bd.method).1
  have X0 : Stand p l e ({ frames := 0, cells := 0, slots := 0, locals := 0 } : Room) s m #[(.ref a1)] below meth c s₁ [] 0 0 := Stand.of_body Bd
  have e0 : s₁.heap = h0 := by rw [← hh, Bd.state]; rfl
  have N0 := Fr.nil n0
  show OwnEnds p e below s (QI 0 h0 n0) ({ frames := 0, cells := 0, slots := 0, locals := 0 } : Room).cells ({ frames := 0, cells := 0, slots := 0, locals := 0 } : Room).slots s₁ (entryFrame m #[(.ref a1)] 1)
  refine own_step (T' := s₁) (f' := (mkF m 0 #[.val (.ref a1)] [])) (fun t k => castTop (ef_rm8 m a1) k) ?_
  obtain ⟨T1, X1, e1, st1⟩ := getS2 X0 hx hZ hown (host := "") (Or.inl (own_w hw 58 rfl)) Via.refl e0 S_CS (g := (mkF m 0 #[.val (.ref a1)] [])) rfl (hb hby d8_0)
  refine own_step (T' := T1) (f' := (mkF m 3 #[.val (.ref a1)] [(.int cs)])) (fun t k => st1 t k) ?_
  refine own_step (T' := T1) (f' := (mkF m 6 #[.val (.ref a1)] [])) (fun t k => XS.ifNo X1.here hx rfl (hb hby d8_3) rfl ((if0 _ _).trans (feq hcs).1) k) ?_
  refine own_step (T' := T1) (f' := (mkF m 7 #[.val (.ref a1)] [(.ref a1)])) (fun t k => XS.aloadN X1.here hx rfl (hb hby d8_6) rfl rfl k) ?_
  obtain ⟨T2, X2, e2, st2⟩ := getF X1 hx hZ hown (host := "") (Or.inl (own_w hw 29 rfl)) Via.refl e1 F_c (g := (mkF m 7 #[.val (.ref a1)] [(.ref a1)])) rfl rfl (hb hby d8_7)
  refine own_step (T' := T2) (f' := (mkF m 10 #[.val (.ref a1)] [(.int (0 : Int32))])) (fun t k => st2 t k) ?_
  refine own_step (T' := T2) (f' := (mkF m 14 #[.val (.ref a1)] [(.int (0 : Int32))])) (fun t k => XS.goto X2.here hx rfl (pc0 := 10) (pc' := 14) rfl (hb hby d8_10) (by decide) (by decide) k) ?_
  exact own_retN X2 hx hlk (t := .byte) Bd.returns (by simp) (hb hby d8_14) (by decide) (by decide) ⟨rfl, N0, e2⟩

def Q5 (a1 : Addr) (h0 : Heap) (n0 : Nat) (v : Option Value) (h : Heap) (L : List Loc) : Prop := v = none ∧ Fr n0 L ∧ Keep h0 h [a1]
theorem d5_0 : decode prog_35_method_1_code 0 = .ok (.aload_n 0, 1) := by decide +kernel
theorem d5_1 : decode prog_35_method_1_code 1 = .ok (.invokespecial 1, 3) := by decide +kernel
theorem d5_4 : decode prog_35_method_1_code 4 = .ok (.aload_n 0, 1) := by decide +kernel
theorem d5_5 : decode prog_35_method_1_code 5 = .ok (.aload_n 1, 1) := by decide +kernel
theorem d5_6 : decode prog_35_method_1_code 6 = .ok (.putfield 7, 3) := by decide +kernel
theorem d5_9 : decode prog_35_method_1_code 9 = .ok (.aload_n 0, 1) := by decide +kernel
theorem d5_10 : decode prog_35_method_1_code 10 = .ok (.iload_n 2, 1) := by decide +kernel
theorem d5_11 : decode prog_35_method_1_code 11 = .ok (.putfield 13, 3) := by decide +kernel
theorem d5_14 : decode prog_35_method_1_code 14 = .ok (.return_, 1) := by decide +kernel
theorem pn_5 : plainName "com/example/lit2/lit2/model/Location" = true := by first | (simp [plainName, overriddenIn]; done) | decide +kernel
theorem ef_rm5 (m : MethodId) (x0 : Addr) (x1 : Addr) (x2 : Int32) : entryFrame m #[(.ref x0), (.ref x1), (.int x2)] 3 = mkF m 0 #[.val (.ref x0), .val (.ref x1), .val (.int x2)] [] := by first | (simp [entryFrame, mkF, argsToLocals, Value.category]; done) | rfl
set_option maxRecDepth 65536 in
set_option maxHeartbeats 40000000 in
theorem rm5 (l : Launch) (Z : State) (a0 : Array Value) (hw : ∀ d ∈ tables_1, d.before a0 Z = true) (ws : List Jvm.Cond) (a1 : Addr) (a2 : Addr) (h0 : Heap) (n0 : Nat) (Z0 : n0 ≤ h0.size) (E_a1 : Exa Z h0 a1 "com/example/lit2/lit2/model/Location") (F_file_a1 : Fld Z h0 a1 "com/example/lit2/lit2/model/Location" "file" "Ljava/lang/String;" .null) (F_line_a1 : Fld Z h0 a1 "com/example/lit2/lit2/model/Location" "line" "I" (.int (0 : Int32))) (g_a1 : n0 ≤ a1) :
    MetFree l (⟨"com/example/lit2/lit2/model/Location", "<init>", "(Ljava/lang/String;I)V"⟩ : MethodName) (head1 (Jvm.Cond.code (⟨"com/example/lit2/lit2/model/Location", "<init>", "(Ljava/lang/String;I)V"⟩ : MethodName) prog_35_method_1_code 3 none :: ws) ({ frames := 1, cells := 0, slots := 0, locals := 14 } : Room)) (fun a U => a = #[(.ref a1), (.ref a2), (.int (1 : Int32))] ∧ Z.Warmed39 U.vm ∧ U.heap = h0) (fun _ _ _ _ _ => True) (fun _ U o U' => ∃ v L, o = .returned v ∧ Q5 a1 h0 n0 v U'.heap L ∧ FrameEnd U o U' L ({ frames := 1, cells := 0, slots := 0, locals := 14 } : Room).cells ({ frames := 1, cells := 0, slots := 0, locals := 14 } : Room).slots) := by
  refine MetFree.of_bodySF (plainFor_of_name pn_5) hisR ?_
  intro p e s m args below meth c s₁ Bd hml0 hP hK
  obtain ⟨rfl, hZ, hh⟩ := hP
  have hx := Bd.exec
  have hby := Bd.bytes
  have hlk : meth.locks = false := BodyLoose.notSynchronized Bd
  have hml : c.maxLocals = 3 := hml0
  have hown : s.vm.findClass "com/example/lit2/lit2/model/Location" = some m.cls := findClass_of_methodNamed Bd.named
  have hnm := (name_of_methodNamed Bd.named Bd.method).1
  have X0 : Stand p l e ({ frames := 1, cells := 0, slots := 0, locals := 14 } : Room) s m #[(.ref a1), (.ref a2), (.int (1 : Int32))] below meth c s₁ [] 0 0 := Stand.of_body Bd
  have e0 : s₁.heap = h0 := by rw [← hh, Bd.state]; rfl
  have N0 := Fr.nil n0
  have Zz := Z0
  have Kp : Keep h0 h0 [a1] := Keep.refl _ _
  show OwnEnds p e below s (Q5 a1 h0 n0) ({ frames := 1, cells := 0, slots := 0, locals := 14 } : Room).cells ({ frames := 1, cells := 0, slots := 0, locals := 14 } : Room).slots s₁ (entryFrame m #[(.ref a1), (.ref a2), (.int (1 : Int32))] 3)
  refine own_step (T' := s₁) (f' := (mkF m 0 #[.val (.ref a1), .val (.ref a2), .val (.int (1 : Int32))] [])) (fun t k => castTop (ef_rm5 m a1 a2 (1 : Int32)) k) ?_
  refine own_step (T' := s₁) (f' := (mkF m 1 #[.val (.ref a1), .val (.ref a2), .val (.int (1 : Int32))] [(.ref a1)])) (fun t k => XS.aloadN X0.here hx rfl (hb hby d5_0) rfl rfl k) ?_
  obtain ⟨T1, X1, e1, st1⟩ := initO X0 hx hZ hown (own_w hw 37 rfl) (own_w hw 20 rfl) (own_w hw 21 rfl) e0 (g := (mkF m 1 #[.val (.ref a1), .val (.ref a2), .val (.int (1 : Int32))] [(.ref a1)])) rfl (by rw [hml]; rfl) rfl (hb hby d5_1) (by decide) (W := 0) (by show 2 * 0 + _ ≤ _; exact Nat.le_of_eq rfl) (by decide)
  refine own_step (T' := T1) (f' := (mkF m 4 #[.val (.ref a1), .val (.ref a2), .val (.int (1 : Int32))] [])) (fun t k => st1 t k) ?_
  refine own_step (T' := T1) (f' := (mkF m 5 #[.val (.ref a1), .val (.ref a2), .val (.int (1 : Int32))] [(.ref a1)])) (fun t k => XS.aloadN X1.here hx rfl (hb hby d5_4) rfl rfl k) ?_
  refine own_step (T' := T1) (f' := (mkF m 6 #[.val (.ref a1), .val (.ref a2), .val (.int (1 : Int32))] [(.ref a2), (.ref a1)])) (fun t k => XS.aloadN X1.here hx rfl (hb hby d5_5) rfl rfl k) ?_
  obtain ⟨T2, h2, X2, e2, W2, st2⟩ := putF X1 hx hZ hown (host := "") (Or.inl (own_w hw 38 rfl)) Via.refl e1 F_file_a1 E_a1 (Or.inr ⟨(own_w hw 39 rfl), rfl, hnm⟩) (own_w hw 31 rfl) (ty := (.object "java/lang/String")) (by decide) rfl rfl (g := (mkF m 6 #[.val (.ref a1), .val (.ref a2), .val (.int (1 : Int32))] [(.ref a2), (.ref a1)])) rfl rfl (hb hby d5_6)
  replace E_a1 := E_a1.wr W2
  replace F_file_a1 := F_file_a1.same W2
  replace F_line_a1 := F_line_a1.other W2 (Or.inr (Jvm.RoadKit.slot_ne (Or.inr (own_w hw 41 rfl)) (Or.inr (own_w hw 39 rfl)) (by decide) (t := .int) (t' := (.object "java/lang/String")) (by decide) (by decide)))
  replace Zz := Nat.le_trans Zz (Keep.of_wr W2).1
  replace Kp := Kp.wr W2 (Or.inl (List.mem_of_getElem? (i := 0) rfl))
  have N2 := Fr.snoc X2 N0 g_a1
  refine own_step (T' := T2) (f' := (mkF m 9 #[.val (.ref a1), .val (.ref a2), .val (.int (1 : Int32))] [])) (fun t k => st2 t k) ?_
  refine own_step (T' := T2) (f' := (mkF m 10 #[.val (.ref a1), .val (.ref a2), .val (.int (1 : Int32))] [(.ref a1)])) (fun t k => XS.aloadN X2.here hx rfl (hb hby d5_9) rfl rfl k) ?_
  refine own_step (T' := T2) (f' := (mkF m 11 #[.val (.ref a1), .val (.ref a2), .val (.int (1 : Int32))] [(.int (1 : Int32)), (.ref a1)])) (fun t k => XS.iloadN X2.here hx rfl (hb hby d5_10) rfl k) ?_
  obtain ⟨T3, h3, X3, e3, W3, st3⟩ := putF X2 hx hZ hown (host := "") (Or.inl (own_w hw 40 rfl)) Via.refl e2 F_line_a1 E_a1 (Or.inr ⟨(own_w hw 41 rfl), rfl, hnm⟩) (own_w hw 31 rfl) (ty := .int) (by decide) rfl rfl (g := (mkF m 11 #[.val (.ref a1), .val (.ref a2), .val (.int (1 : Int32))] [(.int (1 : Int32)), (.ref a1)])) rfl rfl (hb hby d5_11)
  replace E_a1 := E_a1.wr W3
  replace F_file_a1 := F_file_a1.other W3 (Or.inr (Jvm.RoadKit.slot_ne (Or.inr (own_w hw 39 rfl)) (Or.inr (own_w hw 41 rfl)) (by decide) (t := (.object "java/lang/String")) (t' := .int) (by decide) (by decide)))
  replace F_line_a1 := F_line_a1.same W3
  replace Zz := Nat.le_trans Zz (Keep.of_wr W3).1
  replace Kp := Kp.wr W3 (Or.inl (List.mem_of_getElem? (i := 0) rfl))
  have N3 := Fr.snoc X3 N2 g_a1
  refine own_step (T' := T3) (f' := (mkF m 14 #[.val (.ref a1), .val (.ref a2), .val (.int (1 : Int32))] [])) (fun t k => st3 t k) ?_
  exact own_retV X3 hx hlk Bd.returns (hb hby d5_14) (by decide) (by decide) (by rw [e3]; exact ⟨rfl, N3, Kp⟩)

def QB (Z : State) (zl : Int32) (vl : List Value) (h0 : Heap) (n0 : Nat) (v : Option Value) (h : Heap) (L : List Loc) : Prop := ∃ (b : Addr) (k : ClassId), v = some (.ref b) ∧ Fr n0 L ∧ Keep h0 h [] ∧ h0.size ≤ b ∧ Arv Z h b k .byte zl vl (.int (0 : Int32)) ∧ Exa Z h b "[B"
theorem d11_0 : decode jdk_42_method_27_code 0 = .ok (.iload_n 0, 1) := by decide +kernel
theorem d11_1 : decode jdk_42_method_27_code 1 = .ok (.ifCond .ne 11, 3) := by decide +kernel
theorem d11_4 : decode jdk_42_method_27_code 4 = .ok (.aload_n 1, 1) := by decide +kernel
theorem d11_5 : decode jdk_42_method_27_code 5 = .ok (.invokevirtual 279, 3) := by decide +kernel
theorem d11_8 : decode jdk_42_method_27_code 8 = .ok (.checkcast 280, 3) := by decide +kernel
theorem d11_11 : decode jdk_42_method_27_code 11 = .ok (.areturn, 1) := by decide +kernel
theorem pn_11 : plainName "java/lang/String" = true := by first | (simp [plainName, overriddenIn]; done) | decide +kernel
theorem ef_rm11 (m : MethodId) (x0 : Int32) (x1 : Addr) (x2 : Int32) : entryFrame m #[(.int x0), (.ref x1), (.int x2)] 10 = mkF m 0 #[.val (.int x0), .val (.ref x1), .val (.int x2), .unset, .unset, .unset, .unset, .unset, .unset, .unset] [] := by first | (simp [entryFrame, mkF, argsToLocals, Value.category]; done) | rfl
set_option maxRecDepth 65536 in
set_option maxHeartbeats 40000000 in
theorem rm11 (l : Launch) (Z : State) (a0 : Array Value) (hw : ∀ d ∈ tables_1, d.before a0 Z = true) (ws : List Jvm.Cond) (a2 : Addr) (h0 : Heap) (n0 : Nat) (Z0 : n0 ≤ h0.size) (kb : ClassId) (zl : Int32) (vl : List Value) (hz4 : zl.toNatClampNeg ≤ 4) (V_a2 : Arv Z h0 a2 kb .byte zl vl (.int (0 : Int32))) (EX_a2 : Exa Z h0 a2 "[B") :
    MetFree l (⟨"java/lang/String", "encode8859_1", "(B[BZ)[B"⟩ : MethodName) (head1 (Jvm.Cond.code (⟨"java/lang/String", "encode8859_1", "(B[BZ)[B"⟩ : MethodName) jdk_42_method_27_code 10 (some (.array .byte)) :: ws) ({ frames := 1, cells := 1, slots := 4, locals := 14 } : Room)) (fun a U => a = #[(.int (0 : Int32)), (.ref a2), (.int (1 : Int32))] ∧ Z.Warmed39 U.vm ∧ U.heap = h0) (fun _ _ _ _ _ => True) (fun _ U o U' => ∃ v L, o = .returned v ∧ QB Z zl vl h0 n0 v U'.heap L ∧ FrameEnd U o U' L ({ frames := 1, cells := 1, slots := 4, locals := 14 } : Room).cells ({ frames := 1, cells := 1, slots := 4, locals := 14 } : Room).slots) := by
  refine MetFree.of_bodySF (plainFor_of_name pn_11) hisR ?_
  intro p e s m args below meth c s₁ Bd hml0 hP hK
  obtain ⟨rfl, hZ, hh⟩ := hP
  have hx := Bd.exec
  have hby := Bd.bytes
  have hlk : meth.locks = false := BodyLoose.notSynchronized Bd
  have hml : c.maxLocals = 10 := hml0
  have hown : s.vm.findClass "java/lang/String" = some m.cls := findClass_of_methodNamed Bd.named
  have hnm := (name_of_methodNamed Bd.named Bd.method).1
  have X0 : Stand p l e ({ frames := 1, cells := 1, slots := 4, locals := 14 } : Room) s m #[(.int (0 : Int32)), (.ref a2), (.int (1 : Int32))] below meth c s₁ [] 0 0 := Stand.of_body Bd
  have e0 : s₁.heap = h0 := by rw [← hh, Bd.state]; rfl
  have N0 := Fr.nil n0
  have Zz := Z0
  have Kp : Keep h0 h0 [] := Keep.refl _ _
  show OwnEnds p e below s (QB Z zl vl h0 n0) ({ frames := 1, cells := 1, slots := 4, locals := 14 } : Room).cells ({ frames := 1, cells := 1, slots := 4, locals := 14 } : Room).slots s₁ (entryFrame m #[(.int (0 : Int32)), (.ref a2), (.int (1 : Int32))] 10)
  refine own_step (T' := s₁) (f' := (mkF m 0 #[.val (.int (0 : Int32)), .val (.ref a2), .val (.int (1 : Int32)), .unset, .unset, .unset, .unset, .unset, .unset, .unset] [])) (fun t k => castTop (ef_rm11 m (0 : Int32) a2 (1 : Int32)) k) ?_
  refine own_step (T' := s₁) (f' := (mkF m 1 #[.val (.int (0 : Int32)), .val (.ref a2), .val (.int (1 : Int32)), .unset, .unset, .unset, .unset, .unset, .unset, .unset] [(.int (0 : Int32))])) (fun t k => XS.iloadN X0.here hx rfl (hb hby d11_0) rfl k) ?_
  refine own_step (T' := s₁) (f' := (mkF m 4 #[.val (.int (0 : Int32)), .val (.ref a2), .val (.int (1 : Int32)), .unset, .unset, .unset, .unset, .unset, .unset, .unset] [])) (fun t k => XS.ifNo X0.here hx rfl (hb hby d11_1) rfl ((if0 _ _).trans (teq (by decide : (0 : Int32) = (0 : Int32))).2) k) ?_
  refine own_step (T' := s₁) (f' := (mkF m 5 #[.val (.int (0 : Int32)), .val (.ref a2), .val (.int (1 : Int32)), .unset, .unset, .unset, .unset, .unset, .unset, .unset] [(.ref a2)])) (fun t k => XS.aloadN X0.here hx rfl (hb hby d11_4) rfl rfl k) ?_
  obtain ⟨cl1, Ar1, q1, S1, M1, H1, G1⟩ := id V_a2
  have FC1 : FitC Z cl1 := fitC_of Ar1 fun i hi v hv => by rw [H1 i hi] at hv; cases hv; exact G1 i hi
  obtain ⟨T1, h1, X1, e1, E1, A1, EX1, st1⟩ := cloneA X0 hx hZ hown (own_w hw 72 rfl) (own_w hw 73 rfl) (own_w hw 77 rfl) (own_w hw 75 rfl) (own_w hw 76 rfl) (own_w hw 78 rfl) e0 Ar1 EX_a2 FC1 (g := (mkF m 5 #[.val (.int (0 : Int32)), .val (.ref a2), .val (.int (1 : Int32)), .unset, .unset, .unset, .unset, .unset, .unset, .unset] [(.ref a2)])) rfl (by rw [hml]; rfl) rfl (hb hby d11_5) (by decide) (W := 0) (by show 2 * 0 + _ ≤ _; exact Nat.le_of_eq rfl) (by decide) (cap := 4) (by rw [S1]; exact hz4) (by decide) (by decide)
  obtain ⟨b1, g1⟩ : ∃ z, z = h0.size := ⟨_, rfl⟩
  rw [← g1] at A1 EX1 st1
  have ne_a2_b1 : a2 ≠ b1 := Nat.ne_of_lt (Nat.lt_of_lt_of_le V_a2.lt (Nat.le_of_eq g1.symm))
  have g_b1 : n0 ≤ b1 := Nat.le_trans Zz (Nat.le_of_eq g1.symm)
  have sz_b1 : h0.size ≤ b1 := Nat.le_trans Kp.1 (Nat.le_of_eq g1.symm)
  replace V_a2 := V_a2.ext E1
  replace EX_a2 := EX_a2.ext E1
  replace Zz := Nat.le_trans Zz E1.1
  replace Kp := Kp.ext E1
  have V_b1 : Arv Z h1 b1 kb .byte zl vl (.int (0 : Int32)) := ⟨_, A1, q1, S1, M1, H1, G1⟩
  have EX_b1 := EX1
  refine own_step (T' := T1) (f' := (mkF m 8 #[.val (.int (0 : Int32)), .val (.ref a2), .val (.int (1 : Int32)), .unset, .unset, .unset, .unset, .unset, .unset, .unset] [(.ref b1)])) (fun t k => st1 t k) ?_
  obtain ⟨T2, X2, e2, st2⟩ := castY X1 hx hZ hown (own_w hw 79 rfl) e1 (Ins.self EX_b1) (g := (mkF m 8 #[.val (.int (0 : Int32)), .val (.ref a2), .val (.int (1 : Int32)), .unset, .unset, .unset, .unset, .unset, .unset, .unset] [(.ref b1)])) rfl rfl (hb hby d11_8)
  refine own_step (T' := T2) (f' := (mkF m 11 #[.val (.int (0 : Int32)), .val (.ref a2), .val (.int (1 : Int32)), .unset, .unset, .unset, .unset, .unset, .unset, .unset] [(.ref b1)])) (fun t k => st2 t k) ?_
  exact own_retO X2 hx hlk Bd.returns rfl (Or.inr (Or.inr (Or.inr (Or.inr ⟨rfl, rfl, rfl⟩)))) (hb hby d11_11) (by decide) (by decide) (by rw [e2]; exact ⟨b1, kb, rfl, N0, Kp, sz_b1, V_b1, EX_b1⟩)

theorem d10_0 : decode jdk_42_method_26_code 0 = .ok (.iload_n 0, 1) := by decide +kernel
theorem d10_1 : decode jdk_42_method_26_code 1 = .ok (.aload_n 1, 1) := by decide +kernel
theorem d10_2 : decode jdk_42_method_26_code 2 = .ok (.iconst 1, 1) := by decide +kernel
theorem d10_3 : decode jdk_42_method_26_code 3 = .ok (.invokestatic 351, 3) := by decide +kernel
theorem d10_6 : decode jdk_42_method_26_code 6 = .ok (.areturn, 1) := by decide +kernel
theorem pn_10 : plainName "java/lang/String" = true := by first | (simp [plainName, overriddenIn]; done) | decide +kernel
theorem pd_10_0 : parseMethodDescriptor "(B[BZ)[B" = some ⟨[.byte, (.array .byte), .boolean], some (.array .byte)⟩ := by decide +kernel
theorem ef_rm10 (m : MethodId) (x0 : Int32) (x1 : Addr) : entryFrame m #[(.int x0), (.ref x1)] 2 = mkF m 0 #[.val (.int x0), .val (.ref x1)] [] := by first | (simp [entryFrame, mkF, argsToLocals, Value.category]; done) | rfl
set_option maxRecDepth 65536 in
set_option maxHeartbeats 40000000 in
theorem rm10 (l : Launch) (Z : State) (a0 : Array Value) (hw : ∀ d ∈ tables_1, d.before a0 Z = true) (ws : List Jvm.Cond) (a2 : Addr) (h0 : Heap) (n0 : Nat) (Z0 : n0 ≤ h0.size) (kb : ClassId) (zl : Int32) (vl : List Value) (hz4 : zl.toNatClampNeg ≤ 4) (V_a2 : Arv Z h0 a2 kb .byte zl vl (.int (0 : Int32))) (EX_a2 : Exa Z h0 a2 "[B") :
    MetFree l (⟨"java/lang/String", "encode8859_1", "(B[B)[B"⟩ : MethodName) (head1 (Jvm.Cond.code (⟨"java/lang/String", "encode8859_1", "(B[B)[B"⟩ : MethodName) jdk_42_method_26_code 2 (some (.array .byte)) :: ws) ({ frames := 2, cells := 1, slots := 4, locals := 35 } : Room)) (fun a U => a = #[(.int (0 : Int32)), (.ref a2)] ∧ Z.Warmed39 U.vm ∧ U.heap = h0) (fun _ _ _ _ _ => True) (fun _ U o U' => ∃ v L, o = .returned v ∧ QB Z zl vl h0 n0 v U'.heap L ∧ FrameEnd U o U' L ({ frames := 2, cells := 1, slots := 4, locals := 35 } : Room).cells ({ frames := 2, cells := 1, slots := 4, locals := 35 } : Room).slots) := by
  refine MetFree.of_bodySF (plainFor_of_name pn_10) hisR ?_
  intro p e s m args below meth c s₁ Bd hml0 hP hK
  obtain ⟨rfl, hZ, hh⟩ := hP
  have hx := Bd.exec
  have hby := Bd.bytes
  have hlk : meth.locks = false := BodyLoose.notSynchronized Bd
  have hml : c.maxLocals = 2 := hml0
  have hown : s.vm.findClass "java/lang/String" = some m.cls := findClass_of_methodNamed Bd.named
  have hnm := (name_of_methodNamed Bd.named Bd.method).1
  have X0 : Stand p l e ({ frames := 2, cells := 1, slots := 4, locals := 35 } : Room) s m #[(.int (0 : Int32)), (.ref a2)] below meth c s₁ [] 0 0 := Stand.of_body Bd
  have e0 : s₁.heap = h0 := by rw [← hh, Bd.state]; rfl
  have N0 := Fr.nil n0
  show OwnEnds p e below s (QB Z zl vl h0 n0) ({ frames := 2, cells := 1, slots := 4, locals := 35 } : Room).cells ({ frames := 2, cells := 1, slots := 4, locals := 35 } : Room).slots s₁ (entryFrame m #[(.int (0 : Int32)), (.ref a2)] 2)
  refine own_step (T' := s₁) (f' := (mkF m 0 #[.val (.int (0 : Int32)), .val (.ref a2)] [])) (fun t k => castTop (ef_rm10 m (0 : Int32) a2) k) ?_
  refine own_step (T' := s₁) (f' := (mkF m 1 #[.val (.int (0 : Int32)), .val (.ref a2)] [(.int (0 : Int32))])) (fun t k => XS.iloadN X0.here hx rfl (hb hby d10_0) rfl k) ?_
  refine own_step (T' := s₁) (f' := (mkF m 2 #[.val (.int (0 : Int32)), .val (.ref a2)] [(.ref a2), (.int (0 : Int32))])) (fun t k => XS.aloadN X0.here hx rfl (hb hby d10_1) rfl rfl k) ?_
  refine own_step (T' := s₁) (f' := (mkF m 3 #[.val (.int (0 : Int32)), .val (.ref a2)] [(.int (1 : Int32)), (.ref a2), (.int (0 : Int32))])) (fun t k => XS.iconst X0.here hx rfl (hb hby d10_2) k) ?_
  obtain ⟨_, _, ⟨T1, L1, k1, n1⟩, -, X1, ⟨Lc1, hQ1, l1, y1, z1⟩, st1⟩ := Jvm.LawKit.callS X0 hx (y := (⟨"java/lang/String", "encode8859_1", "(B[BZ)[B"⟩ : MethodName)) hown (mvT hZ (own_w hw 69 rfl)) (mvT hZ (own_w hw 70 rfl)) (mvT hZ (own_w hw 11 rfl)) (mvT hZ (own_w hw 71 rfl)) (by decide) (backOf (W := 0) (rm11 l Z a0 hw [] a2 h0 n0 Z0 kb zl vl hz4 V_a2 EX_a2) hZ (own_w hw 71 rfl) (own_w hw 11 rfl) (by decide) (by decide)) (g := (mkF m 3 #[.val (.int (0 : Int32)), .val (.ref a2)] [(.int (1 : Int32)), (.ref a2), (.int (0 : Int32))])) rfl (by rw [hml]; rfl) (argsL := [(.int (0 : Int32)), (.ref a2), (.int (1 : Int32))]) (rest := []) (lenOf pd_10_0 rfl) rfl (by show 2 * 0 + _ ≤ _; exact Nat.le_of_eq rfl) (hb hby d10_3) (fun _ _ => ⟨rfl, e0, (by decide : 0 + 1 ≤ _), (by decide : 0 + 4 ≤ _)⟩)
  dsimp only [Pt.U, Pt.locs, Pt.cells, Pt.slots] at X1 l1 y1 z1 st1 hQ1
  subst l1 y1 z1
  obtain ⟨rb1, rk1, rfl, N1q, K1, zz1, Vr1, Er1⟩ := hQ1
  have N1 := Fr.app N0 N1q
  refine own_step (T' := T1) (f' := (mkF m 6 #[.val (.int (0 : Int32)), .val (.ref a2)] [(.ref rb1)])) (fun t k => st1 t k) ?_
  exact own_retO X1 hx hlk Bd.returns rfl (Or.inr (Or.inr (Or.inr (Or.inr ⟨rfl, rfl, rfl⟩)))) (hb hby d10_6) (by decide) (by decide) ⟨rb1, rk1, rfl, N1, K1, zz1, Vr1, Er1⟩

theorem d9_0 : decode jdk_42_method_18_code 0 = .ok (.aload_n 0, 1) := by decide +kernel
theorem d9_1 : decode jdk_42_method_18_code 1 = .ok (.getstatic 86, 3) := by decide +kernel
theorem d9_4 : decode jdk_42_method_18_code 4 = .ok (.if_acmp .ne 10, 3) := by decide +kernel
theorem d9_14 : decode jdk_42_method_18_code 14 = .ok (.aload_n 0, 1) := by decide +kernel
theorem d9_15 : decode jdk_42_method_18_code 15 = .ok (.getstatic 116, 3) := by decide +kernel
theorem d9_18 : decode jdk_42_method_18_code 18 = .ok (.if_acmp .ne 9, 3) := by decide +kernel
theorem d9_21 : decode jdk_42_method_18_code 21 = .ok (.iload_n 1, 1) := by decide +kernel
theorem d9_22 : decode jdk_42_method_18_code 22 = .ok (.aload_n 2, 1) := by decide +kernel
theorem d9_23 : decode jdk_42_method_18_code 23 = .ok (.invokestatic 256, 3) := by decide +kernel
theorem d9_26 : decode jdk_42_method_18_code 26 = .ok (.areturn, 1) := by decide +kernel
theorem pn_9 : plainName "java/lang/String" = true := by first | (simp [plainName, overriddenIn]; done) | decide +kernel
theorem pd_9_0 : parseMethodDescriptor "(B[B)[B" = some ⟨[.byte, (.array .byte)], some (.array .byte)⟩ := by decide +kernel
theorem ef_rm9 (m : MethodId) (x0 : Addr) (x1 : Int32) (x2 : Addr) : entryFrame m #[(.ref x0), (.int x1), (.ref x2)] 3 = mkF m 0 #[.val (.ref x0), .val (.int x1), .val (.ref x2)] [] := by first | (simp [entryFrame, mkF, argsToLocals, Value.category]; done) | rfl
set_option maxRecDepth 65536 in
set_option maxHeartbeats 40000000 in
theorem rm9 (l : Launch) (Z : State) (a0 : Array Value) (hw : ∀ d ∈ tables_1, d.before a0 Z = true) (ws : List Jvm.Cond) (a1 : Addr) (a3 : Addr) (h0 : Heap) (n0 : Nat) (Z0 : n0 ≤ h0.size) (kb : ClassId) (zl : Int32) (vl : List Value) (hz4 : zl.toNatClampNeg ≤ 4) (V_a3 : Arv Z h0 a3 kb .byte zl vl (.int (0 : Int32))) (EX_a3 : Exa Z h0 a3 "[B") (aU : Addr) (S_U : Sta Z h0 "sun/nio/cs/UTF_8" "INSTANCE" "Lsun/nio/cs/UTF_8;" (.ref aU)) (S_I : Sta Z h0 "sun/nio/cs/ISO_8859_1" "INSTANCE" "Lsun/nio/cs/ISO_8859_1;" (.ref a1)) (neU : ¬ a1 = aU) :
    MetFree l (⟨"java/lang/String", "encode", "(Ljava/nio/charset/Charset;B[B)[B"⟩ : MethodName) (head1 (Jvm.Cond.code (⟨"java/lang/String", "encode", "(Ljava/nio/charset/Charset;B[B)[B"⟩ : MethodName) jdk_42_method_18_code 3 (some (.array .byte)) :: ws) ({ frames := 3, cells := 1, slots := 4, locals := 48 } : Room)) (fun a U => a = #[(.ref a1), (.int (0 : Int32)), (.ref a3)] ∧ Z.Warmed39 U.vm ∧ U.heap = h0) (fun _ _ _ _ _ => True) (fun _ U o U' => ∃ v L, o = .returned v ∧ QB Z zl vl h0 n0 v U'.heap L ∧ FrameEnd U o U' L ({ frames := 3, cells := 1, slots := 4, locals := 48 } : Room).cells ({ frames := 3, cells := 1, slots := 4, locals := 48 } : Room).slots) := by
  refine MetFree.of_bodySF (plainFor_of_name pn_9) hisR ?_
  intro p e s m args below meth c s₁ Bd hml0 hP hK
  obtain ⟨rfl, hZ, hh⟩ := hP
  have hx := Bd.exec
  have hby := Bd.bytes
  have hlk : meth.locks = false := BodyLoose.notSynchronized Bd
  have hml : c.maxLocals = 3 := hml0
  have hown : s.vm.findClass "java/lang/String" = some m.cls := findClass_of_methodNamed Bd.named
  have hnm := (name_of_methodNamed Bd.named Bd.method).1
  have X0 : Stand p l e ({ frames := 3, cells := 1, slots := 4, locals := 48 } : Room) s m #[(.ref a1), (.int (0 : Int32)), (.ref a3)] below meth c s₁ [] 0 0 := Stand.of_body Bd
  have e0 : s₁.heap = h0 := by rw [← hh, Bd.state]; rfl
  have N0 := Fr.nil n0
  show OwnEnds p e below s (QB Z zl vl h0 n0) ({ frames := 3, cells := 1, slots := 4, locals := 48 } : Room).cells ({ frames := 3, cells := 1, slots := 4, locals := 48 } : Room).slots s₁ (entryFrame m #[(.ref a1), (.int (0 : Int32)), (.ref a3)] 3)
  refine own_step (T' := s₁) (f' := (mkF m 0 #[.val (.ref a1), .val (.int (0 : Int32)), .val (.ref a3)] [])) (fun t k => castTop (ef_rm9 m a1 (0 : Int32) a3) k) ?_
  refine own_step (T' := s₁) (f' := (mkF m 1 #[.val (.ref a1), .val (.int (0 : Int32)), .val (.ref a3)] [(.ref a1)])) (fun t k => XS.aloadN X0.here hx rfl (hb hby d9_0) rfl rfl k) ?_
  obtain ⟨T1, X1, e1, st1⟩ := getS2 X0 hx hZ hown (host := "") (Or.inl (own_w hw 62 rfl)) Via.refl e0 S_U (g := (mkF m 1 #[.val (.ref a1), .val (.int (0 : Int32)), .val (.ref a3)] [(.ref a1)])) rfl (hb hby d9_1)
  refine own_step (T' := T1) (f' := (mkF m 4 #[.val (.ref a1), .val (.int (0 : Int32)), .val (.ref a3)] [(.ref aU), (.ref a1)])) (fun t k => st1 t k) ?_
  refine own_step (T' := T1) (f' := (mkF m 14 #[.val (.ref a1), .val (.int (0 : Int32)), .val (.ref a3)] [])) (fun t k => Jvm.RoadKit.acmp (g := (mkF m 4 #[.val (.ref a1), .val (.int (0 : Int32)), .val (.ref a3)] [(.ref aU), (.ref a1)])) X1 hx rfl rfl rfl (pc0 := 4) (pc' := 14) (same := false) rfl (hb hby d9_4) rfl (decide_eq_false fun q => neU (Value.ref.inj q)) (by decide) (by decide) k) ?_
  refine own_step (T' := T1) (f' := (mkF m 15 #[.val (.ref a1), .val (.int (0 : Int32)), .val (.ref a3)] [(.ref a1)])) (fun t k => XS.aloadN X1.here hx rfl (hb hby d9_14) rfl rfl k) ?_
  obtain ⟨T2, X2, e2, st2⟩ := getS2 X1 hx hZ hown (host := "") (Or.inl (own_w hw 64 rfl)) Via.refl e1 S_I (g := (mkF m 15 #[.val (.ref a1), .val (.int (0 : Int32)), .val (.ref a3)] [(.ref a1)])) rfl (hb hby d9_15)
  refine own_step (T' := T2) (f' := (mkF m 18 #[.val (.ref a1), .val (.int (0 : Int32)), .val (.ref a3)] [(.ref a1), (.ref a1)])) (fun t k => st2 t k) ?_
  refine own_step (T' := T2) (f' := (mkF m 21 #[.val (.ref a1), .val (.int (0 : Int32)), .val (.ref a3)] [])) (fun t k => Jvm.RoadKit.acmp (g := (mkF m 18 #[.val (.ref a1), .val (.int (0 : Int32)), .val (.ref a3)] [(.ref a1), (.ref a1)])) X2 hx rfl rfl rfl (pc0 := 18) (pc' := 21) (same := true) rfl (hb hby d9_18) rfl (decide_eq_true rfl) (by decide) (by decide) k) ?_
  refine own_step (T' := T2) (f' := (mkF m 22 #[.val (.ref a1), .val (.int (0 : Int32)), .val (.ref a3)] [(.int (0 : Int32))])) (fun t k => XS.iloadN X2.here hx rfl (hb hby d9_21) rfl k) ?_
  refine own_step (T' := T2) (f' := (mkF m 23 #[.val (.ref a1), .val (.int (0 : Int32)), .val (.ref a3)] [(.ref a3), (.int (0 : Int32))])) (fun t k => XS.aloadN X2.here hx rfl (hb hby d9_22) rfl rfl k) ?_
  obtain ⟨_, _, ⟨T3, L3, k3, n3⟩, -, X3, ⟨Lc3, hQ3, l3, y3, z3⟩, st3⟩ := Jvm.LawKit.callS X2 hx (y := (⟨"java/lang/String", "encode8859_1", "(B[B)[B"⟩ : MethodName)) hown (mvT hZ (own_w hw 66 rfl)) (mvT hZ (own_w hw 67 rfl)) (mvT hZ (own_w hw 11 rfl)) (mvT hZ (own_w hw 68 rfl)) (by decide) (backOf (W := 0) (rm10 l Z a0 hw [] a3 h0 n0 Z0 kb zl vl hz4 V_a3 EX_a3) hZ (own_w hw 68 rfl) (own_w hw 11 rfl) (by decide) (by decide)) (g := (mkF m 23 #[.val (.ref a1), .val (.int (0 : Int32)), .val (.ref a3)] [(.ref a3), (.int (0 : Int32))])) rfl (by rw [hml]; rfl) (argsL := [(.int (0 : Int32)), (.ref a3)]) (rest := []) (lenOf pd_9_0 rfl) rfl (by show 2 * 0 + _ ≤ _; exact Nat.le_of_eq rfl) (hb hby d9_23) (fun _ _ => ⟨rfl, e2, (by decide : 0 + 1 ≤ _), (by decide : 0 + 4 ≤ _)⟩)
  dsimp only [Pt.U, Pt.locs, Pt.cells, Pt.slots] at X3 l3 y3 z3 st3 hQ3
  subst l3 y3 z3
  obtain ⟨rb3, rk3, rfl, N3q, K3, zz3, Vr3, Er3⟩ := hQ3
  have N3 := Fr.app N0 N3q
  refine own_step (T' := T3) (f' := (mkF m 26 #[.val (.ref a1), .val (.int (0 : Int32)), .val (.ref a3)] [(.ref rb3)])) (fun t k => st3 t k) ?_
  exact own_retO X3 hx hlk Bd.returns rfl (Or.inr (Or.inr (Or.inr (Or.inr ⟨rfl, rfl, rfl⟩)))) (hb hby d9_26) (by decide) (by decide) ⟨rb3, rk3, rfl, N3, K3, zz3, Vr3, Er3⟩

theorem d7_0 : decode jdk_42_method_64_code 0 = .ok (.aload_n 1, 1) := by decide +kernel
theorem d7_1 : decode jdk_42_method_64_code 1 = .ok (.ifnonnull 11, 3) := by decide +kernel
theorem d7_12 : decode jdk_42_method_64_code 12 = .ok (.aload_n 1, 1) := by decide +kernel
theorem d7_13 : decode jdk_42_method_64_code 13 = .ok (.aload_n 0, 1) := by decide +kernel
theorem d7_14 : decode jdk_42_method_64_code 14 = .ok (.invokevirtual 335, 3) := by decide +kernel
theorem d7_17 : decode jdk_42_method_64_code 17 = .ok (.aload_n 0, 1) := by decide +kernel
theorem d7_18 : decode jdk_42_method_64_code 18 = .ok (.getfield 9, 3) := by decide +kernel
theorem d7_21 : decode jdk_42_method_64_code 21 = .ok (.invokestatic 535, 3) := by decide +kernel
theorem d7_24 : decode jdk_42_method_64_code 24 = .ok (.areturn, 1) := by decide +kernel
theorem pn_7 : plainName "java/lang/String" = true := by first | (simp [plainName, overriddenIn]; done) | decide +kernel
theorem pd_7_0 : parseMethodDescriptor "()B" = some ⟨[], some .byte⟩ := by decide +kernel
theorem pd_7_1 : parseMethodDescriptor "(Ljava/nio/charset/Charset;B[B)[B" = some ⟨[(.object "java/nio/charset/Charset"), .byte, (.array .byte)], some (.array .byte)⟩ := by decide +kernel
theorem ef_rm7 (m : MethodId) (x0 : Addr) (x1 : Addr) : entryFrame m #[(.ref x0), (.ref x1)] 2 = mkF m 0 #[.val (.ref x0), .val (.ref x1)] [] := by first | (simp [entryFrame, mkF, argsToLocals, Value.category]; done) | rfl
set_option maxRecDepth 65536 in
set_option maxHeartbeats 40000000 in
theorem rm7 (l : Launch) (Z : State) (a0 : Array Value) (hw : ∀ d ∈ tables_1, d.before a0 Z = true) (ws : List Jvm.Cond) (a1 : Addr) (a2 : Addr) (h0 : Heap) (n0 : Nat) (Z0 : n0 ≤ h0.size) (b : Addr) (kb : ClassId) (zl : Int32) (vl : List Value) (hz4 : zl.toNatClampNeg ≤ 4) (O : OwnStr Z h0 a1 b kb zl vl) (aU : Addr) (S_U : Sta Z h0 "sun/nio/cs/UTF_8" "INSTANCE" "Lsun/nio/cs/UTF_8;" (.ref aU)) (S_I : Sta Z h0 "sun/nio/cs/ISO_8859_1" "INSTANCE" "Lsun/nio/cs/ISO_8859_1;" (.ref a2)) (neU : ¬ a2 = aU) (cs : Int32) (S_CS : Sta Z h0 "java/lang/String" "COMPACT_STRINGS" "Z" (.int cs)) (hcs : ¬ cs = (0 : Int32)) :
    MetFree l (⟨"java/lang/String", "getBytes", "(Ljava/nio/charset/Charset;)[B"⟩ : MethodName) (head1 (Jvm.Cond.code (⟨"java/lang/String", "getBytes", "(Ljava/nio/charset/Charset;)[B"⟩ : MethodName) jdk_42_method_64_code 2 (some (.array .byte)) :: ws) ({ frames := 4, cells := 1, slots := 4, locals := 62 } : Room)) (fun a U => a = #[(.ref a1), (.ref a2)] ∧ Z.Warmed39 U.vm ∧ U.heap = h0) (fun _ _ _ _ _ => True) (fun _ U o U' => ∃ v L, o = .returned v ∧ QB Z zl vl h0 n0 v U'.heap L ∧ FrameEnd U o U' L ({ frames := 4, cells := 1, slots := 4, locals := 62 } : Room).cells ({ frames := 4, cells := 1, slots := 4, locals := 62 } : Room).slots) := by
  refine MetFree.of_bodySF (plainFor_of_name pn_7) hisR ?_
  intro p e s m args below meth c s₁ Bd hml0 hP hK
  obtain ⟨rfl, hZ, hh⟩ := hP
  have hx := Bd.exec
  have hby := Bd.bytes
  have hlk : meth.locks = false := BodyLoose.notSynchronized Bd
  have hml : c.maxLocals = 2 := hml0
  have hown : s.vm.findClass "java/lang/String" = some m.cls := findClass_of_methodNamed Bd.named
  have hnm := (name_of_methodNamed Bd.named Bd.method).1
  have X0 : Stand p l e ({ frames := 4, cells := 1, slots := 4, locals := 62 } : Room) s m #[(.ref a1), (.ref a2)] below meth c s₁ [] 0 0 := Stand.of_body Bd
  have e0 : s₁.heap = h0 := by rw [← hh, Bd.state]; rfl
  have N0 := Fr.nil n0
  show OwnEnds p e below s (QB Z zl vl h0 n0) ({ frames := 4, cells := 1, slots := 4, locals := 62 } : Room).cells ({ frames := 4, cells := 1, slots := 4, locals := 62 } : Room).slots s₁ (entryFrame m #[(.ref a1), (.ref a2)] 2)
  refine own_step (T' := s₁) (f' := (mkF m 0 #[.val (.ref a1), .val (.ref a2)] [])) (fun t k => castTop (ef_rm7 m a1 a2) k) ?_
  refine own_step (T' := s₁) (f' := (mkF m 1 #[.val (.ref a1), .val (.ref a2)] [(.ref a2)])) (fun t k => XS.aloadN X0.here hx rfl (hb hby d7_0) rfl rfl k) ?_
  refine own_step (T' := s₁) (f' := (mkF m 12 #[.val (.ref a1), .val (.ref a2)] [])) (fun t k => XS.ifnonnullYes X0.here hx rfl (pc0 := 1) (pc' := 12) rfl (hb hby d7_1) rfl (by decide) (by decide) k) ?_
  refine own_step (T' := s₁) (f' := (mkF m 13 #[.val (.ref a1), .val (.ref a2)] [(.ref a2)])) (fun t k => XS.aloadN X0.here hx rfl (hb hby d7_12) rfl rfl k) ?_
  refine own_step (T' := s₁) (f' := (mkF m 14 #[.val (.ref a1), .val (.ref a2)] [(.ref a1), (.ref a2)])) (fun t k => XS.aloadN X0.here hx rfl (hb hby d7_13) rfl rfl k) ?_
  obtain ⟨cq1, kq1, q1a, q1b, q1c⟩ := isOf hZ e0 O.1
  obtain ⟨_, _, ⟨T1, L1, k1, n1⟩, -, X1, ⟨Lc1, hQ1, l1, y1, z1⟩, st1⟩ := X0.virtualBack hx (y := (⟨"java/lang/String", "coder", "()B"⟩ : MethodName)) (z := (⟨"java/lang/String", "coder", "()B"⟩ : MethodName)) hown (mvT hZ (own_w hw 53 rfl)) (mvT hZ (own_w hw 54 rfl)) (notFace_of_selects (args := #[]) (mvT hZ (own_w hw 56 rfl))) (mvT hZ (own_w hw 56 rfl)) (mvT hZ (own_w hw 55 rfl)) (by decide) (backOf (W := 1) (rm8 l Z a0 hw [] a1 h0 n0 Z0 O.2.1 cs S_CS hcs) hZ (own_w hw 57 rfl) (own_w hw 11 rfl) (by decide) (by decide)) q1a q1c (g := (mkF m 14 #[.val (.ref a1), .val (.ref a2)] [(.ref a1), (.ref a2)])) rfl (by rw [hml]; rfl) (Steps.refl _) (argsL := []) (rest := [(.ref a2)]) (lenOf pd_7_0 rfl) rfl (by show 2 * 0 + _ ≤ _; exact Nat.le_of_eq rfl) (hb hby d7_14) (fun _ _ => ⟨rfl, e0, (by decide : 0 + 0 ≤ _), (by decide : 0 + 0 ≤ _)⟩)
  dsimp only [Pt.U, Pt.locs, Pt.cells, Pt.slots] at X1 l1 y1 z1 st1 hQ1
  subst l1 y1 z1
  obtain ⟨rfl, N1q, E1⟩ := hQ1
  have N1 := Fr.app N0 N1q
  refine own_step (T' := T1) (f' := (mkF m 17 #[.val (.ref a1), .val (.ref a2)] [(.int (0 : Int32)), (.ref a2)])) (fun t k => st1.trans k) ?_
  refine own_step (T' := T1) (f' := (mkF m 18 #[.val (.ref a1), .val (.ref a2)] [(.ref a1), (.int (0 : Int32)), (.ref a2)])) (fun t k => XS.aloadN X1.here hx rfl (hb hby d7_17) rfl rfl k) ?_
  obtain ⟨T2, X2, e2, st2⟩ := getF X1 hx hZ hown (host := "") (Or.inl (own_w hw 28 rfl)) Via.refl E1 O.2.2.1 (g := (mkF m 18 #[.val (.ref a1), .val (.ref a2)] [(.ref a1), (.int (0 : Int32)), (.ref a2)])) rfl rfl (hb hby d7_18)
  refine own_step (T' := T2) (f' := (mkF m 21 #[.val (.ref a1), .val (.ref a2)] [(.ref b), (.int (0 : Int32)), (.ref a2)])) (fun t k => st2 t k) ?_
  obtain ⟨_, _, ⟨T3, L3, k3, n3⟩, -, X3, ⟨Lc3, hQ3, l3, y3, z3⟩, st3⟩ := Jvm.LawKit.callS X2 hx (y := (⟨"java/lang/String", "encode", "(Ljava/nio/charset/Charset;B[B)[B"⟩ : MethodName)) hown (mvT hZ (own_w hw 59 rfl)) (mvT hZ (own_w hw 60 rfl)) (mvT hZ (own_w hw 11 rfl)) (mvT hZ (own_w hw 61 rfl)) (by decide) (backOf (W := 0) (rm9 l Z a0 hw [] a2 b h0 n0 Z0 kb zl vl hz4 O.2.2.2.1 O.2.2.2.2 aU S_U S_I neU) hZ (own_w hw 61 rfl) (own_w hw 11 rfl) (by decide) (by decide)) (g := (mkF m 21 #[.val (.ref a1), .val (.ref a2)] [(.ref b), (.int (0 : Int32)), (.ref a2)])) rfl (by rw [hml]; rfl) (argsL := [(.ref a2), (.int (0 : Int32)), (.ref b)]) (rest := []) (lenOf pd_7_1 rfl) rfl (by show 2 * 0 + _ ≤ _; exact Nat.le_of_eq rfl) (hb hby d7_21) (fun _ _ => ⟨rfl, e2, (by decide : 0 + 1 ≤ _), (by decide : 0 + 4 ≤ _)⟩)
  dsimp only [Pt.U, Pt.locs, Pt.cells, Pt.slots] at X3 l3 y3 z3 st3 hQ3
  subst l3 y3 z3
  obtain ⟨rb3, rk3, rfl, N3q, K3, zz3, Vr3, Er3⟩ := hQ3
  have N3 := Fr.app N1 N3q
  refine own_step (T' := T3) (f' := (mkF m 24 #[.val (.ref a1), .val (.ref a2)] [(.ref rb3)])) (fun t k => st3 t k) ?_
  exact own_retO X3 hx hlk Bd.returns rfl (Or.inr (Or.inr (Or.inr (Or.inr ⟨rfl, rfl, rfl⟩)))) (hb hby d7_24) (by decide) (by decide) ⟨rb3, rk3, rfl, N3, K3, zz3, Vr3, Er3⟩

def Q6 (Z : State) (a1 : Addr) (zl : Int32) (vl : List Value) (h0 : Heap) (n0 : Nat) (v : Option Value) (h : Heap) (L : List Loc) : Prop := v = none ∧ Fr n0 L ∧ Keep h0 h [a1] ∧ ∃ (b : Addr) (k : ClassId), Fld Z h a1 "com/example/lit2/lit2/input/Line" "start" "I" (.int (0 : Int32)) ∧ Fld Z h a1 "com/example/lit2/lit2/input/Line" "end" "I" (.int zl) ∧ Fld Z h a1 "com/example/lit2/lit2/input/Line" "characters" "[B" (.ref b) ∧ Arv Z h b k .byte zl vl (.int (0 : Int32))
theorem d6_0 : decode prog_18_method_1_code 0 = .ok (.aload_n 0, 1) := by decide +kernel
theorem d6_1 : decode prog_18_method_1_code 1 = .ok (.invokespecial 1, 3) := by decide +kernel
theorem d6_4 : decode prog_18_method_1_code 4 = .ok (.aload_n 0, 1) := by decide +kernel
theorem d6_5 : decode prog_18_method_1_code 5 = .ok (.aload_n 1, 1) := by decide +kernel
theorem d6_6 : decode prog_18_method_1_code 6 = .ok (.getstatic 7, 3) := by decide +kernel
theorem d6_9 : decode prog_18_method_1_code 9 = .ok (.invokevirtual 13, 3) := by decide +kernel
theorem d6_12 : decode prog_18_method_1_code 12 = .ok (.putfield 19, 3) := by decide +kernel
theorem d6_15 : decode prog_18_method_1_code 15 = .ok (.aload_n 0, 1) := by decide +kernel
theorem d6_16 : decode prog_18_method_1_code 16 = .ok (.iconst 0, 1) := by decide +kernel
theorem d6_17 : decode prog_18_method_1_code 17 = .ok (.putfield 25, 3) := by decide +kernel
theorem d6_20 : decode prog_18_method_1_code 20 = .ok (.aload_n 0, 1) := by decide +kernel
theorem d6_21 : decode prog_18_method_1_code 21 = .ok (.aload_n 0, 1) := by decide +kernel
theorem d6_22 : decode prog_18_method_1_code 22 = .ok (.getfield 19, 3) := by decide +kernel
theorem d6_25 : decode prog_18_method_1_code 25 = .ok (.arraylength, 1) := by decide +kernel
theorem d6_26 : decode prog_18_method_1_code 26 = .ok (.putfield 29, 3) := by decide +kernel
theorem d6_29 : decode prog_18_method_1_code 29 = .ok (.aload_n 0, 1) := by decide +kernel
theorem d6_30 : decode prog_18_method_1_code 30 = .ok (.aload_n 2, 1) := by decide +kernel
theorem d6_31 : decode prog_18_method_1_code 31 = .ok (.putfield 32, 3) := by decide +kernel
theorem d6_34 : decode prog_18_method_1_code 34 = .ok (.aload_n 0, 1) := by decide +kernel
theorem d6_35 : decode prog_18_method_1_code 35 = .ok (.iconst 0, 1) := by decide +kernel
theorem d6_36 : decode prog_18_method_1_code 36 = .ok (.putfield 36, 3) := by decide +kernel
theorem d6_39 : decode prog_18_method_1_code 39 = .ok (.aload_n 0, 1) := by decide +kernel
theorem d6_40 : decode prog_18_method_1_code 40 = .ok (.aload_n 1, 1) := by decide +kernel
theorem d6_41 : decode prog_18_method_1_code 41 = .ok (.putfield 39, 3) := by decide +kernel
theorem d6_44 : decode prog_18_method_1_code 44 = .ok (.return_, 1) := by decide +kernel
theorem pn_6 : plainName "com/example/lit2/lit2/input/Line" = true := by first | (simp [plainName, overriddenIn]; done) | decide +kernel
theorem pd_6_0 : parseMethodDescriptor "(Ljava/nio/charset/Charset;)[B" = some ⟨[(.object "java/nio/charset/Charset")], some (.array .byte)⟩ := by decide +kernel
theorem ef_rm6 (m : MethodId) (x0 : Addr) (x1 : Addr) (x2 : Addr) : entryFrame m #[(.ref x0), (.ref x1), (.ref x2)] 3 = mkF m 0 #[.val (.ref x0), .val (.ref x1), .val (.ref x2)] [] := by first | (simp [entryFrame, mkF, argsToLocals, Value.category]; done) | rfl
set_option maxRecDepth 65536 in
set_option maxHeartbeats 40000000 in
theorem rm6 (l : Launch) (Z : State) (a0 : Array Value) (hw : ∀ d ∈ tables_1, d.before a0 Z = true) (ws : List Jvm.Cond) (a1 : Addr) (a2 : Addr) (a3 : Addr) (h0 : Heap) (n0 : Nat) (Z0 : n0 ≤ h0.size) (E_a1 : Exa Z h0 a1 "com/example/lit2/lit2/input/Line") (F_characters_a1 : Fld Z h0 a1 "com/example/lit2/lit2/input/Line" "characters" "[B" .null) (F_start_a1 : Fld Z h0 a1 "com/example/lit2/lit2/input/Line" "start" "I" (.int (0 : Int32))) (F_end_a1 : Fld Z h0 a1 "com/example/lit2/lit2/input/Line" "end" "I" (.int (0 : Int32))) (F_location_a1 : Fld Z h0 a1 "com/example/lit2/lit2/input/Line" "location" "Lcom/example/lit2/lit2/model/Location;" .null) (F_marks_a1 : Fld Z h0 a1 "com/example/lit2/lit2/input/Line" "marks" "I" (.int (0 : Int32))) (F_text_a1 : Fld Z h0 a1 "com/example/lit2/lit2/input/Line" "text" "Ljava/lang/String;" .null) (g_a1 : n0 ≤ a1) (b : Addr) (kb : ClassId) (zl : Int32) (vl : List Value) (hz4 : zl.toNatClampNeg ≤ 4) (O : OwnStr Z h0 a2 b kb zl vl) (ai : Addr) (S_SC : Sta Z h0 "java/nio/charset/StandardCharsets" "ISO_8859_1" "Ljava/nio/charset/Charset;" (.ref ai)) (aU : Addr) (S_U : Sta Z h0 "sun/nio/cs/UTF_8" "INSTANCE" "Lsun/nio/cs/UTF_8;" (.ref aU)) (S_I : Sta Z h0 "sun/nio/cs/ISO_8859_1" "INSTANCE" "Lsun/nio/cs/ISO_8859_1;" (.ref ai)) (neU : ¬ ai = aU) (cs : Int32) (S_CS : Sta Z h0 "java/lang/String" "COMPACT_STRINGS" "Z" (.int cs)) (hcs : ¬ cs = (0 : Int32)) :
    MetFree l (⟨"com/example/lit2/lit2/input/Line", "<init>", "(Ljava/lang/String;Lcom/example/lit2/lit2/model/Location;)V"⟩ : MethodName) (head1 (Jvm.Cond.code (⟨"com/example/lit2/lit2/input/Line", "<init>", "(Ljava/lang/String;Lcom/example/lit2/lit2/model/Location;)V"⟩ : MethodName) prog_18_method_1_code 3 none :: ws) ({ frames := 5, cells := 1, slots := 4, locals := 76 } : Room)) (fun a U => a = #[(.ref a1), (.ref a2), (.ref a3)] ∧ Z.Warmed39 U.vm ∧ U.heap = h0) (fun _ _ _ _ _ => True) (fun _ U o U' => ∃ v L, o = .returned v ∧ Q6 Z a1 zl vl h0 n0 v U'.heap L ∧ FrameEnd U o U' L ({ frames := 5, cells := 1, slots := 4, locals := 76 } : Room).cells ({ frames := 5, cells := 1, slots := 4, locals := 76 } : Room).slots) := by
  refine MetFree.of_bodySF (plainFor_of_name pn_6) hisR ?_
  intro p e s m args below meth c s₁ Bd hml0 hP hK
  obtain ⟨rfl, hZ, hh⟩ := hP
  have hx := Bd.exec
  have hby := Bd.bytes
  have hlk : meth.locks = false := BodyLoose.notSynchronized Bd
  have hml : c.maxLocals = 3 := hml0
  have hown : s.vm.findClass "com/example/lit2/lit2/input/Line" = some m.cls := findClass_of_methodNamed Bd.named
  have hnm := (name_of_methodNamed Bd.named Bd.method).1
  have X0 : Stand p l e ({ frames := 5, cells := 1, slots := 4, locals := 76 } : Room) s m #[(.ref a1), (.ref a2), (.ref a3)] below meth c s₁ [] 0 0 := Stand.of_body Bd
  have e0 : s₁.heap = h0 := by rw [← hh, Bd.state]; rfl
  have N0 := Fr.nil n0
  have Zz := Z0
  have Kp : Keep h0 h0 [a1] := Keep.refl _ _
  show OwnEnds p e below s (Q6 Z a1 zl vl h0 n0) ({ frames := 5, cells := 1, slots := 4, locals := 76 } : Room).cells ({ frames := 5, cells := 1, slots := 4, locals := 76 } : Room).slots s₁ (entryFrame m #[(.ref a1), (.ref a2), (.ref a3)] 3)
  refine own_step (T' := s₁) (f' := (mkF m 0 #[.val (.ref a1), .val (.ref a2), .val (.ref a3)] [])) (fun t k => castTop (ef_rm6 m a1 a2 a3) k) ?_
  refine own_step (T' := s₁) (f' := (mkF m 1 #[.val (.ref a1), .val (.ref a2), .val (.ref a3)] [(.ref a1)])) (fun t k => XS.aloadN X0.here hx rfl (hb hby d6_0) rfl rfl k) ?_
  obtain ⟨T1, X1, e1, st1⟩ := initO X0 hx hZ hown (own_w hw 45 rfl) (own_w hw 20 rfl) (own_w hw 21 rfl) e0 (g := (mkF m 1 #[.val (.ref a1), .val (.ref a2), .val (.ref a3)] [(.ref a1)])) rfl (by rw [hml]; rfl) rfl (hb hby d6_1) (by decide) (W := 0) (by show 2 * 0 + _ ≤ _; exact Nat.le_of_eq rfl) (by decide)
  refine own_step (T' := T1) (f' := (mkF m 4 #[.val (.ref a1), .val (.ref a2), .val (.ref a3)] [])) (fun t k => st1 t k) ?_
  refine own_step (T' := T1) (f' := (mkF m 5 #[.val (.ref a1), .val (.ref a2), .val (.ref a3)] [(.ref a1)])) (fun t k => XS.aloadN X1.here hx rfl (hb hby d6_4) rfl rfl k) ?_
  refine own_step (T' := T1) (f' := (mkF m 6 #[.val (.ref a1), .val (.ref a2), .val (.ref a3)] [(.ref a2), (.ref a1)])) (fun t k => XS.aloadN X1.here hx rfl (hb hby d6_5) rfl rfl k) ?_
  obtain ⟨T2, X2, e2, st2⟩ := getS2 X1 hx hZ hown (host := "") (Or.inl (own_w hw 46 rfl)) Via.refl e1 S_SC (g := (mkF m 6 #[.val (.ref a1), .val (.ref a2), .val (.ref a3)] [(.ref a2), (.ref a1)])) rfl (hb hby d6_6)
  refine own_step (T' := T2) (f' := (mkF m 9 #[.val (.ref a1), .val (.ref a2), .val (.ref a3)] [(.ref ai), (.ref a2), (.ref a1)])) (fun t k => st2 t k) ?_
  obtain ⟨cq3, kq3, q3a, q3b, q3c⟩ := isOf hZ e2 O.1
  obtain ⟨_, _, ⟨T3, L3, k3, n3⟩, -, X3, ⟨Lc3, hQ3, l3, y3, z3⟩, st3⟩ := X2.virtualBack hx (y := (⟨"java/lang/String", "getBytes", "(Ljava/nio/charset/Charset;)[B"⟩ : MethodName)) (z := (⟨"java/lang/String", "getBytes", "(Ljava/nio/charset/Charset;)[B"⟩ : MethodName)) hown (mvT hZ (own_w hw 48 rfl)) (mvT hZ (own_w hw 49 rfl)) (notFace_of_selects (args := #[]) (mvT hZ (own_w hw 51 rfl))) (mvT hZ (own_w hw 51 rfl)) (mvT hZ (own_w hw 50 rfl)) (by decide) (backOf (W := 1) (rm7 l Z a0 hw [] a2 ai h0 n0 Zz b kb zl vl hz4 O aU S_U S_I neU cs S_CS hcs) hZ (own_w hw 52 rfl) (own_w hw 11 rfl) (by decide) (by decide)) q3a q3c (g := (mkF m 9 #[.val (.ref a1), .val (.ref a2), .val (.ref a3)] [(.ref ai), (.ref a2), (.ref a1)])) rfl (by rw [hml]; rfl) (Steps.refl _) (argsL := [(.ref ai)]) (rest := [(.ref a1)]) (lenOf pd_6_0 rfl) rfl (by show 2 * 0 + _ ≤ _; exact Nat.le_of_eq rfl) (hb hby d6_9) (fun _ _ => ⟨rfl, e2, (by decide : 0 + 1 ≤ _), (by decide : 0 + 4 ≤ _)⟩)
  dsimp only [Pt.U, Pt.locs, Pt.cells, Pt.slots] at X3 l3 y3 z3 st3 hQ3
  subst l3 y3 z3
  obtain ⟨rb3, rk3, rfl, N3q, K3, zz3, Vr3, Er3⟩ := hQ3
  have N3 := Fr.app N0 N3q
  have ne_a1_rb3 : a1 ≠ rb3 := Nat.ne_of_lt (Nat.lt_of_lt_of_le E_a1.lt zz3)
  replace E_a1 := E_a1.keep K3
  replace F_characters_a1 := F_characters_a1.keep K3 nin0
  replace F_start_a1 := F_start_a1.keep K3 nin0
  replace F_end_a1 := F_end_a1.keep K3 nin0
  replace F_location_a1 := F_location_a1.keep K3 nin0
  replace F_marks_a1 := F_marks_a1.keep K3 nin0
  replace F_text_a1 := F_text_a1.keep K3 nin0
  replace Zz := Nat.le_trans Zz K3.1
  replace Kp := Kp.trans K3 all0
  refine own_step (T' := T3) (f' := (mkF m 12 #[.val (.ref a1), .val (.ref a2), .val (.ref a3)] [(.ref rb3), (.ref a1)])) (fun t k => st3.trans k) ?_
  obtain ⟨T4, h4, X4, e4, W4, st4⟩ := putF X3 hx hZ hown (host := "") (Or.inl (own_w hw 81 rfl)) Via.refl rfl F_characters_a1 E_a1 (Or.inr ⟨(own_w hw 82 rfl), rfl, hnm⟩) (own_w hw 7 rfl) (ty := (.array .byte)) (by decide) rfl rfl (g := (mkF m 12 #[.val (.ref a1), .val (.ref a2), .val (.ref a3)] [(.ref rb3), (.ref a1)])) rfl rfl (hb hby d6_12)
  replace E_a1 := E_a1.wr W4
  replace F_characters_a1 := F_characters_a1.same W4
  replace F_start_a1 := F_start_a1.other W4 (Or.inr (Jvm.RoadKit.slot_ne (Or.inr (own_w hw 84 rfl)) (Or.inr (own_w hw 82 rfl)) (by decide) (t := .int) (t' := (.array .byte)) (by decide) (by decide)))
  replace F_end_a1 := F_end_a1.other W4 (Or.inr (Jvm.RoadKit.slot_ne (Or.inr (own_w hw 86 rfl)) (Or.inr (own_w hw 82 rfl)) (by decide) (t := .int) (t' := (.array .byte)) (by decide) (by decide)))
  replace F_location_a1 := F_location_a1.other W4 (Or.inr (Jvm.RoadKit.slot_ne (Or.inr (own_w hw 88 rfl)) (Or.inr (own_w hw 82 rfl)) (by decide) (t := (.object "com/example/lit2/lit2/model/Location")) (t' := (.array .byte)) (by decide) (by decide)))
  replace F_marks_a1 := F_marks_a1.other W4 (Or.inr (Jvm.RoadKit.slot_ne (Or.inr (own_w hw 90 rfl)) (Or.inr (own_w hw 82 rfl)) (by decide) (t := .int) (t' := (.array .byte)) (by decide) (by decide)))
  replace F_text_a1 := F_text_a1.other W4 (Or.inr (Jvm.RoadKit.slot_ne (Or.inl (own_w hw 92 rfl)) (Or.inr (own_w hw 82 rfl)) (by decide) (t := (.object "java/lang/String")) (t' := (.array .byte)) (by decide) (by decide)))
  replace Vr3 := Vr3.other W4 (Ne.symm ne_a1_rb3)
  replace Zz := Nat.le_trans Zz (Keep.of_wr W4).1
  replace Kp := Kp.wr W4 (Or.inl (List.mem_of_getElem? (i := 0) rfl))
  have N4 := Fr.snoc X4 N3 g_a1
  refine own_step (T' := T4) (f' := (mkF m 15 #[.val (.ref a1), .val (.ref a2), .val (.ref a3)] [])) (fun t k => st4 t k) ?_
  refine own_step (T' := T4) (f' := (mkF m 16 #[.val (.ref a1), .val (.ref a2), .val (.ref a3)] [(.ref a1)])) (fun t k => XS.aloadN X4.here hx rfl (hb hby d6_15) rfl rfl k) ?_
  refine own_step (T' := T4) (f' := (mkF m 17 #[.val (.ref a1), .val (.ref a2), .val (.ref a3)] [(.int (0 : Int32)), (.ref a1)])) (fun t k => XS.iconst X4.here hx rfl (hb hby d6_16) k) ?_
  obtain ⟨T5, h5, X5, e5, W5, st5⟩ := putF X4 hx hZ hown (host := "") (Or.inl (own_w hw 83 rfl)) Via.refl e4 F_start_a1 E_a1 (Or.inr ⟨(own_w hw 84 rfl), rfl, hnm⟩) (own_w hw 7 rfl) (ty := .int) (by decide) rfl rfl (g := (mkF m 17 #[.val (.ref a1), .val (.ref a2), .val (.ref a3)] [(.int (0 : Int32)), (.ref a1)])) rfl rfl (hb hby d6_17)
  replace E_a1 := E_a1.wr W5
  replace F_characters_a1 := F_characters_a1.other W5 (Or.inr (Jvm.RoadKit.slot_ne (Or.inr (own_w hw 82 rfl)) (Or.inr (own_w hw 84 rfl)) (by decide) (t := (.array .byte)) (t' := .int) (by decide) (by decide)))
  replace F_start_a1 := F_start_a1.same W5
  replace F_end_a1 := F_end_a1.other W5 (Or.inr (Jvm.RoadKit.slot_ne (Or.inr (own_w hw 86 rfl)) (Or.inr (own_w hw 84 rfl)) (by decide) (t := .int) (t' := .int) (by decide) (by decide)))
  replace F_location_a1 := F_location_a1.other W5 (Or.inr (Jvm.RoadKit.slot_ne (Or.inr (own_w hw 88 rfl)) (Or.inr (own_w hw 84 rfl)) (by decide) (t := (.object "com/example/lit2/lit2/model/Location")) (t' := .int) (by decide) (by decide)))
  replace F_marks_a1 := F_marks_a1.other W5 (Or.inr (Jvm.RoadKit.slot_ne (Or.inr (own_w hw 90 rfl)) (Or.inr (own_w hw 84 rfl)) (by decide) (t := .int) (t' := .int) (by decide) (by decide)))
  replace F_text_a1 := F_text_a1.other W5 (Or.inr (Jvm.RoadKit.slot_ne (Or.inl (own_w hw 92 rfl)) (Or.inr (own_w hw 84 rfl)) (by decide) (t := (.object "java/lang/String")) (t' := .int) (by decide) (by decide)))
  replace Vr3 := Vr3.other W5 (Ne.symm ne_a1_rb3)
  replace Zz := Nat.le_trans Zz (Keep.of_wr W5).1
  replace Kp := Kp.wr W5 (Or.inl (List.mem_of_getElem? (i := 0) rfl))
  have N5 := Fr.snoc X5 N4 g_a1
  refine own_step (T' := T5) (f' := (mkF m 20 #[.val (.ref a1), .val (.ref a2), .val (.ref a3)] [])) (fun t k => st5 t k) ?_
  refine own_step (T' := T5) (f' := (mkF m 21 #[.val (.ref a1), .val (.ref a2), .val (.ref a3)] [(.ref a1)])) (fun t k => XS.aloadN X5.here hx rfl (hb hby d6_20) rfl rfl k) ?_
  refine own_step (T' := T5) (f' := (mkF m 22 #[.val (.ref a1), .val (.ref a2), .val (.ref a3)] [(.ref a1), (.ref a1)])) (fun t k => XS.aloadN X5.here hx rfl (hb hby d6_21) rfl rfl k) ?_
  obtain ⟨T6, X6, e6, st6⟩ := getF X5 hx hZ hown (host := "") (Or.inl (own_w hw 81 rfl)) Via.refl e5 F_characters_a1 (g := (mkF m 22 #[.val (.ref a1), .val (.ref a2), .val (.ref a3)] [(.ref a1), (.ref a1)])) rfl rfl (hb hby d6_22)
  refine own_step (T' := T6) (f' := (mkF m 25 #[.val (.ref a1), .val (.ref a2), .val (.ref a3)] [(.ref rb3), (.ref a1)])) (fun t k => st6 t k) ?_
  obtain ⟨cl7, Ar7, q7, S7, M7, H7, G7⟩ := id Vr3
  refine own_step (T' := T6) (f' := (mkF m 26 #[.val (.ref a1), .val (.ref a2), .val (.ref a3)] [(.int zl), (.ref a1)])) (fun t k => X6.arraylength hx (by rw [e6]; exact Ar7.1) (State.isArrayOf_alike hZ.alike Ar7.2.1) (g := (mkF m 25 #[.val (.ref a1), .val (.ref a2), .val (.ref a3)] [(.ref rb3), (.ref a1)])) rfl rfl (hb hby d6_25) _ (by rw [len_of S7 M7]; exact k)) ?_
  obtain ⟨T8, h8, X8, e8, W8, st8⟩ := putF X6 hx hZ hown (host := "") (Or.inl (own_w hw 85 rfl)) Via.refl e6 F_end_a1 E_a1 (Or.inr ⟨(own_w hw 86 rfl), rfl, hnm⟩) (own_w hw 7 rfl) (ty := .int) (by decide) rfl rfl (g := (mkF m 26 #[.val (.ref a1), .val (.ref a2), .val (.ref a3)] [(.int zl), (.ref a1)])) rfl rfl (hb hby d6_26)
  replace E_a1 := E_a1.wr W8
  replace F_characters_a1 := F_characters_a1.other W8 (Or.inr (Jvm.RoadKit.slot_ne (Or.inr (own_w hw 82 rfl)) (Or.inr (own_w hw 86 rfl)) (by decide) (t := (.array .byte)) (t' := .int) (by decide) (by decide)))
  replace F_start_a1 := F_start_a1.other W8 (Or.inr (Jvm.RoadKit.slot_ne (Or.inr (own_w hw 84 rfl)) (Or.inr (own_w hw 86 rfl)) (by decide) (t := .int) (t' := .int) (by decide) (by decide)))
  replace F_end_a1 := F_end_a1.same W8
  replace F_location_a1 := F_location_a1.other W8 (Or.inr (Jvm.RoadKit.slot_ne (Or.inr (own_w hw 88 rfl)) (Or.inr (own_w hw 86 rfl)) (by decide) (t := (.object "com/example/lit2/lit2/model/Location")) (t' := .int) (by decide) (by decide)))
  replace F_marks_a1 := F_marks_a1.other W8 (Or.inr (Jvm.RoadKit.slot_ne (Or.inr (own_w hw 90 rfl)) (Or.inr (own_w hw 86 rfl)) (by decide) (t := .int) (t' := .int) (by decide) (by decide)))
  replace F_text_a1 := F_text_a1.other W8 (Or.inr (Jvm.RoadKit.slot_ne (Or.inl (own_w hw 92 rfl)) (Or.inr (own_w hw 86 rfl)) (by decide) (t := (.object "java/lang/String")) (t' := .int) (by decide) (by decide)))
  replace Vr3 := Vr3.other W8 (Ne.symm ne_a1_rb3)
  replace Zz := Nat.le_trans Zz (Keep.of_wr W8).1
  replace Kp := Kp.wr W8 (Or.inl (List.mem_of_getElem? (i := 0) rfl))
  have N8 := Fr.snoc X8 N5 g_a1
  refine own_step (T' := T8) (f' := (mkF m 29 #[.val (.ref a1), .val (.ref a2), .val (.ref a3)] [])) (fun t k => st8 t k) ?_
  refine own_step (T' := T8) (f' := (mkF m 30 #[.val (.ref a1), .val (.ref a2), .val (.ref a3)] [(.ref a1)])) (fun t k => XS.aloadN X8.here hx rfl (hb hby d6_29) rfl rfl k) ?_
  refine own_step (T' := T8) (f' := (mkF m 31 #[.val (.ref a1), .val (.ref a2), .val (.ref a3)] [(.ref a3), (.ref a1)])) (fun t k => XS.aloadN X8.here hx rfl (hb hby d6_30) rfl rfl k) ?_
  obtain ⟨T9, h9, X9, e9, W9, st9⟩ := putF X8 hx hZ hown (host := "") (Or.inl (own_w hw 87 rfl)) Via.refl e8 F_location_a1 E_a1 (Or.inr ⟨(own_w hw 88 rfl), rfl, hnm⟩) (own_w hw 7 rfl) (ty := (.object "com/example/lit2/lit2/model/Location")) (by decide) rfl rfl (g := (mkF m 31 #[.val (.ref a1), .val (.ref a2), .val (.ref a3)] [(.ref a3), (.ref a1)])) rfl rfl (hb hby d6_31)
  replace E_a1 := E_a1.wr W9
  replace F_characters_a1 := F_characters_a1.other W9 (Or.inr (Jvm.RoadKit.slot_ne (Or.inr (own_w hw 82 rfl)) (Or.inr (own_w hw 88 rfl)) (by decide) (t := (.array .byte)) (t' := (.object "com/example/lit2/lit2/model/Location")) (by decide) (by decide)))
  replace F_start_a1 := F_start_a1.other W9 (Or.inr (Jvm.RoadKit.slot_ne (Or.inr (own_w hw 84 rfl)) (Or.inr (own_w hw 88 rfl)) (by decide) (t := .int) (t' := (.object "com/example/lit2/lit2/model/Location")) (by decide) (by decide)))
  replace F_end_a1 := F_end_a1.other W9 (Or.inr (Jvm.RoadKit.slot_ne (Or.inr (own_w hw 86 rfl)) (Or.inr (own_w hw 88 rfl)) (by decide) (t := .int) (t' := (.object "com/example/lit2/lit2/model/Location")) (by decide) (by decide)))
  replace F_location_a1 := F_location_a1.same W9
  replace F_marks_a1 := F_marks_a1.other W9 (Or.inr (Jvm.RoadKit.slot_ne (Or.inr (own_w hw 90 rfl)) (Or.inr (own_w hw 88 rfl)) (by decide) (t := .int) (t' := (.object "com/example/lit2/lit2/model/Location")) (by decide) (by decide)))
  replace F_text_a1 := F_text_a1.other W9 (Or.inr (Jvm.RoadKit.slot_ne (Or.inl (own_w hw 92 rfl)) (Or.inr (own_w hw 88 rfl)) (by decide) (t := (.object "java/lang/String")) (t' := (.object "com/example/lit2/lit2/model/Location")) (by decide) (by decide)))
  replace Vr3 := Vr3.other W9 (Ne.symm ne_a1_rb3)
  replace Zz := Nat.le_trans Zz (Keep.of_wr W9).1
  replace Kp := Kp.wr W9 (Or.inl (List.mem_of_getElem? (i := 0) rfl))
  have N9 := Fr.snoc X9 N8 g_a1
  refine own_step (T' := T9) (f' := (mkF m 34 #[.val (.ref a1), .val (.ref a2), .val (.ref a3)] [])) (fun t k => st9 t k) ?_
  refine own_step (T' := T9) (f' := (mkF m 35 #[.val (.ref a1), .val (.ref a2), .val (.ref a3)] [(.ref a1)])) (fun t k => XS.aloadN X9.here hx rfl (hb hby d6_34) rfl rfl k) ?_
  refine own_step (T' := T9) (f' := (mkF m 36 #[.val (.ref a1), .val (.ref a2), .val (.ref a3)] [(.int (0 : Int32)), (.ref a1)])) (fun t k => XS.iconst X9.here hx rfl (hb hby d6_35) k) ?_
  obtain ⟨T10, h10, X10, e10, W10, st10⟩ := putF X9 hx hZ hown (host := "") (Or.inl (own_w hw 89 rfl)) Via.refl e9 F_marks_a1 E_a1 (Or.inr ⟨(own_w hw 90 rfl), rfl, hnm⟩) (own_w hw 7 rfl) (ty := .int) (by decide) rfl rfl (g := (mkF m 36 #[.val (.ref a1), .val (.ref a2), .val (.ref a3)] [(.int (0 : Int32)), (.ref a1)])) rfl rfl (hb hby d6_36)
  replace E_a1 := E_a1.wr W10
  replace F_characters_a1 := F_characters_a1.other W10 (Or.inr (Jvm.RoadKit.slot_ne (Or.inr (own_w hw 82 rfl)) (Or.inr (own_w hw 90 rfl)) (by decide) (t := (.array .byte)) (t' := .int) (by decide) (by decide)))
  replace F_start_a1 := F_start_a1.other W10 (Or.inr (Jvm.RoadKit.slot_ne (Or.inr (own_w hw 84 rfl)) (Or.inr (own_w hw 90 rfl)) (by decide) (t := .int) (t' := .int) (by decide) (by decide)))
  replace F_end_a1 := F_end_a1.other W10 (Or.inr (Jvm.RoadKit.slot_ne (Or.inr (own_w hw 86 rfl)) (Or.inr (own_w hw 90 rfl)) (by decide) (t := .int) (t' := .int) (by decide) (by decide)))
  replace F_location_a1 := F_location_a1.other W10 (Or.inr (Jvm.RoadKit.slot_ne (Or.inr (own_w hw 88 rfl)) (Or.inr (own_w hw 90 rfl)) (by decide) (t := (.object "com/example/lit2/lit2/model/Location")) (t' := .int) (by decide) (by decide)))
  replace F_marks_a1 := F_marks_a1.same W10
  replace F_text_a1 := F_text_a1.other W10 (Or.inr (Jvm.RoadKit.slot_ne (Or.inl (own_w hw 92 rfl)) (Or.inr (own_w hw 90 rfl)) (by decide) (t := (.object "java/lang/String")) (t' := .int) (by decide) (by decide)))
  replace Vr3 := Vr3.other W10 (Ne.symm ne_a1_rb3)
  replace Zz := Nat.le_trans Zz (Keep.of_wr W10).1
  replace Kp := Kp.wr W10 (Or.inl (List.mem_of_getElem? (i := 0) rfl))
  have N10 := Fr.snoc X10 N9 g_a1
  refine own_step (T' := T10) (f' := (mkF m 39 #[.val (.ref a1), .val (.ref a2), .val (.ref a3)] [])) (fun t k => st10 t k) ?_
  refine own_step (T' := T10) (f' := (mkF m 40 #[.val (.ref a1), .val (.ref a2), .val (.ref a3)] [(.ref a1)])) (fun t k => XS.aloadN X10.here hx rfl (hb hby d6_39) rfl rfl k) ?_
  refine own_step (T' := T10) (f' := (mkF m 41 #[.val (.ref a1), .val (.ref a2), .val (.ref a3)] [(.ref a2), (.ref a1)])) (fun t k => XS.aloadN X10.here hx rfl (hb hby d6_40) rfl rfl k) ?_
  obtain ⟨T11, h11, X11, e11, W11, st11⟩ := putF X10 hx hZ hown (host := "") (Or.inl (own_w hw 91 rfl)) Via.refl e10 F_text_a1 E_a1 (Or.inl (own_w hw 92 rfl)) (own_w hw 7 rfl) (ty := (.object "java/lang/String")) (by decide) rfl rfl (g := (mkF m 41 #[.val (.ref a1), .val (.ref a2), .val (.ref a3)] [(.ref a2), (.ref a1)])) rfl rfl (hb hby d6_41)
  replace E_a1 := E_a1.wr W11
  replace F_characters_a1 := F_characters_a1.other W11 (Or.inr (Jvm.RoadKit.slot_ne (Or.inr (own_w hw 82 rfl)) (Or.inl (own_w hw 92 rfl)) (by decide) (t := (.array .byte)) (t' := (.object "java/lang/String")) (by decide) (by decide)))
  replace F_start_a1 := F_start_a1.other W11 (Or.inr (Jvm.RoadKit.slot_ne (Or.inr (own_w hw 84 rfl)) (Or.inl (own_w hw 92 rfl)) (by decide) (t := .int) (t' := (.object "java/lang/String")) (by decide) (by decide)))
  replace F_end_a1 := F_end_a1.other W11 (Or.inr (Jvm.RoadKit.slot_ne (Or.inr (own_w hw 86 rfl)) (Or.inl (own_w hw 92 rfl)) (by decide) (t := .int) (t' := (.object "java/lang/String")) (by decide) (by decide)))
  replace F_location_a1 := F_location_a1.other W11 (Or.inr (Jvm.RoadKit.slot_ne (Or.inr (own_w hw 88 rfl)) (Or.inl (own_w hw 92 rfl)) (by decide) (t := (.object "com/example/lit2/lit2/model/Location")) (t' := (.object "java/lang/String")) (by decide) (by decide)))
  replace F_marks_a1 := F_marks_a1.other W11 (Or.inr (Jvm.RoadKit.slot_ne (Or.inr (own_w hw 90 rfl)) (Or.inl (own_w hw 92 rfl)) (by decide) (t := .int) (t' := (.object "java/lang/String")) (by decide) (by decide)))
  replace F_text_a1 := F_text_a1.same W11
  replace Vr3 := Vr3.other W11 (Ne.symm ne_a1_rb3)
  replace Zz := Nat.le_trans Zz (Keep.of_wr W11).1
  replace Kp := Kp.wr W11 (Or.inl (List.mem_of_getElem? (i := 0) rfl))
  have N11 := Fr.snoc X11 N10 g_a1
  refine own_step (T' := T11) (f' := (mkF m 44 #[.val (.ref a1), .val (.ref a2), .val (.ref a3)] [])) (fun t k => st11 t k) ?_
  exact own_retV X11 hx hlk Bd.returns (hb hby d6_44) (by decide) (by decide) (by rw [e11]; exact ⟨rfl, N11, Kp, rb3, rk3, F_start_a1, F_end_a1, F_characters_a1, Vr3⟩)

theorem d12_0 : decode prog_18_method_9_code 0 = .ok (.aload_n 0, 1) := by decide +kernel
theorem d12_1 : decode prog_18_method_9_code 1 = .ok (.getfield 25, 3) := by decide +kernel
theorem d12_4 : decode prog_18_method_9_code 4 = .ok (.istore_n 1, 1) := by decide +kernel
theorem d12_5 : decode prog_18_method_9_code 5 = .ok (.iload_n 1, 1) := by decide +kernel
theorem d12_6 : decode prog_18_method_9_code 6 = .ok (.aload_n 0, 1) := by decide +kernel
theorem d12_7 : decode prog_18_method_9_code 7 = .ok (.getfield 29, 3) := by decide +kernel
theorem d12_10 : decode prog_18_method_9_code 10 = .ok (.if_icmp .ge 31, 3) := by decide +kernel
theorem d12_41 : decode prog_18_method_9_code 41 = .ok (.iload_n 1, 1) := by decide +kernel
theorem d12_42 : decode prog_18_method_9_code 42 = .ok (.aload_n 0, 1) := by decide +kernel
theorem d12_43 : decode prog_18_method_9_code 43 = .ok (.getfield 29, 3) := by decide +kernel
theorem d12_46 : decode prog_18_method_9_code 46 = .ok (.if_icmp .ge 67, 3) := by decide +kernel
theorem d12_113 : decode prog_18_method_9_code 113 = .ok (.iconst 0, 1) := by decide +kernel
theorem d12_114 : decode prog_18_method_9_code 114 = .ok (.ireturn, 1) := by decide +kernel
theorem pn_12 : plainName "com/example/lit2/lit2/input/Line" = true := by first | (simp [plainName, overriddenIn]; done) | decide +kernel
theorem ef_rm12_0 (m : MethodId) (x0 : Addr) : entryFrame m #[(.ref x0)] 2 = mkF m 0 #[.val (.ref x0), .unset] [] := by first | (simp [entryFrame, mkF, argsToLocals, Value.category]; done) | rfl
set_option maxRecDepth 65536 in
set_option maxHeartbeats 40000000 in
theorem rm12_0 (l : Launch) (Z : State) (a0 : Array Value) (hw : ∀ d ∈ tables_1, d.before a0 Z = true) (ws : List Jvm.Cond) (a1 : Addr) (h0 : Heap) (n0 : Nat) (Z0 : n0 ≤ h0.size) (b : Addr) (kb : ClassId) (F_s : Fld Z h0 a1 "com/example/lit2/lit2/input/Line" "start" "I" (.int (0 : Int32))) (F_e : Fld Z h0 a1 "com/example/lit2/lit2/input/Line" "end" "I" (.int (0 : Int32))) (F_ch : Fld Z h0 a1 "com/example/lit2/lit2/input/Line" "characters" "[B" (.ref b)) (V_b : Arv Z h0 b kb .byte (0 : Int32) [] (.int (0 : Int32))) :
    MetFree l (⟨"com/example/lit2/lit2/input/Line", "beginsSection", "()Z"⟩ : MethodName) (head1 (Jvm.Cond.code (⟨"com/example/lit2/lit2/input/Line", "beginsSection", "()Z"⟩ : MethodName) prog_18_method_9_code 2 (some .boolean) :: ws) ({ frames := 0, cells := 0, slots := 0, locals := 0 } : Room)) (fun a U => a = #[(.ref a1)] ∧ Z.Warmed39 U.vm ∧ U.heap = h0) (fun _ _ _ _ _ => True) (fun _ U o U' => ∃ v L, o = .returned v ∧ QI (own_bs []) h0 n0 v U'.heap L ∧ FrameEnd U o U' L ({ frames := 0, cells := 0, slots := 0, locals := 0 } : Room).cells ({ frames := 0, cells := 0, slots := 0, locals := 0 } : Room).slots) := by
  refine MetFree.of_bodySF (plainFor_of_name pn_12) hisR ?_
  intro p e s m args below meth c s₁ Bd hml0 hP hK
  obtain ⟨rfl, hZ, hh⟩ := hP
  have hx := Bd.exec
  have hby := Bd.bytes
  have hlk : meth.locks = false := BodyLoose.notSynchronized Bd
  have hml : c.maxLocals = 2 := hml0
  have hown : s.vm.findClass "com/example/lit2/lit2/input/Line" = some m.cls := findClass_of_methodNamed Bd.named
  have hnm := (name_of_methodNamed Bd.named Bd.method).1
  have X0 : Stand p l e ({ frames := 0, cells := 0, slots := 0, locals := 0 } : Room) s m #[(.ref a1)] below meth c s₁ [] 0 0 := Stand.of_body Bd
  have e0 : s₁.heap = h0 := by rw [← hh, Bd.state]; rfl
  have N0 := Fr.nil n0
  have Zz := Z0
  have Kp : Keep h0 h0 [] := Keep.refl _ _
  show OwnEnds p e below s (QI (own_bs []) h0 n0) ({ frames := 0, cells := 0, slots := 0, locals := 0 } : Room).cells ({ frames := 0, cells := 0, slots := 0, locals := 0 } : Room).slots s₁ (entryFrame m #[(.ref a1)] 2)
  refine own_step (T' := s₁) (f' := (mkF m 0 #[.val (.ref a1), .unset] [])) (fun t k => castTop (ef_rm12_0 m a1) k) ?_
  refine own_step (T' := s₁) (f' := (mkF m 1 #[.val (.ref a1), .unset] [(.ref a1)])) (fun t k => XS.aloadN X0.here hx rfl (hb hby d12_0) rfl rfl k) ?_
  obtain ⟨T1, X1, e1, st1⟩ := getF X0 hx hZ hown (host := "") (Or.inl (own_w hw 83 rfl)) Via.refl e0 F_s (g := (mkF m 1 #[.val (.ref a1), .unset] [(.ref a1)])) rfl rfl (hb hby d12_1)
  refine own_step (T' := T1) (f' := (mkF m 4 #[.val (.ref a1), .unset] [(.int (0 : Int32))])) (fun t k => st1 t k) ?_
  refine own_step (T' := T1) (f' := (mkF m 5 #[.val (.ref a1), .val (.int (0 : Int32))] [])) (fun t k => XS.istoreN X1.here hx rfl (hb hby d12_4) rfl (l' := #[.val (.ref a1), .val (.int (0 : Int32))]) rfl k) ?_
  refine own_step (T' := T1) (f' := (mkF m 6 #[.val (.ref a1), .val (.int (0 : Int32))] [(.int (0 : Int32))])) (fun t k => XS.iloadN X1.here hx rfl (hb hby d12_5) rfl k) ?_
  refine own_step (T' := T1) (f' := (mkF m 7 #[.val (.ref a1), .val (.int (0 : Int32))] [(.ref a1), (.int (0 : Int32))])) (fun t k => XS.aloadN X1.here hx rfl (hb hby d12_6) rfl rfl k) ?_
  obtain ⟨T2, X2, e2, st2⟩ := getF X1 hx hZ hown (host := "") (Or.inl (own_w hw 85 rfl)) Via.refl e1 F_e (g := (mkF m 7 #[.val (.ref a1), .val (.int (0 : Int32))] [(.ref a1), (.int (0 : Int32))])) rfl rfl (hb hby d12_7)
  refine own_step (T' := T2) (f' := (mkF m 10 #[.val (.ref a1), .val (.int (0 : Int32))] [(.int (0 : Int32)), (.int (0 : Int32))])) (fun t k => st2 t k) ?_
  refine own_step (T' := T2) (f' := (mkF m 41 #[.val (.ref a1), .val (.int (0 : Int32))] [])) (fun t k => XS.icmpYes X2.here hx rfl (pc0 := 10) (pc' := 41) rfl (hb hby d12_10) rfl (flt (by decide : ¬ ((0 : Int32) < (0 : Int32)))).2.1 (by decide) (by decide) k) ?_
  refine own_step (T' := T2) (f' := (mkF m 42 #[.val (.ref a1), .val (.int (0 : Int32))] [(.int (0 : Int32))])) (fun t k => XS.iloadN X2.here hx rfl (hb hby d12_41) rfl k) ?_
  refine own_step (T' := T2) (f' := (mkF m 43 #[.val (.ref a1), .val (.int (0 : Int32))] [(.ref a1), (.int (0 : Int32))])) (fun t k => XS.aloadN X2.here hx rfl (hb hby d12_42) rfl rfl k) ?_
  obtain ⟨T3, X3, e3, st3⟩ := getF X2 hx hZ hown (host := "") (Or.inl (own_w hw 85 rfl)) Via.refl e2 F_e (g := (mkF m 43 #[.val (.ref a1), .val (.int (0 : Int32))] [(.ref a1), (.int (0 : Int32))])) rfl rfl (hb hby d12_43)
  refine own_step (T' := T3) (f' := (mkF m 46 #[.val (.ref a1), .val (.int (0 : Int32))] [(.int (0 : Int32)), (.int (0 : Int32))])) (fun t k => st3 t k) ?_
  refine own_step (T' := T3) (f' := (mkF m 113 #[.val (.ref a1), .val (.int (0 : Int32))] [])) (fun t k => XS.icmpYes X3.here hx rfl (pc0 := 46) (pc' := 113) rfl (hb hby d12_46) rfl (flt (by decide : ¬ ((0 : Int32) < (0 : Int32)))).2.1 (by decide) (by decide) k) ?_
  refine own_step (T' := T3) (f' := (mkF m 114 #[.val (.ref a1), .val (.int (0 : Int32))] [(.int (0 : Int32))])) (fun t k => XS.iconst X3.here hx rfl (hb hby d12_113) k) ?_
  exact own_retN X3 hx hlk (t := .boolean) Bd.returns (by simp) (hb hby d12_114) (by decide) (by decide) ⟨rfl, N0, e3⟩

def Q3_0 (Z : State) (a1 : Addr) (h0 : Heap) (n0 : Nat) (v : Option Value) (h : Heap) (L : List Loc) : Prop := v = none ∧ Fr n0 L ∧ Keep h0 h [a1] ∧ ∃ (b : Addr) (k : ClassId), OwnStr Z h a1 b k 0 []
theorem d3_0 : decode jdk_42_method_149_code 0 = .ok (.aload_n 0, 1) := by decide +kernel
theorem d3_1 : decode jdk_42_method_149_code 1 = .ok (.invokespecial 1, 3) := by decide +kernel
theorem d3_4 : decode jdk_42_method_149_code 4 = .ok (.iload_n 3, 1) := by decide +kernel
theorem d3_5 : decode jdk_42_method_149_code 5 = .ok (.ifCond .ne 22, 3) := by decide +kernel
theorem d3_8 : decode jdk_42_method_149_code 8 = .ok (.aload_n 0, 1) := by decide +kernel
theorem d3_9 : decode jdk_42_method_149_code 9 = .ok (.ldc 7, 2) := by decide +kernel
theorem d3_11 : decode jdk_42_method_149_code 11 = .ok (.getfield 9, 3) := by decide +kernel
theorem d3_14 : decode jdk_42_method_149_code 14 = .ok (.putfield 9, 3) := by decide +kernel
theorem d3_17 : decode jdk_42_method_149_code 17 = .ok (.aload_n 0, 1) := by decide +kernel
theorem d3_18 : decode jdk_42_method_149_code 18 = .ok (.ldc 7, 2) := by decide +kernel
theorem d3_20 : decode jdk_42_method_149_code 20 = .ok (.getfield 15, 3) := by decide +kernel
theorem d3_23 : decode jdk_42_method_149_code 23 = .ok (.putfield 15, 3) := by decide +kernel
theorem d3_26 : decode jdk_42_method_149_code 26 = .ok (.return_, 1) := by decide +kernel
theorem pn_3 : plainName "java/lang/String" = true := by first | (simp [plainName, overriddenIn]; done) | decide +kernel
theorem ef_rm3_0 (m : MethodId) (x0 : Addr) (x1 : Addr) (x2 : Int32) (x3 : Int32) : entryFrame m #[(.ref x0), (.ref x1), (.int x2), (.int x3), .null] 6 = mkF m 0 #[.val (.ref x0), .val (.ref x1), .val (.int x2), .val (.int x3), .val .null, .unset] [] := by first | (simp [entryFrame, mkF, argsToLocals, Value.category]; done) | rfl
set_option maxRecDepth 65536 in
set_option maxHeartbeats 40000000 in
theorem rm3_0 (l : Launch) (Z : State) (a0 : Array Value) (hw : ∀ d ∈ tables_1, d.before a0 Z = true) (ws : List Jvm.Cond) (a1 : Addr) (a2 : Addr) (h0 : Heap) (n0 : Nat) (Z0 : n0 ≤ h0.size) (E_a1 : Exa Z h0 a1 "java/lang/String") (F_value_a1 : Fld Z h0 a1 "java/lang/String" "value" "[B" .null) (F_coder_a1 : Fld Z h0 a1 "java/lang/String" "coder" "B" (.int (0 : Int32))) (g_a1 : n0 ≤ a1) (hEL : EW Z a0 ownEL) :
    MetFree l (⟨"java/lang/String", "<init>", "([CIILjava/lang/Void;)V"⟩ : MethodName) (head1 (Jvm.Cond.code (⟨"java/lang/String", "<init>", "([CIILjava/lang/Void;)V"⟩ : MethodName) jdk_42_method_149_code 6 none :: ws) ({ frames := 1, cells := 2, slots := 4, locals := 12 } : Room)) (fun a U => a = #[(.ref a1), (.ref a2), (.int (0 : Int32)), (.int (0 : Int32)), .null] ∧ Z.Warmed39 U.vm ∧ U.heap = h0 ∧ CHv Z ownEL U.vm h0) (fun _ _ _ _ _ => True) (fun _ U o U' => ∃ v L, o = .returned v ∧ Q3_0 Z a1 h0 n0 v U'.heap L ∧ CHr Z ownEL U.vm U.heap U'.vm U'.heap ∧ ReturnedEndW U o U' L ({ frames := 1, cells := 2, slots := 4, locals := 12 } : Room).cells ({ frames := 1, cells := 2, slots := 4, locals := 12 } : Room).slots) := by
  refine MetFree.of_bodySF (plainFor_of_name pn_3) hisR ?_
  intro p e s m args below meth c s₁ Bd hml0 hP hK
  obtain ⟨rfl, hZ, hh, hCH⟩ := hP
  have hx := Bd.exec
  have hby := Bd.bytes
  have hlk : meth.locks = false := BodyLoose.notSynchronized Bd
  have hml : c.maxLocals = 6 := hml0
  have hown : s.vm.findClass "java/lang/String" = some m.cls := findClass_of_methodNamed Bd.named
  have hnm := (name_of_methodNamed Bd.named Bd.method).1
  have X0 : Stand p l e ({ frames := 1, cells := 2, slots := 4, locals := 12 } : Room) s m #[(.ref a1), (.ref a2), (.int (0 : Int32)), (.int (0 : Int32)), .null] below meth c s₁ [] 0 0 := Stand.of_body Bd
  have e0 : s₁.heap = h0 := by rw [← hh, Bd.state]; rfl
  have N0 := Fr.nil n0
  have Cr : CHr Z ownEL s.vm h0 s.vm h0 := CHr.refl hCH
  have Zz := Z0
  have Kp : Keep h0 h0 [a1] := Keep.refl _ _
  have Sf_a1 : Safe Z ownEL s.vm h0 a1 := own_safe hZ.alike E_a1 F_value_a1
  show OwnEndsH Z ownEL p e below s (Q3_0 Z a1 h0 n0) ({ frames := 1, cells := 2, slots := 4, locals := 12 } : Room).cells ({ frames := 1, cells := 2, slots := 4, locals := 12 } : Room).slots s₁ (entryFrame m #[(.ref a1), (.ref a2), (.int (0 : Int32)), (.int (0 : Int32)), .null] 6)
  refine ownH_step (T' := s₁) (f' := (mkF m 0 #[.val (.ref a1), .val (.ref a2), .val (.int (0 : Int32)), .val (.int (0 : Int32)), .val .null, .unset] [])) (fun t k => castTop (ef_rm3_0 m a1 a2 (0 : Int32) (0 : Int32)) k) ?_
  refine ownH_step (T' := s₁) (f' := (mkF m 1 #[.val (.ref a1), .val (.ref a2), .val (.int (0 : Int32)), .val (.int (0 : Int32)), .val .null, .unset] [(.ref a1)])) (fun t k => XS.aloadN X0.here hx rfl (hb hby d3_0) rfl rfl k) ?_
  obtain ⟨T1, X1, e1, st1⟩ := initO X0 hx hZ hown (own_w hw 19 rfl) (own_w hw 20 rfl) (own_w hw 21 rfl) e0 (g := (mkF m 1 #[.val (.ref a1), .val (.ref a2), .val (.int (0 : Int32)), .val (.int (0 : Int32)), .val .null, .unset] [(.ref a1)])) rfl (by rw [hml]; rfl) rfl (hb hby d3_1) (by decide) (W := 0) (by show 2 * 0 + _ ≤ _; exact Nat.le_of_eq rfl) (by decide)
  refine ownH_step (T' := T1) (f' := (mkF m 4 #[.val (.ref a1), .val (.ref a2), .val (.int (0 : Int32)), .val (.int (0 : Int32)), .val .null, .unset] [])) (fun t k => st1 t k) ?_
  refine ownH_step (T' := T1) (f' := (mkF m 5 #[.val (.ref a1), .val (.ref a2), .val (.int (0 : Int32)), .val (.int (0 : Int32)), .val .null, .unset] [(.int (0 : Int32))])) (fun t k => XS.iloadN X1.here hx rfl (hb hby d3_4) rfl k) ?_
  refine ownH_step (T' := T1) (f' := (mkF m 8 #[.val (.ref a1), .val (.ref a2), .val (.int (0 : Int32)), .val (.int (0 : Int32)), .val .null, .unset] [])) (fun t k => XS.ifNo X1.here hx rfl (hb hby d3_5) rfl ((if0 _ _).trans (teq (by decide : (0 : Int32) = (0 : Int32))).2) k) ?_
  refine ownH_step (T' := T1) (f' := (mkF m 9 #[.val (.ref a1), .val (.ref a2), .val (.int (0 : Int32)), .val (.int (0 : Int32)), .val .null, .unset] [(.ref a1)])) (fun t k => XS.aloadN X1.here hx rfl (hb hby d3_8) rfl rfl k) ?_
  obtain ⟨la, T2, h2, k12, lb, lk, X2, e2, E2, hS2, hk2, hZ2, hown2, LE, LC, LV, LA, -, -, C2, Li, Sx, st2⟩ := ldcCH (s := s) (vm0 := s.vm) (Z := Z) (a0 := a0) (EL := ownEL) X1 hx hZ hown (own_w hw 22 rfl) (fun d hd => by simp only [Bundle.stringAtoms, Bundle.sN, List.mem_cons, List.not_mem_nil, or_false] at hd; rcases hd with rfl | rfl | rfl | rfl | rfl | rfl | rfl <;> first | exact (own_w hw 11 rfl) | exact (own_w hw 10 rfl) | exact (own_w hw 23 rfl) | exact (own_w hw 24 rfl) | exact (own_w hw 25 rfl) | exact (own_w hw 26 rfl) | exact (own_w hw 27 rfl)) e1 ((State.WarmedH.refl s).since h0.size) (Nat.le_refl _) hEL (List.mem_cons_self ..) Cr.1 (vs := []) (z := (0 : Int32)) ⟨by decide, rfl⟩ (by decide) rfl (g := (mkF m 9 #[.val (.ref a1), .val (.ref a2), .val (.int (0 : Int32)), .val (.int (0 : Int32)), .val .null, .unset] [(.ref a1)])) rfl (hb hby d3_9) (n := 0) (by decide) (by decide) (by decide) (by decide)
  have EXl : Exa Z h2 lb "[B" := own_litB (EL := ownEL) hZ2 hown2 (own_w hw 22 rfl) (List.mem_cons_self ..) C2.1 Li LV
  replace Sf_a1 := CHr.safe C2 E_a1.lt Sf_a1
  replace Cr := Cr.trans C2
  replace E_a1 := E_a1.ext E2
  replace F_value_a1 := F_value_a1.ext E2
  replace F_coder_a1 := F_coder_a1.ext E2
  replace Zz := Nat.le_trans Zz E2.1
  replace Kp := Kp.ext E2
  have nla := (Sx a1 Sf_a1).1
  have nlb := (Sx a1 Sf_a1).2
  refine ownH_step (T' := T2) (f' := (mkF m 11 #[.val (.ref a1), .val (.ref a2), .val (.int (0 : Int32)), .val (.int (0 : Int32)), .val .null, .unset] [(.ref la), (.ref a1)])) (fun t k => st2 t k) ?_
  obtain ⟨T3, X3, e3, st3⟩ := getF X2 hx hZ2 hown2 (host := "") (Or.inl (own_w hw 28 rfl)) Via.refl e2 LV (g := (mkF m 11 #[.val (.ref a1), .val (.ref a2), .val (.int (0 : Int32)), .val (.int (0 : Int32)), .val .null, .unset] [(.ref la), (.ref a1)])) rfl rfl (hb hby d3_11)
  refine ownH_step (T' := T3) (f' := (mkF m 14 #[.val (.ref a1), .val (.ref a2), .val (.int (0 : Int32)), .val (.int (0 : Int32)), .val .null, .unset] [(.ref lb), (.ref a1)])) (fun t k => st3 t k) ?_
  obtain ⟨T4, h4, X4, e4, W4, st4⟩ := putF X3 hx hZ2 hown2 (host := "") (Or.inl (own_w hw 28 rfl)) Via.refl e3 F_value_a1 E_a1 (Or.inr ⟨(own_w hw 24 rfl), rfl, hnm⟩) (own_w hw 10 rfl) (ty := (.array .byte)) (by decide) rfl rfl (g := (mkF m 14 #[.val (.ref a1), .val (.ref a2), .val (.int (0 : Int32)), .val (.int (0 : Int32)), .val .null, .unset] [(.ref lb), (.ref a1)])) rfl rfl (hb hby d3_14)
  replace E_a1 := E_a1.wr W4
  replace F_value_a1 := F_value_a1.same W4
  replace F_coder_a1 := F_coder_a1.other W4 (Or.inr (Jvm.RoadKit.slot_ne (Or.inr (own_w hw 25 rfl)) (Or.inr (own_w hw 24 rfl)) (by decide) (t := .byte) (t' := (.array .byte)) (by decide) (by decide)))
  replace LE := LE.wr W4
  replace LC := LC.other W4 (Or.inl (Ne.symm nla))
  replace LV := LV.other W4 (Or.inl (Ne.symm nla))
  replace LA := LA.other W4 (Ne.symm nlb)
  replace EXl := EXl.wr W4
  have So4 := Sf_a1
  replace Sf_a1 := Safe.wr W4 So4 Cr.1 Sf_a1
  replace Cr := Cr.trans (CHr.wr W4 So4 Cr.1)
  replace Zz := Nat.le_trans Zz (Keep.of_wr W4).1
  replace Kp := Kp.wr W4 (Or.inl (List.mem_of_getElem? (i := 0) rfl))
  have N4 := Fr.snoc X4 N0 g_a1
  refine ownH_step (T' := T4) (f' := (mkF m 17 #[.val (.ref a1), .val (.ref a2), .val (.int (0 : Int32)), .val (.int (0 : Int32)), .val .null, .unset] [])) (fun t k => st4 t k) ?_
  refine ownH_step (T' := T4) (f' := (mkF m 18 #[.val (.ref a1), .val (.ref a2), .val (.int (0 : Int32)), .val (.int (0 : Int32)), .val .null, .unset] [(.ref a1)])) (fun t k => XS.aloadN X4.here hx rfl (hb hby d3_17) rfl rfl k) ?_
  refine ownH_step (T' := T4) (f' := (mkF m 20 #[.val (.ref a1), .val (.ref a2), .val (.int (0 : Int32)), .val (.int (0 : Int32)), .val .null, .unset] [(.ref la), (.ref a1)])) (fun t k => ldcAgain (s := s) (vm0 := T2.vm) (Z := Z) (a0 := a0) X4 hx hZ2 hown2 (own_w hw 22 rfl) Li (g := (mkF m 18 #[.val (.ref a1), .val (.ref a2), .val (.int (0 : Int32)), .val (.int (0 : Int32)), .val .null, .unset] [(.ref a1)])) rfl (hb hby d3_18) t k) ?_
  obtain ⟨T5, X5, e5, st5⟩ := getF X4 hx hZ2 hown2 (host := "") (Or.inl (own_w hw 29 rfl)) Via.refl e4 LC (g := (mkF m 20 #[.val (.ref a1), .val (.ref a2), .val (.int (0 : Int32)), .val (.int (0 : Int32)), .val .null, .unset] [(.ref la), (.ref a1)])) rfl rfl (hb hby d3_20)
  refine ownH_step (T' := T5) (f' := (mkF m 23 #[.val (.ref a1), .val (.ref a2), .val (.int (0 : Int32)), .val (.int (0 : Int32)), .val .null, .unset] [(.int (0 : Int32)), (.ref a1)])) (fun t k => st5 t k) ?_
  obtain ⟨T6, h6, X6, e6, W6, st6⟩ := putFN X5 hx hZ2 hown2 (own_w hw 29 rfl) Via.refl e5 F_coder_a1 E_a1 (Or.inr ⟨(own_w hw 25 rfl), rfl, hnm⟩) (own_w hw 10 rfl) (ty := .byte) (v' := (.int (0 : Int32))) (by decide) rfl (by decide) (g := (mkF m 23 #[.val (.ref a1), .val (.ref a2), .val (.int (0 : Int32)), .val (.int (0 : Int32)), .val .null, .unset] [(.int (0 : Int32)), (.ref a1)])) rfl rfl (hb hby d3_23)
  replace E_a1 := E_a1.wr W6
  replace F_value_a1 := F_value_a1.other W6 (Or.inr (Jvm.RoadKit.slot_ne (Or.inr (own_w hw 24 rfl)) (Or.inr (own_w hw 25 rfl)) (by decide) (t := (.array .byte)) (t' := .byte) (by decide) (by decide)))
  replace F_coder_a1 := F_coder_a1.same W6
  replace LE := LE.wr W6
  replace LC := LC.other W6 (Or.inl (Ne.symm nla))
  replace LV := LV.other W6 (Or.inl (Ne.symm nla))
  replace LA := LA.other W6 (Ne.symm nlb)
  replace EXl := EXl.wr W6
  have So6 := Sf_a1
  replace Sf_a1 := Safe.wr W6 So6 Cr.1 Sf_a1
  replace Cr := Cr.trans (CHr.wr W6 So6 Cr.1)
  replace Zz := Nat.le_trans Zz (Keep.of_wr W6).1
  replace Kp := Kp.wr W6 (Or.inl (List.mem_of_getElem? (i := 0) rfl))
  have N6 := Fr.snoc X6 N4 g_a1
  refine ownH_step (T' := T6) (f' := (mkF m 26 #[.val (.ref a1), .val (.ref a2), .val (.int (0 : Int32)), .val (.int (0 : Int32)), .val .null, .unset] [])) (fun t k => st6 t k) ?_
  have hgrow : h2.size ≤ h6.size := Nat.le_trans (Keep.of_wr W4).1 (Keep.of_wr W6).1
  exact ownH_retV X6 hS2 (by rw [e6]; exact Nat.le_trans hk2 hgrow) hZ2 hEL hh e6 Cr hx hlk Bd.returns (hb hby d3_26) (by decide) (by decide) (by rw [e6]; exact ⟨rfl, N6, Kp, lb, lk, E_a1, F_coder_a1, F_value_a1, LA, EXl⟩)

theorem d2_0 : decode jdk_42_method_3_code 0 = .ok (.aload_n 0, 1) := by decide +kernel
theorem d2_1 : decode jdk_42_method_3_code 1 = .ok (.aload_n 1, 1) := by decide +kernel
theorem d2_2 : decode jdk_42_method_3_code 2 = .ok (.iconst 0, 1) := by decide +kernel
theorem d2_3 : decode jdk_42_method_3_code 3 = .ok (.aload_n 1, 1) := by decide +kernel
theorem d2_4 : decode jdk_42_method_3_code 4 = .ok (.arraylength, 1) := by decide +kernel
theorem d2_5 : decode jdk_42_method_3_code 5 = .ok (.aconst_null, 1) := by decide +kernel
theorem d2_6 : decode jdk_42_method_3_code 6 = .ok (.invokespecial 27, 3) := by decide +kernel
theorem d2_9 : decode jdk_42_method_3_code 9 = .ok (.return_, 1) := by decide +kernel
theorem pn_2 : plainName "java/lang/String" = true := by first | (simp [plainName, overriddenIn]; done) | decide +kernel
theorem pd_2_0 : parseMethodDescriptor "([CIILjava/lang/Void;)V" = some ⟨[(.array .char), .int, .int, (.object "java/lang/Void")], none⟩ := by decide +kernel
theorem ef_rm2_0 (m : MethodId) (x0 : Addr) (x1 : Addr) : entryFrame m #[(.ref x0), (.ref x1)] 2 = mkF m 0 #[.val (.ref x0), .val (.ref x1)] [] := by first | (simp [entryFrame, mkF, argsToLocals, Value.category]; done) | rfl
set_option maxRecDepth 65536 in
set_option maxHeartbeats 40000000 in
theorem rm2_0 (l : Launch) (Z : State) (a0 : Array Value) (hw : ∀ d ∈ tables_1, d.before a0 Z = true) (ws : List Jvm.Cond) (a1 : Addr) (a2 : Addr) (h0 : Heap) (n0 : Nat) (Z0 : n0 ≤ h0.size) (E_a1 : Exa Z h0 a1 "java/lang/String") (F_value_a1 : Fld Z h0 a1 "java/lang/String" "value" "[B" .null) (F_coder_a1 : Fld Z h0 a1 "java/lang/String" "coder" "B" (.int (0 : Int32))) (g_a1 : n0 ≤ a1) (kc : ClassId) (V_a2 : Arv Z h0 a2 kc .char (0 : Int32) [] (.int (0 : Int32))) (hEL : EW Z a0 ownEL) :
    MetFree l (⟨"java/lang/String", "<init>", "([C)V"⟩ : MethodName) (head1 (Jvm.Cond.code (⟨"java/lang/String", "<init>", "([C)V"⟩ : MethodName) jdk_42_method_3_code 2 none :: ws) ({ frames := 2, cells := 2, slots := 4, locals := 30 } : Room)) (fun a U => a = #[(.ref a1), (.ref a2)] ∧ Z.Warmed39 U.vm ∧ U.heap = h0 ∧ CHv Z ownEL U.vm h0) (fun _ _ _ _ _ => True) (fun _ U o U' => ∃ v L, o = .returned v ∧ Q3_0 Z a1 h0 n0 v U'.heap L ∧ CHr Z ownEL U.vm U.heap U'.vm U'.heap ∧ ReturnedEndW U o U' L ({ frames := 2, cells := 2, slots := 4, locals := 30 } : Room).cells ({ frames := 2, cells := 2, slots := 4, locals := 30 } : Room).slots) := by
  refine MetFree.of_bodySF (plainFor_of_name pn_2) hisR ?_
  intro p e s m args below meth c s₁ Bd hml0 hP hK
  obtain ⟨rfl, hZ, hh, hCH⟩ := hP
  have hx := Bd.exec
  have hby := Bd.bytes
  have hlk : meth.locks = false := BodyLoose.notSynchronized Bd
  have hml : c.maxLocals = 2 := hml0
  have hown : s.vm.findClass "java/lang/String" = some m.cls := findClass_of_methodNamed Bd.named
  have hnm := (name_of_methodNamed Bd.named Bd.method).1
  have X0 : Stand p l e ({ frames := 2, cells := 2, slots := 4, locals := 30 } : Room) s m #[(.ref a1), (.ref a2)] below meth c s₁ [] 0 0 := Stand.of_body Bd
  have e0 : s₁.heap = h0 := by rw [← hh, Bd.state]; rfl
  have N0 := Fr.nil n0
  have Cr : CHr Z ownEL s.vm h0 s.vm h0 := CHr.refl hCH
  have Zz := Z0
  have Kp : Keep h0 h0 [] := Keep.refl _ _
  show OwnEndsH Z ownEL p e below s (Q3_0 Z a1 h0 n0) ({ frames := 2, cells := 2, slots := 4, locals := 30 } : Room).cells ({ frames := 2, cells := 2, slots := 4, locals := 30 } : Room).slots s₁ (entryFrame m #[(.ref a1), (.ref a2)] 2)
  refine ownH_step (T' := s₁) (f' := (mkF m 0 #[.val (.ref a1), .val (.ref a2)] [])) (fun t k => castTop (ef_rm2_0 m a1 a2) k) ?_
  refine ownH_step (T' := s₁) (f' := (mkF m 1 #[.val (.ref a1), .val (.ref a2)] [(.ref a1)])) (fun t k => XS.aloadN X0.here hx rfl (hb hby d2_0) rfl rfl k) ?_
  refine ownH_step (T' := s₁) (f' := (mkF m 2 #[.val (.ref a1), .val (.ref a2)] [(.ref a2), (.ref a1)])) (fun t k => XS.aloadN X0.here hx rfl (hb hby d2_1) rfl rfl k) ?_
  refine ownH_step (T' := s₁) (f' := (mkF m 3 #[.val (.ref a1), .val (.ref a2)] [(.int (0 : Int32)), (.ref a2), (.ref a1)])) (fun t k => XS.iconst X0.here hx rfl (hb hby d2_2) k) ?_
  refine ownH_step (T' := s₁) (f' := (mkF m 4 #[.val (.ref a1), .val (.ref a2)] [(.ref a2), (.int (0 : Int32)), (.ref a2), (.ref a1)])) (fun t k => XS.aloadN X0.here hx rfl (hb hby d2_3) rfl rfl k) ?_
  obtain ⟨cl1, Ar1, q1, S1, M1, H1, G1⟩ := id V_a2
  refine ownH_step (T' := s₁) (f' := (mkF m 5 #[.val (.ref a1), .val (.ref a2)] [(.int (0 : Int32)), (.int (0 : Int32)), (.ref a2), (.ref a1)])) (fun t k => X0.arraylength hx (by rw [e0]; exact Ar1.1) (State.isArrayOf_alike hZ.alike Ar1.2.1) (g := (mkF m 4 #[.val (.ref a1), .val (.ref a2)] [(.ref a2), (.int (0 : Int32)), (.ref a2), (.ref a1)])) rfl rfl (hb hby d2_4) _ (by rw [len_of S1 M1]; exact k)) ?_
  refine ownH_step (T' := s₁) (f' := (mkF m 6 #[.val (.ref a1), .val (.ref a2)] [.null, (.int (0 : Int32)), (.int (0 : Int32)), (.ref a2), (.ref a1)])) (fun t k => XS.aconstNull X0.here hx rfl (hb hby d2_5) k) ?_
  obtain ⟨_, _, ⟨T2, L2, k2, n2⟩, -, X2, hS2, hgr2, ⟨Lc2, hQ2, l2, y2, z2, C2⟩, st2⟩ := X0.specialBackS hx (y := (⟨"java/lang/String", "<init>", "([CIILjava/lang/Void;)V"⟩ : MethodName)) rfl hown (mvT hZ (own_w hw 15 rfl)) (mvT hZ (own_w hw 16 rfl)) (mvT hZ (own_w hw 18 rfl)) (by decide) (backOfSH (s := s) (vm0 := s.vm) (W := 0) (rm3_0 l Z a0 hw [] a1 a2 h0 n0 Zz E_a1 F_value_a1 F_coder_a1 g_a1 hEL) hZ (own_w hw 18 rfl) (own_w hw 11 rfl) (by decide) (by decide) hEL Cr.1) (g := (mkF m 6 #[.val (.ref a1), .val (.ref a2)] [.null, (.int (0 : Int32)), (.int (0 : Int32)), (.ref a2), (.ref a1)])) rfl (by rw [hml]; rfl) (Steps.refl _) (a := a1) (argsL := [(.ref a2), (.int (0 : Int32)), (.int (0 : Int32)), .null]) (rest := []) (lenOf pd_2_0 rfl) rfl (by show 2 * 0 + _ ≤ _; exact Nat.le_of_eq rfl) (hb hby d2_6) (fun _ _ => ⟨rfl, e0, (by decide : 0 + 2 ≤ _), (by decide : 0 + 4 ≤ _)⟩)
  dsimp only [Pt.U, Pt.locs, Pt.cells, Pt.slots] at X2 l2 y2 z2 st2 hQ2 hS2 hgr2 C2
  subst l2 y2 z2
  obtain ⟨rfl, N2q, K2, Ow2⟩ := hQ2
  have N2 := Fr.app N0 N2q
  have hZ2 : Z.Warmed39 T2.vm := State.Warmed39.trans hZ hS2.1
  have hown2 : T2.vm.findClass "java/lang/String" = some m.cls := by rw [hS2.1.alike.findClass]; exact hown
  replace Cr := Cr.trans C2
  refine ownH_step (T' := T2) (f' := (mkF m 9 #[.val (.ref a1), .val (.ref a2)] [])) (fun t k => st2.trans k) ?_
  exact ownH_retV X2 hS2 (Nat.le_refl _) hZ2 hEL hh rfl Cr hx hlk Bd.returns (hb hby d2_9) (by decide) (by decide) ⟨rfl, N2, K2, Ow2⟩

theorem d12_13 : decode prog_18_method_9_code 13 = .ok (.aload_n 0, 1) := by decide +kernel
theorem d12_14 : decode prog_18_method_9_code 14 = .ok (.getfield 19, 3) := by decide +kernel
theorem d12_17 : decode prog_18_method_9_code 17 = .ok (.iload_n 1, 1) := by decide +kernel
theorem d12_18 : decode prog_18_method_9_code 18 = .ok (.baload, 1) := by decide +kernel
theorem d12_19 : decode prog_18_method_9_code 19 = .ok (.bipush 32, 2) := by decide +kernel
theorem d12_21 : decode prog_18_method_9_code 21 = .ok (.if_icmp .eq 14, 3) := by decide +kernel
theorem d12_24 : decode prog_18_method_9_code 24 = .ok (.aload_n 0, 1) := by decide +kernel
theorem d12_25 : decode prog_18_method_9_code 25 = .ok (.getfield 19, 3) := by decide +kernel
theorem d12_28 : decode prog_18_method_9_code 28 = .ok (.iload_n 1, 1) := by decide +kernel
theorem d12_29 : decode prog_18_method_9_code 29 = .ok (.baload, 1) := by decide +kernel
theorem d12_30 : decode prog_18_method_9_code 30 = .ok (.bipush 9, 2) := by decide +kernel
theorem d12_32 : decode prog_18_method_9_code 32 = .ok (.if_icmp .ne 9, 3) := by decide +kernel
theorem d12_35 : decode prog_18_method_9_code 35 = .ok (.iinc 1 1, 3) := by decide +kernel
theorem d12_38 : decode prog_18_method_9_code 38 = .ok (.goto (-33), 3) := by decide +kernel
theorem d12_49 : decode prog_18_method_9_code 49 = .ok (.aload_n 0, 1) := by decide +kernel
theorem d12_50 : decode prog_18_method_9_code 50 = .ok (.getfield 19, 3) := by decide +kernel
theorem d12_53 : decode prog_18_method_9_code 53 = .ok (.iload_n 1, 1) := by decide +kernel
theorem d12_54 : decode prog_18_method_9_code 54 = .ok (.baload, 1) := by decide +kernel
theorem d12_55 : decode prog_18_method_9_code 55 = .ok (.bipush 64, 2) := by decide +kernel
theorem d12_57 : decode prog_18_method_9_code 57 = .ok (.if_icmp .ne 56, 3) := by decide +kernel
theorem d12_60 : decode prog_18_method_9_code 60 = .ok (.iload_n 1, 1) := by decide +kernel
theorem d12_61 : decode prog_18_method_9_code 61 = .ok (.iconst 1, 1) := by decide +kernel
theorem d12_62 : decode prog_18_method_9_code 62 = .ok (.iadd, 1) := by decide +kernel
theorem d12_63 : decode prog_18_method_9_code 63 = .ok (.aload_n 0, 1) := by decide +kernel
theorem d12_64 : decode prog_18_method_9_code 64 = .ok (.getfield 29, 3) := by decide +kernel
theorem d12_67 : decode prog_18_method_9_code 67 = .ok (.if_icmp .eq 42, 3) := by decide +kernel
theorem d12_109 : decode prog_18_method_9_code 109 = .ok (.iconst 1, 1) := by decide +kernel
theorem d12_110 : decode prog_18_method_9_code 110 = .ok (.goto 4, 3) := by decide +kernel
theorem ef_rm12_1 (m : MethodId) (x0 : Addr) : entryFrame m #[(.ref x0)] 2 = mkF m 0 #[.val (.ref x0), .unset] [] := by first | (simp [entryFrame, mkF, argsToLocals, Value.category]; done) | rfl
set_option maxRecDepth 65536 in
set_option maxHeartbeats 40000000 in
theorem rm12_1 (l : Launch) (Z : State) (a0 : Array Value) (hw : ∀ d ∈ tables_1, d.before a0 Z = true) (ws : List Jvm.Cond) (a1 : Addr) (h0 : Heap) (n0 : Nat) (Z0 : n0 ≤ h0.size) (y0 : Int32) (b : Addr) (kb : ClassId) (F_s : Fld Z h0 a1 "com/example/lit2/lit2/input/Line" "start" "I" (.int (0 : Int32))) (F_e : Fld Z h0 a1 "com/example/lit2/lit2/input/Line" "end" "I" (.int (1 : Int32))) (F_ch : Fld Z h0 a1 "com/example/lit2/lit2/input/Line" "characters" "[B" (.ref b)) (V_b : Arv Z h0 b kb .byte (1 : Int32) [(.int y0)] (.int (0 : Int32))) :
    MetFree l (⟨"com/example/lit2/lit2/input/Line", "beginsSection", "()Z"⟩ : MethodName) (head1 (Jvm.Cond.code (⟨"com/example/lit2/lit2/input/Line", "beginsSection", "()Z"⟩ : MethodName) prog_18_method_9_code 2 (some .boolean) :: ws) ({ frames := 0, cells := 0, slots := 0, locals := 0 } : Room)) (fun a U => a = #[(.ref a1)] ∧ Z.Warmed39 U.vm ∧ U.heap = h0) (fun _ _ _ _ _ => True) (fun _ U o U' => ∃ v L, o = .returned v ∧ QI (own_bs [y0]) h0 n0 v U'.heap L ∧ FrameEnd U o U' L ({ frames := 0, cells := 0, slots := 0, locals := 0 } : Room).cells ({ frames := 0, cells := 0, slots := 0, locals := 0 } : Room).slots) := by
  refine MetFree.of_bodySF (plainFor_of_name pn_12) hisR ?_
  intro p e s m args below meth c s₁ Bd hml0 hP hK
  obtain ⟨rfl, hZ, hh⟩ := hP
  have hx := Bd.exec
  have hby := Bd.bytes
  have hlk : meth.locks = false := BodyLoose.notSynchronized Bd
  have hml : c.maxLocals = 2 := hml0
  have hown : s.vm.findClass "com/example/lit2/lit2/input/Line" = some m.cls := findClass_of_methodNamed Bd.named
  have hnm := (name_of_methodNamed Bd.named Bd.method).1
  have X0 : Stand p l e ({ frames := 0, cells := 0, slots := 0, locals := 0 } : Room) s m #[(.ref a1)] below meth c s₁ [] 0 0 := Stand.of_body Bd
  have e0 : s₁.heap = h0 := by rw [← hh, Bd.state]; rfl
  have N0 := Fr.nil n0
  have Zz := Z0
  have Kp : Keep h0 h0 [] := Keep.refl _ _
  show OwnEnds p e below s (QI (own_bs [y0]) h0 n0) ({ frames := 0, cells := 0, slots := 0, locals := 0 } : Room).cells ({ frames := 0, cells := 0, slots := 0, locals := 0 } : Room).slots s₁ (entryFrame m #[(.ref a1)] 2)
  refine own_step (T' := s₁) (f' := (mkF m 0 #[.val (.ref a1), .unset] [])) (fun t k => castTop (ef_rm12_1 m a1) k) ?_
  refine own_step (T' := s₁) (f' := (mkF m 1 #[.val (.ref a1), .unset] [(.ref a1)])) (fun t k => XS.aloadN X0.here hx rfl (hb hby d12_0) rfl rfl k) ?_
  obtain ⟨T1, X1, e1, st1⟩ := getF X0 hx hZ hown (host := "") (Or.inl (own_w hw 83 rfl)) Via.refl e0 F_s (g := (mkF m 1 #[.val (.ref a1), .unset] [(.ref a1)])) rfl rfl (hb hby d12_1)
  refine own_step (T' := T1) (f' := (mkF m 4 #[.val (.ref a1), .unset] [(.int (0 : Int32))])) (fun t k => st1 t k) ?_
  refine own_step (T' := T1) (f' := (mkF m 5 #[.val (.ref a1), .val (.int (0 : Int32))] [])) (fun t k => XS.istoreN X1.here hx rfl (hb hby d12_4) rfl (l' := #[.val (.ref a1), .val (.int (0 : Int32))]) rfl k) ?_
  have J5_2 : ∀ (T_2 : State) (l_2 : List Loc) (X_2 : Stand p l e ({ frames := 0, cells := 0, slots := 0, locals := 0 } : Room) s m #[(.ref a1)] below meth c T_2 l_2 0 0) (e_2 : T_2.heap = h0) (N_2 : Fr n0 l_2) (hb1 : own_bs [y0] = own_bs []), OwnEnds p e below s (QI (own_bs [y0]) h0 n0) ({ frames := 0, cells := 0, slots := 0, locals := 0 } : Room).cells ({ frames := 0, cells := 0, slots := 0, locals := 0 } : Room).slots T_2 (mkF m 5 #[.val (.ref a1), .val (.int (1 : Int32))] []) := by
    intro T_2 l_2 X_2 e_2 N_2 hb1
    refine own_step (T' := T_2) (f' := (mkF m 6 #[.val (.ref a1), .val (.int (1 : Int32))] [(.int (1 : Int32))])) (fun t k => XS.iloadN X_2.here hx rfl (hb hby d12_5) rfl k) ?_
    refine own_step (T' := T_2) (f' := (mkF m 7 #[.val (.ref a1), .val (.int (1 : Int32))] [(.ref a1), (.int (1 : Int32))])) (fun t k => XS.aloadN X_2.here hx rfl (hb hby d12_6) rfl rfl k) ?_
    obtain ⟨T3, X3, e3, st3⟩ := getF X_2 hx hZ hown (host := "") (Or.inl (own_w hw 85 rfl)) Via.refl e_2 F_e (g := (mkF m 7 #[.val (.ref a1), .val (.int (1 : Int32))] [(.ref a1), (.int (1 : Int32))])) rfl rfl (hb hby d12_7)
    refine own_step (T' := T3) (f' := (mkF m 10 #[.val (.ref a1), .val (.int (1 : Int32))] [(.int (1 : Int32)), (.int (1 : Int32))])) (fun t k => st3 t k) ?_
    refine own_step (T' := T3) (f' := (mkF m 41 #[.val (.ref a1), .val (.int (1 : Int32))] [])) (fun t k => XS.icmpYes X3.here hx rfl (pc0 := 10) (pc' := 41) rfl (hb hby d12_10) rfl (flt (by decide : ¬ ((1 : Int32) < (1 : Int32)))).2.1 (by decide) (by decide) k) ?_
    refine own_step (T' := T3) (f' := (mkF m 42 #[.val (.ref a1), .val (.int (1 : Int32))] [(.int (1 : Int32))])) (fun t k => XS.iloadN X3.here hx rfl (hb hby d12_41) rfl k) ?_
    refine own_step (T' := T3) (f' := (mkF m 43 #[.val (.ref a1), .val (.int (1 : Int32))] [(.ref a1), (.int (1 : Int32))])) (fun t k => XS.aloadN X3.here hx rfl (hb hby d12_42) rfl rfl k) ?_
    obtain ⟨T4, X4, e4, st4⟩ := getF X3 hx hZ hown (host := "") (Or.inl (own_w hw 85 rfl)) Via.refl e3 F_e (g := (mkF m 43 #[.val (.ref a1), .val (.int (1 : Int32))] [(.ref a1), (.int (1 : Int32))])) rfl rfl (hb hby d12_43)
    refine own_step (T' := T4) (f' := (mkF m 46 #[.val (.ref a1), .val (.int (1 : Int32))] [(.int (1 : Int32)), (.int (1 : Int32))])) (fun t k => st4 t k) ?_
    refine own_step (T' := T4) (f' := (mkF m 113 #[.val (.ref a1), .val (.int (1 : Int32))] [])) (fun t k => XS.icmpYes X4.here hx rfl (pc0 := 46) (pc' := 113) rfl (hb hby d12_46) rfl (flt (by decide : ¬ ((1 : Int32) < (1 : Int32)))).2.1 (by decide) (by decide) k) ?_
    refine own_step (T' := T4) (f' := (mkF m 114 #[.val (.ref a1), .val (.int (1 : Int32))] [(.int (0 : Int32))])) (fun t k => XS.iconst X4.here hx rfl (hb hby d12_113) k) ?_
    exact own_retN X4 hx hlk (t := .boolean) Bd.returns (by simp) (hb hby d12_114) (by decide) (by decide) ⟨by rw [show own_bs [y0] = (0 : Int32) from hb1]; rfl, N_2, e4⟩
  refine own_step (T' := T1) (f' := (mkF m 6 #[.val (.ref a1), .val (.int (0 : Int32))] [(.int (0 : Int32))])) (fun t k => XS.iloadN X1.here hx rfl (hb hby d12_5) rfl k) ?_
  refine own_step (T' := T1) (f' := (mkF m 7 #[.val (.ref a1), .val (.int (0 : Int32))] [(.ref a1), (.int (0 : Int32))])) (fun t k => XS.aloadN X1.here hx rfl (hb hby d12_6) rfl rfl k) ?_
  obtain ⟨T5, X5, e5, st5⟩ := getF X1 hx hZ hown (host := "") (Or.inl (own_w hw 85 rfl)) Via.refl e1 F_e (g := (mkF m 7 #[.val (.ref a1), .val (.int (0 : Int32))] [(.ref a1), (.int (0 : Int32))])) rfl rfl (hb hby d12_7)
  refine own_step (T' := T5) (f' := (mkF m 10 #[.val (.ref a1), .val (.int (0 : Int32))] [(.int (1 : Int32)), (.int (0 : Int32))])) (fun t k => st5 t k) ?_
  refine own_step (T' := T5) (f' := (mkF m 13 #[.val (.ref a1), .val (.int (0 : Int32))] [])) (fun t k => XS.icmpNo X5.here hx rfl (hb hby d12_10) rfl (tlt (by decide : (0 : Int32) < (1 : Int32))).2.1 k) ?_
  refine own_step (T' := T5) (f' := (mkF m 14 #[.val (.ref a1), .val (.int (0 : Int32))] [(.ref a1)])) (fun t k => XS.aloadN X5.here hx rfl (hb hby d12_13) rfl rfl k) ?_
  obtain ⟨T6, X6, e6, st6⟩ := getF X5 hx hZ hown (host := "") (Or.inl (own_w hw 81 rfl)) Via.refl e5 F_ch (g := (mkF m 14 #[.val (.ref a1), .val (.int (0 : Int32))] [(.ref a1)])) rfl rfl (hb hby d12_14)
  refine own_step (T' := T6) (f' := (mkF m 17 #[.val (.ref a1), .val (.int (0 : Int32))] [(.ref b)])) (fun t k => st6 t k) ?_
  refine own_step (T' := T6) (f' := (mkF m 18 #[.val (.ref a1), .val (.int (0 : Int32))] [(.int (0 : Int32)), (.ref b)])) (fun t k => XS.iloadN X6.here hx rfl (hb hby d12_17) rfl k) ?_
  obtain ⟨cl7, Ar7, q7, S7, M7, H7, G7⟩ := id V_b
  have hin7 : ¬ ((0 : Int32) < 0 ∨ cl7.slots.size ≤ ((0 : Int32)).toNatClampNeg) := inb_of S7 ⟨by decide, by decide⟩
  have hat7 : cl7.slots[((0 : Int32)).toNatClampNeg]? = some (.int y0) := own_at hin7 H7 0 rfl rfl
  refine own_step (T' := T6) (f' := (mkF m 19 #[.val (.ref a1), .val (.int (0 : Int32))] [(.int y0)])) (fun t k => X6.baloadBytes hx (j := (0 : Int32)) (v := (.int y0)) (by rw [e6]; exact Ar7.1) (State.isArrayOf_alike hZ.alike Ar7.2.1) Ar7.2.2 hin7 hat7 (g := (mkF m 18 #[.val (.ref a1), .val (.int (0 : Int32))] [(.int (0 : Int32)), (.ref b)])) rfl rfl (hb hby d12_18) _ k) ?_
  refine own_step (T' := T6) (f' := (mkF m 21 #[.val (.ref a1), .val (.int (0 : Int32))] [(.int (32 : Int32)), (.int y0)])) (fun t k => XS.bipush X6.here hx rfl (hb hby d12_19) k) ?_
  by_cases hc21_8 : y0 = (32 : Int32)
  · skip
    refine own_step (T' := T6) (f' := (mkF m 35 #[.val (.ref a1), .val (.int (0 : Int32))] [])) (fun t k => XS.icmpYes X6.here hx rfl (pc0 := 21) (pc' := 35) rfl (hb hby d12_21) rfl (teq hc21_8).1 (by decide) (by decide) k) ?_
    refine own_step (T' := T6) (f' := (mkF m 38 #[.val (.ref a1), .val (.int (1 : Int32))] [])) (fun t k => XS.iinc X6.here hx rfl (hb hby d12_35) rfl (l' := #[.val (.ref a1), .val (.int (1 : Int32))]) rfl k) ?_
    refine own_step (T' := T6) (f' := (mkF m 5 #[.val (.ref a1), .val (.int (1 : Int32))] [])) (fun t k => XS.goto X6.here hx rfl (pc0 := 38) (pc' := 5) rfl (hb hby d12_38) (by decide) (by decide) k) ?_
    exact J5_2 T6 _ X6 e6 N0 (own_bs32 hc21_8)
  · skip
    refine own_step (T' := T6) (f' := (mkF m 24 #[.val (.ref a1), .val (.int (0 : Int32))] [])) (fun t k => XS.icmpNo X6.here hx rfl (hb hby d12_21) rfl (feq hc21_8).1 k) ?_
    refine own_step (T' := T6) (f' := (mkF m 25 #[.val (.ref a1), .val (.int (0 : Int32))] [(.ref a1)])) (fun t k => XS.aloadN X6.here hx rfl (hb hby d12_24) rfl rfl k) ?_
    obtain ⟨T9, X9, e9, st9⟩ := getF X6 hx hZ hown (host := "") (Or.inl (own_w hw 81 rfl)) Via.refl e6 F_ch (g := (mkF m 25 #[.val (.ref a1), .val (.int (0 : Int32))] [(.ref a1)])) rfl rfl (hb hby d12_25)
    refine own_step (T' := T9) (f' := (mkF m 28 #[.val (.ref a1), .val (.int (0 : Int32))] [(.ref b)])) (fun t k => st9 t k) ?_
    refine own_step (T' := T9) (f' := (mkF m 29 #[.val (.ref a1), .val (.int (0 : Int32))] [(.int (0 : Int32)), (.ref b)])) (fun t k => XS.iloadN X9.here hx rfl (hb hby d12_28) rfl k) ?_
    obtain ⟨cl10, Ar10, q10, S10, M10, H10, G10⟩ := id V_b
    have hin10 : ¬ ((0 : Int32) < 0 ∨ cl10.slots.size ≤ ((0 : Int32)).toNatClampNeg) := inb_of S10 ⟨by decide, by decide⟩
    have hat10 : cl10.slots[((0 : Int32)).toNatClampNeg]? = some (.int y0) := own_at hin10 H10 0 rfl rfl
    refine own_step (T' := T9) (f' := (mkF m 30 #[.val (.ref a1), .val (.int (0 : Int32))] [(.int y0)])) (fun t k => X9.baloadBytes hx (j := (0 : Int32)) (v := (.int y0)) (by rw [e9]; exact Ar10.1) (State.isArrayOf_alike hZ.alike Ar10.2.1) Ar10.2.2 hin10 hat10 (g := (mkF m 29 #[.val (.ref a1), .val (.int (0 : Int32))] [(.int (0 : Int32)), (.ref b)])) rfl rfl (hb hby d12_29) _ k) ?_
    refine own_step (T' := T9) (f' := (mkF m 32 #[.val (.ref a1), .val (.int (0 : Int32))] [(.int (9 : Int32)), (.int y0)])) (fun t k => XS.bipush X9.here hx rfl (hb hby d12_30) k) ?_
    by_cases hc32_11 : y0 = (9 : Int32)
    · skip
      refine own_step (T' := T9) (f' := (mkF m 35 #[.val (.ref a1), .val (.int (0 : Int32))] [])) (fun t k => XS.icmpNo X9.here hx rfl (hb hby d12_32) rfl (teq hc32_11).2 k) ?_
      refine own_step (T' := T9) (f' := (mkF m 38 #[.val (.ref a1), .val (.int (1 : Int32))] [])) (fun t k => XS.iinc X9.here hx rfl (hb hby d12_35) rfl (l' := #[.val (.ref a1), .val (.int (1 : Int32))]) rfl k) ?_
      refine own_step (T' := T9) (f' := (mkF m 5 #[.val (.ref a1), .val (.int (1 : Int32))] [])) (fun t k => XS.goto X9.here hx rfl (pc0 := 38) (pc' := 5) rfl (hb hby d12_38) (by decide) (by decide) k) ?_
      exact J5_2 T9 _ X9 e9 N0 (own_bs9 hc32_11)
    · skip
      refine own_step (T' := T9) (f' := (mkF m 41 #[.val (.ref a1), .val (.int (0 : Int32))] [])) (fun t k => XS.icmpYes X9.here hx rfl (pc0 := 32) (pc' := 41) rfl (hb hby d12_32) rfl (feq hc32_11).2 (by decide) (by decide) k) ?_
      refine own_step (T' := T9) (f' := (mkF m 42 #[.val (.ref a1), .val (.int (0 : Int32))] [(.int (0 : Int32))])) (fun t k => XS.iloadN X9.here hx rfl (hb hby d12_41) rfl k) ?_
      refine own_step (T' := T9) (f' := (mkF m 43 #[.val (.ref a1), .val (.int (0 : Int32))] [(.ref a1), (.int (0 : Int32))])) (fun t k => XS.aloadN X9.here hx rfl (hb hby d12_42) rfl rfl k) ?_
      obtain ⟨T12, X12, e12, st12⟩ := getF X9 hx hZ hown (host := "") (Or.inl (own_w hw 85 rfl)) Via.refl e9 F_e (g := (mkF m 43 #[.val (.ref a1), .val (.int (0 : Int32))] [(.ref a1), (.int (0 : Int32))])) rfl rfl (hb hby d12_43)
      refine own_step (T' := T12) (f' := (mkF m 46 #[.val (.ref a1), .val (.int (0 : Int32))] [(.int (1 : Int32)), (.int (0 : Int32))])) (fun t k => st12 t k) ?_
      refine own_step (T' := T12) (f' := (mkF m 49 #[.val (.ref a1), .val (.int (0 : Int32))] [])) (fun t k => XS.icmpNo X12.here hx rfl (hb hby d12_46) rfl (tlt (by decide : (0 : Int32) < (1 : Int32))).2.1 k) ?_
      refine own_step (T' := T12) (f' := (mkF m 50 #[.val (.ref a1), .val (.int (0 : Int32))] [(.ref a1)])) (fun t k => XS.aloadN X12.here hx rfl (hb hby d12_49) rfl rfl k) ?_
      obtain ⟨T13, X13, e13, st13⟩ := getF X12 hx hZ hown (host := "") (Or.inl (own_w hw 81 rfl)) Via.refl e12 F_ch (g := (mkF m 50 #[.val (.ref a1), .val (.int (0 : Int32))] [(.ref a1)])) rfl rfl (hb hby d12_50)
      refine own_step (T' := T13) (f' := (mkF m 53 #[.val (.ref a1), .val (.int (0 : Int32))] [(.ref b)])) (fun t k => st13 t k) ?_
      refine own_step (T' := T13) (f' := (mkF m 54 #[.val (.ref a1), .val (.int (0 : Int32))] [(.int (0 : Int32)), (.ref b)])) (fun t k => XS.iloadN X13.here hx rfl (hb hby d12_53) rfl k) ?_
      obtain ⟨cl14, Ar14, q14, S14, M14, H14, G14⟩ := id V_b
      have hin14 : ¬ ((0 : Int32) < 0 ∨ cl14.slots.size ≤ ((0 : Int32)).toNatClampNeg) := inb_of S14 ⟨by decide, by decide⟩
      have hat14 : cl14.slots[((0 : Int32)).toNatClampNeg]? = some (.int y0) := own_at hin14 H14 0 rfl rfl
      refine own_step (T' := T13) (f' := (mkF m 55 #[.val (.ref a1), .val (.int (0 : Int32))] [(.int y0)])) (fun t k => X13.baloadBytes hx (j := (0 : Int32)) (v := (.int y0)) (by rw [e13]; exact Ar14.1) (State.isArrayOf_alike hZ.alike Ar14.2.1) Ar14.2.2 hin14 hat14 (g := (mkF m 54 #[.val (.ref a1), .val (.int (0 : Int32))] [(.int (0 : Int32)), (.ref b)])) rfl rfl (hb hby d12_54) _ k) ?_
      refine own_step (T' := T13) (f' := (mkF m 57 #[.val (.ref a1), .val (.int (0 : Int32))] [(.int (64 : Int32)), (.int y0)])) (fun t k => XS.bipush X13.here hx rfl (hb hby d12_55) k) ?_
      by_cases hc57_15 : y0 = (64 : Int32)
      · skip
        refine own_step (T' := T13) (f' := (mkF m 60 #[.val (.ref a1), .val (.int (0 : Int32))] [])) (fun t k => XS.icmpNo X13.here hx rfl (hb hby d12_57) rfl (teq hc57_15).2 k) ?_
        refine own_step (T' := T13) (f' := (mkF m 61 #[.val (.ref a1), .val (.int (0 : Int32))] [(.int (0 : Int32))])) (fun t k => XS.iloadN X13.here hx rfl (hb hby d12_60) rfl k) ?_
        refine own_step (T' := T13) (f' := (mkF m 62 #[.val (.ref a1), .val (.int (0 : Int32))] [(.int (1 : Int32)), (.int (0 : Int32))])) (fun t k => XS.iconst X13.here hx rfl (hb hby d12_61) k) ?_
        refine own_step (T' := T13) (f' := (mkF m 63 #[.val (.ref a1), .val (.int (0 : Int32))] [(.int (1 : Int32))])) (fun t k => XS.iadd X13.here hx rfl (hb hby d12_62) rfl k) ?_
        refine own_step (T' := T13) (f' := (mkF m 64 #[.val (.ref a1), .val (.int (0 : Int32))] [(.ref a1), (.int (1 : Int32))])) (fun t k => XS.aloadN X13.here hx rfl (hb hby d12_63) rfl rfl k) ?_
        obtain ⟨T16, X16, e16, st16⟩ := getF X13 hx hZ hown (host := "") (Or.inl (own_w hw 85 rfl)) Via.refl e13 F_e (g := (mkF m 64 #[.val (.ref a1), .val (.int (0 : Int32))] [(.ref a1), (.int (1 : Int32))])) rfl rfl (hb hby d12_64)
        refine own_step (T' := T16) (f' := (mkF m 67 #[.val (.ref a1), .val (.int (0 : Int32))] [(.int (1 : Int32)), (.int (1 : Int32))])) (fun t k => st16 t k) ?_
        refine own_step (T' := T16) (f' := (mkF m 109 #[.val (.ref a1), .val (.int (0 : Int32))] [])) (fun t k => XS.icmpYes X16.here hx rfl (pc0 := 67) (pc' := 109) rfl (hb hby d12_67) rfl (teq (by decide : (1 : Int32) = (1 : Int32))).1 (by decide) (by decide) k) ?_
        refine own_step (T' := T16) (f' := (mkF m 110 #[.val (.ref a1), .val (.int (0 : Int32))] [(.int (1 : Int32))])) (fun t k => XS.iconst X16.here hx rfl (hb hby d12_109) k) ?_
        refine own_step (T' := T16) (f' := (mkF m 114 #[.val (.ref a1), .val (.int (0 : Int32))] [(.int (1 : Int32))])) (fun t k => XS.goto X16.here hx rfl (pc0 := 110) (pc' := 114) rfl (hb hby d12_110) (by decide) (by decide) k) ?_
        exact own_retN X16 hx hlk (t := .boolean) Bd.returns (by simp) (hb hby d12_114) (by decide) (by decide) ⟨by rw [show own_bs [y0] = (1 : Int32) from (own_bs64 hc57_15)]; rfl, N0, e16⟩
      · skip
        refine own_step (T' := T13) (f' := (mkF m 113 #[.val (.ref a1), .val (.int (0 : Int32))] [])) (fun t k => XS.icmpYes X13.here hx rfl (pc0 := 57) (pc' := 113) rfl (hb hby d12_57) rfl (feq hc57_15).2 (by decide) (by decide) k) ?_
        refine own_step (T' := T13) (f' := (mkF m 114 #[.val (.ref a1), .val (.int (0 : Int32))] [(.int (0 : Int32))])) (fun t k => XS.iconst X13.here hx rfl (hb hby d12_113) k) ?_
        exact own_retN X13 hx hlk (t := .boolean) Bd.returns (by simp) (hb hby d12_114) (by decide) (by decide) ⟨by rw [show own_bs [y0] = (0 : Int32) from (own_bsN hc21_8 hc32_11 hc57_15)]; rfl, N0, e13⟩

def Q3_1 (Z : State) (a1 : Addr) (c0 : Int32) (h0 : Heap) (n0 : Nat) (v : Option Value) (h : Heap) (L : List Loc) : Prop := v = none ∧ Fr n0 L ∧ Keep h0 h [a1] ∧ ∃ (b : Addr) (k : ClassId), OwnStr Z h a1 b k 1 [(.int (own_sb c0))]
def Q14_1 (Z : State) (a3 : Addr) (kb : ClassId) (c0 : Int32) (h0 : Heap) (n0 : Nat) (v : Option Value) (h : Heap) (L : List Loc) : Prop := v = some (.int 1) ∧ Fr n0 L ∧ Keep h0 h [a3] ∧ Arv Z h a3 kb .byte (1 : Int32) [(.int (own_sb c0))] (.int (0 : Int32))
theorem d14_0 : decode jdk_52_method_21_code 0 = .ok (.iconst 0, 1) := by decide +kernel
theorem d14_1 : decode jdk_52_method_21_code 1 = .ok (.istore 5, 2) := by decide +kernel
theorem d14_3 : decode jdk_52_method_21_code 3 = .ok (.iload 5, 2) := by decide +kernel
theorem d14_5 : decode jdk_52_method_21_code 5 = .ok (.iload 4, 2) := by decide +kernel
theorem d14_7 : decode jdk_52_method_21_code 7 = .ok (.if_icmp .ge 37, 3) := by decide +kernel
theorem d14_10 : decode jdk_52_method_21_code 10 = .ok (.aload_n 0, 1) := by decide +kernel
theorem d14_11 : decode jdk_52_method_21_code 11 = .ok (.iload_n 1, 1) := by decide +kernel
theorem d14_12 : decode jdk_52_method_21_code 12 = .ok (.caload, 1) := by decide +kernel
theorem d14_13 : decode jdk_52_method_21_code 13 = .ok (.istore 6, 2) := by decide +kernel
theorem d14_15 : decode jdk_52_method_21_code 15 = .ok (.iload 6, 2) := by decide +kernel
theorem d14_17 : decode jdk_52_method_21_code 17 = .ok (.sipush 255, 3) := by decide +kernel
theorem d14_20 : decode jdk_52_method_21_code 20 = .ok (.if_icmp .le 6, 3) := by decide +kernel
theorem d14_26 : decode jdk_52_method_21_code 26 = .ok (.aload_n 2, 1) := by decide +kernel
theorem d14_27 : decode jdk_52_method_21_code 27 = .ok (.iload_n 3, 1) := by decide +kernel
theorem d14_28 : decode jdk_52_method_21_code 28 = .ok (.iload 6, 2) := by decide +kernel
theorem d14_30 : decode jdk_52_method_21_code 30 = .ok (.i2b, 1) := by decide +kernel
theorem d14_31 : decode jdk_52_method_21_code 31 = .ok (.bastore, 1) := by decide +kernel
theorem d14_32 : decode jdk_52_method_21_code 32 = .ok (.iinc 1 1, 3) := by decide +kernel
theorem d14_35 : decode jdk_52_method_21_code 35 = .ok (.iinc 3 1, 3) := by decide +kernel
theorem d14_38 : decode jdk_52_method_21_code 38 = .ok (.iinc 5 1, 3) := by decide +kernel
theorem d14_41 : decode jdk_52_method_21_code 41 = .ok (.goto (-38), 3) := by decide +kernel
theorem d14_44 : decode jdk_52_method_21_code 44 = .ok (.iload 4, 2) := by decide +kernel
theorem d14_46 : decode jdk_52_method_21_code 46 = .ok (.ireturn, 1) := by decide +kernel
theorem pn_14 : plainName "java/lang/StringUTF16" = true := by first | (simp [plainName, overriddenIn]; done) | decide +kernel
theorem ef_rm14_1 (m : MethodId) (x0 : Addr) (x1 : Int32) (x2 : Addr) (x3 : Int32) (x4 : Int32) : entryFrame m #[(.ref x0), (.int x1), (.ref x2), (.int x3), (.int x4)] 7 = mkF m 0 #[.val (.ref x0), .val (.int x1), .val (.ref x2), .val (.int x3), .val (.int x4), .unset, .unset] [] := by first | (simp [entryFrame, mkF, argsToLocals, Value.category]; done) | rfl
set_option maxRecDepth 65536 in
set_option maxHeartbeats 40000000 in
theorem rm14_1 (l : Launch) (Z : State) (a0 : Array Value) (hw : ∀ d ∈ tables_1, d.before a0 Z = true) (ws : List Jvm.Cond) (a1 : Addr) (a3 : Addr) (h0 : Heap) (n0 : Nat) (Z0 : n0 ≤ h0.size) (kc kb : ClassId) (c0 : Int32) (hC0 : OwnC c0) (V_a1 : Arv Z h0 a1 kc .char (1 : Int32) [(.int c0)] (.int (0 : Int32))) (V_a3 : Arv Z h0 a3 kb .byte (1 : Int32) [(.int (0 : Int32))] (.int (0 : Int32))) (ne13 : a1 ≠ a3) (g_a3 : n0 ≤ a3) :
    MetFree l (⟨"java/lang/StringUTF16", "compress", "([CI[BII)I"⟩ : MethodName) (head1 (Jvm.Cond.code (⟨"java/lang/StringUTF16", "compress", "([CI[BII)I"⟩ : MethodName) jdk_52_method_21_code 7 (some .int) :: ws) ({ frames := 0, cells := 0, slots := 0, locals := 0 } : Room)) (fun a U => a = #[(.ref a1), (.int (0 : Int32)), (.ref a3), (.int (0 : Int32)), (.int (1 : Int32))] ∧ Z.Warmed39 U.vm ∧ U.heap = h0) (fun _ _ _ _ _ => True) (fun _ U o U' => ∃ v L, o = .returned v ∧ Q14_1 Z a3 kb c0 h0 n0 v U'.heap L ∧ FrameEnd U o U' L ({ frames := 0, cells := 0, slots := 0, locals := 0 } : Room).cells ({ frames := 0, cells := 0, slots := 0, locals := 0 } : Room).slots) := by
  refine MetFree.of_bodySF (plainFor_of_name pn_14) hisR ?_
  intro p e s m args below meth c s₁ Bd hml0 hP hK
  obtain ⟨rfl, hZ, hh⟩ := hP
  have hx := Bd.exec
  have hby := Bd.bytes
  have hlk : meth.locks = false := BodyLoose.notSynchronized Bd
  have hml : c.maxLocals = 7 := hml0
  have hown : s.vm.findClass "java/lang/StringUTF16" = some m.cls := findClass_of_methodNamed Bd.named
  have hnm := (name_of_methodNamed Bd.named Bd.method).1
  have X0 : Stand p l e ({ frames := 0, cells := 0, slots := 0, locals := 0 } : Room) s m #[(.ref a1), (.int (0 : Int32)), (.ref a3), (.int (0 : Int32)), (.int (1 : Int32))] below meth c s₁ [] 0 0 := Stand.of_body Bd
  have e0 : s₁.heap = h0 := by rw [← hh, Bd.state]; rfl
  have N0 := Fr.nil n0
  have Zz := Z0
  have Kp : Keep h0 h0 [a3] := Keep.refl _ _
  show OwnEnds p e below s (Q14_1 Z a3 kb c0 h0 n0) ({ frames := 0, cells := 0, slots := 0, locals := 0 } : Room).cells ({ frames := 0, cells := 0, slots := 0, locals := 0 } : Room).slots s₁ (entryFrame m #[(.ref a1), (.int (0 : Int32)), (.ref a3), (.int (0 : Int32)), (.int (1 : Int32))] 7)
  refine own_step (T' := s₁) (f' := (mkF m 0 #[.val (.ref a1), .val (.int (0 : Int32)), .val (.ref a3), .val (.int (0 : Int32)), .val (.int (1 : Int32)), .unset, .unset] [])) (fun t k => castTop (ef_rm14_1 m a1 (0 : Int32) a3 (0 : Int32) (1 : Int32)) k) ?_
  let F1 : Nat → List Value → JFrame := fun a b => mkF m a #[.val (.ref a1), .val (.int (0 : Int32)), .val (.ref a3), .val (.int (0 : Int32)), .val (.int (1 : Int32)), .unset, .unset] b
  refine own_step (T' := s₁) (f' := (F1 1 [(.int (0 : Int32))])) (fun t k => XS.iconst X0.here hx rfl (hb hby d14_0) k) ?_
  let F2 : Nat → List Value → JFrame := fun a b => mkF m a #[.val (.ref a1), .val (.int (0 : Int32)), .val (.ref a3), .val (.int (0 : Int32)), .val (.int (1 : Int32)), .val (.int (0 : Int32)), .unset] b
  refine own_step (T' := s₁) (f' := (F2 3 [])) (fun t k => XS.istore X0.here hx rfl (hb hby d14_1) rfl (l' := #[.val (.ref a1), .val (.int (0 : Int32)), .val (.ref a3), .val (.int (0 : Int32)), .val (.int (1 : Int32)), .val (.int (0 : Int32)), .unset]) rfl k) ?_
  refine own_step (T' := s₁) (f' := (F2 5 [(.int (0 : Int32))])) (fun t k => XS.iload X0.here hx rfl (hb hby d14_3) rfl k) ?_
  refine own_step (T' := s₁) (f' := (F2 7 [(.int (1 : Int32)), (.int (0 : Int32))])) (fun t k => XS.iload X0.here hx rfl (hb hby d14_5) rfl k) ?_
  refine own_step (T' := s₁) (f' := (F2 10 [])) (fun t k => XS.icmpNo X0.here hx rfl (hb hby d14_7) rfl (tlt (by decide : (0 : Int32) < (1 : Int32))).2.1 k) ?_
  refine own_step (T' := s₁) (f' := (F2 11 [(.ref a1)])) (fun t k => XS.aloadN X0.here hx rfl (hb hby d14_10) rfl rfl k) ?_
  refine own_step (T' := s₁) (f' := (F2 12 [(.int (0 : Int32)), (.ref a1)])) (fun t k => XS.iloadN X0.here hx rfl (hb hby d14_11) rfl k) ?_
  obtain ⟨cl3, Ar3, q3, S3, M3, H3, G3⟩ := id V_a1
  have hin3 : ¬ ((0 : Int32) < 0 ∨ cl3.slots.size ≤ ((0 : Int32)).toNatClampNeg) := inb_of S3 ⟨by decide, by decide⟩
  have hat3 : cl3.slots[((0 : Int32)).toNatClampNeg]? = some (.int c0) := own_at hin3 H3 0 rfl rfl
  refine own_step (T' := s₁) (f' := (F2 13 [(.int c0)])) (fun t k => X0.caload hx (j := (0 : Int32)) (v := (.int c0)) (by rw [e0]; exact Ar3.1) (State.isArrayOf_alike hZ.alike Ar3.2.1) Ar3.2.2 hin3 hat3 (g := (F2 12 [(.int (0 : Int32)), (.ref a1)])) rfl rfl (hb hby d14_12) _ k) ?_
  let F4 : Nat → List Value → JFrame := fun a b => mkF m a #[.val (.ref a1), .val (.int (0 : Int32)), .val (.ref a3), .val (.int (0 : Int32)), .val (.int (1 : Int32)), .val (.int (0 : Int32)), .val (.int c0)] b
  refine own_step (T' := s₁) (f' := (F4 15 [])) (fun t k => XS.istore X0.here hx rfl (hb hby d14_13) rfl (l' := #[.val (.ref a1), .val (.int (0 : Int32)), .val (.ref a3), .val (.int (0 : Int32)), .val (.int (1 : Int32)), .val (.int (0 : Int32)), .val (.int c0)]) rfl k) ?_
  refine own_step (T' := s₁) (f' := (F4 17 [(.int c0)])) (fun t k => XS.iload X0.here hx rfl (hb hby d14_15) rfl k) ?_
  refine own_step (T' := s₁) (f' := (F4 20 [(.int (255 : Int32)), (.int c0)])) (fun t k => XS.sipush X0.here hx rfl (hb hby d14_17) k) ?_
  refine own_step (T' := s₁) (f' := (F4 26 [])) (fun t k => XS.icmpYes X0.here hx rfl (pc0 := 20) (pc' := 26) rfl (hb hby d14_20) rfl (flt (own_c255 hC0)).2.2.2 (by decide) (by decide) k) ?_
  refine own_step (T' := s₁) (f' := (F4 27 [(.ref a3)])) (fun t k => XS.aloadN X0.here hx rfl (hb hby d14_26) rfl rfl k) ?_
  refine own_step (T' := s₁) (f' := (F4 28 [(.int (0 : Int32)), (.ref a3)])) (fun t k => XS.iloadN X0.here hx rfl (hb hby d14_27) rfl k) ?_
  refine own_step (T' := s₁) (f' := (F4 30 [(.int c0), (.int (0 : Int32)), (.ref a3)])) (fun t k => XS.iload X0.here hx rfl (hb hby d14_28) rfl k) ?_
  refine own_step (T' := s₁) (f' := (F4 31 [(.int (c0.toInt8.toInt32)), (.int (0 : Int32)), (.ref a3)])) (fun t k => XS.i2b X0.here hx rfl (hb hby d14_30) rfl k) ?_
  obtain ⟨cl5, Ar5, q5, S5, M5, H5, G5⟩ := V_a3
  have hin5 : ¬ ((0 : Int32) < 0 ∨ cl5.slots.size ≤ ((0 : Int32)).toNatClampNeg) := inb_of S5 ⟨by decide, by decide⟩
  obtain ⟨T5, h5, X5, e5, W5, st5⟩ := stB X0 hx hZ e0 Ar5 (j := (0 : Int32)) hin5 (g := (F4 31 [(.int (c0.toInt8.toInt32)), (.int (0 : Int32)), (.ref a3)])) rfl rfl (hb hby d14_31)
  have V_a3 : Arv Z h5 a3 kb .byte (1 : Int32) [(.int (own_sb c0))] (.int (0 : Int32)) := Arv.set Ar5 q5 S5 M5 H5 G5 (fits_nar_byte _) W5 0 rfl (Nat.le_of_ble_eq_true rfl)
  replace V_a1 := V_a1.other W5 ne13
  replace Zz := Nat.le_trans Zz (Keep.of_wr W5).1
  replace Kp := Kp.wr W5 (Or.inl (List.mem_of_getElem? (i := 0) rfl))
  have N5 := Fr.snoc X5 N0 g_a3
  refine own_step (T' := T5) (f' := (F4 32 [])) (fun t k => st5 t k) ?_
  let F6 : Nat → List Value → JFrame := fun a b => mkF m a #[.val (.ref a1), .val (.int (1 : Int32)), .val (.ref a3), .val (.int (0 : Int32)), .val (.int (1 : Int32)), .val (.int (0 : Int32)), .val (.int c0)] b
  refine own_step (T' := T5) (f' := (F6 35 [])) (fun t k => XS.iinc X5.here hx rfl (hb hby d14_32) rfl (l' := #[.val (.ref a1), .val (.int (1 : Int32)), .val (.ref a3), .val (.int (0 : Int32)), .val (.int (1 : Int32)), .val (.int (0 : Int32)), .val (.int c0)]) rfl k) ?_
  let F7 : Nat → List Value → JFrame := fun a b => mkF m a #[.val (.ref a1), .val (.int (1 : Int32)), .val (.ref a3), .val (.int (1 : Int32)), .val (.int (1 : Int32)), .val (.int (0 : Int32)), .val (.int c0)] b
  refine own_step (T' := T5) (f' := (F7 38 [])) (fun t k => XS.iinc X5.here hx rfl (hb hby d14_35) rfl (l' := #[.val (.ref a1), .val (.int (1 : Int32)), .val (.ref a3), .val (.int (1 : Int32)), .val (.int (1 : Int32)), .val (.int (0 : Int32)), .val (.int c0)]) rfl k) ?_
  let F8 : Nat → List Value → JFrame := fun a b => mkF m a #[.val (.ref a1), .val (.int (1 : Int32)), .val (.ref a3), .val (.int (1 : Int32)), .val (.int (1 : Int32)), .val (.int (1 : Int32)), .val (.int c0)] b
  refine own_step (T' := T5) (f' := (F8 41 [])) (fun t k => XS.iinc X5.here hx rfl (hb hby d14_38) rfl (l' := #[.val (.ref a1), .val (.int (1 : Int32)), .val (.ref a3), .val (.int (1 : Int32)), .val (.int (1 : Int32)), .val (.int (1 : Int32)), .val (.int c0)]) rfl k) ?_
  refine own_step (T' := T5) (f' := (F8 3 [])) (fun t k => XS.goto X5.here hx rfl (pc0 := 41) (pc' := 3) rfl (hb hby d14_41) (by decide) (by decide) k) ?_
  refine own_step (T' := T5) (f' := (F8 5 [(.int (1 : Int32))])) (fun t k => XS.iload X5.here hx rfl (hb hby d14_3) rfl k) ?_
  refine own_step (T' := T5) (f' := (F8 7 [(.int (1 : Int32)), (.int (1 : Int32))])) (fun t k => XS.iload X5.here hx rfl (hb hby d14_5) rfl k) ?_
  refine own_step (T' := T5) (f' := (F8 44 [])) (fun t k => XS.icmpYes X5.here hx rfl (pc0 := 7) (pc' := 44) rfl (hb hby d14_7) rfl (flt (by decide : ¬ ((1 : Int32) < (1 : Int32)))).2.1 (by decide) (by decide) k) ?_
  refine own_step (T' := T5) (f' := (F8 46 [(.int (1 : Int32))])) (fun t k => XS.iload X5.here hx rfl (hb hby d14_44) rfl k) ?_
  exact own_retO X5 hx hlk Bd.returns rfl (Or.inl ⟨rfl, Or.inl rfl, _, rfl⟩) (hb hby d14_46) (by decide) (by decide) (by rw [e5]; exact ⟨rfl, N5, Kp, V_a3⟩)

def Q13_1 (Z : State) (c0 : Int32) (h0 : Heap) (n0 : Nat) (v : Option Value) (h : Heap) (L : List Loc) : Prop := ∃ (b : Addr) (k : ClassId), v = some (.ref b) ∧ Fr n0 L ∧ Keep h0 h [] ∧ h0.size ≤ b ∧ Arv Z h b k .byte (1 : Int32) [(.int (own_sb c0))] (.int (0 : Int32)) ∧ Exa Z h b "[B"
theorem d13_0 : decode jdk_52_method_16_code 0 = .ok (.iload_n 2, 1) := by decide +kernel
theorem d13_1 : decode jdk_52_method_16_code 1 = .ok (.newarray .byte, 2) := by decide +kernel
theorem d13_3 : decode jdk_52_method_16_code 3 = .ok (.astore_n 3, 1) := by decide +kernel
theorem d13_4 : decode jdk_52_method_16_code 4 = .ok (.aload_n 0, 1) := by decide +kernel
theorem d13_5 : decode jdk_52_method_16_code 5 = .ok (.iload_n 1, 1) := by decide +kernel
theorem d13_6 : decode jdk_52_method_16_code 6 = .ok (.aload_n 3, 1) := by decide +kernel
theorem d13_7 : decode jdk_52_method_16_code 7 = .ok (.iconst 0, 1) := by decide +kernel
theorem d13_8 : decode jdk_52_method_16_code 8 = .ok (.iload_n 2, 1) := by decide +kernel
theorem d13_9 : decode jdk_52_method_16_code 9 = .ok (.invokestatic 115, 3) := by decide +kernel
theorem d13_12 : decode jdk_52_method_16_code 12 = .ok (.istore 4, 2) := by decide +kernel
theorem d13_14 : decode jdk_52_method_16_code 14 = .ok (.iload 4, 2) := by decide +kernel
theorem d13_16 : decode jdk_52_method_16_code 16 = .ok (.iload_n 2, 1) := by decide +kernel
theorem d13_17 : decode jdk_52_method_16_code 17 = .ok (.if_icmp .eq 40, 3) := by decide +kernel
theorem d13_57 : decode jdk_52_method_16_code 57 = .ok (.aload_n 3, 1) := by decide +kernel
theorem d13_58 : decode jdk_52_method_16_code 58 = .ok (.areturn, 1) := by decide +kernel
theorem pn_13 : plainName "java/lang/StringUTF16" = true := by first | (simp [plainName, overriddenIn]; done) | decide +kernel
theorem pd_13_0 : parseMethodDescriptor "([CI[BII)I" = some ⟨[(.array .char), .int, (.array .byte), .int, .int], some .int⟩ := by decide +kernel
theorem ef_rm13_1 (m : MethodId) (x0 : Addr) (x1 : Int32) (x2 : Int32) : entryFrame m #[(.ref x0), (.int x1), (.int x2)] 6 = mkF m 0 #[.val (.ref x0), .val (.int x1), .val (.int x2), .unset, .unset, .unset] [] := by first | (simp [entryFrame, mkF, argsToLocals, Value.category]; done) | rfl
set_option maxRecDepth 65536 in
set_option maxHeartbeats 40000000 in
theorem rm13_1 (l : Launch) (Z : State) (a0 : Array Value) (hw : ∀ d ∈ tables_1, d.before a0 Z = true) (ws : List Jvm.Cond) (a1 : Addr) (h0 : Heap) (n0 : Nat) (Z0 : n0 ≤ h0.size) (kc : ClassId) (c0 : Int32) (hC0 : OwnC c0) (V_a1 : Arv Z h0 a1 kc .char (1 : Int32) [(.int c0)] (.int (0 : Int32))) :
    MetFree l (⟨"java/lang/StringUTF16", "compress", "([CII)[B"⟩ : MethodName) (head1 (Jvm.Cond.code (⟨"java/lang/StringUTF16", "compress", "([CII)[B"⟩ : MethodName) jdk_52_method_16_code 6 (some (.array .byte)) :: ws) ({ frames := 1, cells := 1, slots := 1, locals := 18 } : Room)) (fun a U => a = #[(.ref a1), (.int (0 : Int32)), (.int (1 : Int32))] ∧ Z.Warmed39 U.vm ∧ U.heap = h0) (fun _ _ _ _ _ => True) (fun _ U o U' => ∃ v L, o = .returned v ∧ Q13_1 Z c0 h0 n0 v U'.heap L ∧ FrameEnd U o U' L ({ frames := 1, cells := 1, slots := 1, locals := 18 } : Room).cells ({ frames := 1, cells := 1, slots := 1, locals := 18 } : Room).slots) := by
  refine MetFree.of_bodySF (plainFor_of_name pn_13) hisR ?_
  intro p e s m args below meth c s₁ Bd hml0 hP hK
  obtain ⟨rfl, hZ, hh⟩ := hP
  have hx := Bd.exec
  have hby := Bd.bytes
  have hlk : meth.locks = false := BodyLoose.notSynchronized Bd
  have hml : c.maxLocals = 6 := hml0
  have hown : s.vm.findClass "java/lang/StringUTF16" = some m.cls := findClass_of_methodNamed Bd.named
  have hnm := (name_of_methodNamed Bd.named Bd.method).1
  have X0 : Stand p l e ({ frames := 1, cells := 1, slots := 1, locals := 18 } : Room) s m #[(.ref a1), (.int (0 : Int32)), (.int (1 : Int32))] below meth c s₁ [] 0 0 := Stand.of_body Bd
  have e0 : s₁.heap = h0 := by rw [← hh, Bd.state]; rfl
  have N0 := Fr.nil n0
  have Zz := Z0
  have Kp : Keep h0 h0 [] := Keep.refl _ _
  show OwnEnds p e below s (Q13_1 Z c0 h0 n0) ({ frames := 1, cells := 1, slots := 1, locals := 18 } : Room).cells ({ frames := 1, cells := 1, slots := 1, locals := 18 } : Room).slots s₁ (entryFrame m #[(.ref a1), (.int (0 : Int32)), (.int (1 : Int32))] 6)
  refine own_step (T' := s₁) (f' := (mkF m 0 #[.val (.ref a1), .val (.int (0 : Int32)), .val (.int (1 : Int32)), .unset, .unset, .unset] [])) (fun t k => castTop (ef_rm13_1 m a1 (0 : Int32) (1 : Int32)) k) ?_
  refine own_step (T' := s₁) (f' := (mkF m 1 #[.val (.ref a1), .val (.int (0 : Int32)), .val (.int (1 : Int32)), .unset, .unset, .unset] [(.int (1 : Int32))])) (fun t k => XS.iloadN X0.here hx rfl (hb hby d13_0) rfl k) ?_
  obtain ⟨T1, h1, k1, X1, e1, E1, A1, EX1, st1⟩ := newPE X0 hx hZ (own_w hw 23 rfl) e0 (g := (mkF m 1 #[.val (.ref a1), .val (.int (0 : Int32)), .val (.int (1 : Int32)), .unset, .unset, .unset] [(.int (1 : Int32))])) rfl (hb hby d13_1) rfl (by decide) (cap := 1) (by decide) (by decide) (by decide) (by decide) (ad := "[B") rfl
  obtain ⟨b1, g1⟩ : ∃ z, z = h0.size := ⟨_, rfl⟩
  rw [← g1] at A1 EX1 st1
  have ne_a1_b1 : a1 ≠ b1 := Nat.ne_of_lt (Nat.lt_of_lt_of_le V_a1.lt (Nat.le_of_eq g1.symm))
  have g_b1 : n0 ≤ b1 := Nat.le_trans Zz (Nat.le_of_eq g1.symm)
  have sz_b1 : h0.size ≤ b1 := Nat.le_trans Kp.1 (Nat.le_of_eq g1.symm)
  replace V_a1 := V_a1.ext E1
  replace Zz := Nat.le_trans Zz E1.1
  replace Kp := Kp.ext E1
  have V_b1 : Arv Z h1 b1 k1 .byte (1 : Int32) [(.int (0 : Int32))] (.int (0 : Int32)) := (Arv.new A1 (by decide)).pad (pad_rep [] (.int (0 : Int32)) 1)
  have EX_b1 := EX1
  refine own_step (T' := T1) (f' := (mkF m 3 #[.val (.ref a1), .val (.int (0 : Int32)), .val (.int (1 : Int32)), .unset, .unset, .unset] [(.ref b1)])) (fun t k => st1 t k) ?_
  refine own_step (T' := T1) (f' := (mkF m 4 #[.val (.ref a1), .val (.int (0 : Int32)), .val (.int (1 : Int32)), .val (.ref b1), .unset, .unset] [])) (fun t k => XS.astoreN X1.here hx rfl (hb hby d13_3) rfl rfl (l' := #[.val (.ref a1), .val (.int (0 : Int32)), .val (.int (1 : Int32)), .val (.ref b1), .unset, .unset]) rfl k) ?_
  refine own_step (T' := T1) (f' := (mkF m 5 #[.val (.ref a1), .val (.int (0 : Int32)), .val (.int (1 : Int32)), .val (.ref b1), .unset, .unset] [(.ref a1)])) (fun t k => XS.aloadN X1.here hx rfl (hb hby d13_4) rfl rfl k) ?_
  refine own_step (T' := T1) (f' := (mkF m 6 #[.val (.ref a1), .val (.int (0 : Int32)), .val (.int (1 : Int32)), .val (.ref b1), .unset, .unset] [(.int (0 : Int32)), (.ref a1)])) (fun t k => XS.iloadN X1.here hx rfl (hb hby d13_5) rfl k) ?_
  refine own_step (T' := T1) (f' := (mkF m 7 #[.val (.ref a1), .val (.int (0 : Int32)), .val (.int (1 : Int32)), .val (.ref b1), .unset, .unset] [(.ref b1), (.int (0 : Int32)), (.ref a1)])) (fun t k => XS.aloadN X1.here hx rfl (hb hby d13_6) rfl rfl k) ?_
  refine own_step (T' := T1) (f' := (mkF m 8 #[.val (.ref a1), .val (.int (0 : Int32)), .val (.int (1 : Int32)), .val (.ref b1), .unset, .unset] [(.int (0 : Int32)), (.ref b1), (.int (0 : Int32)), (.ref a1)])) (fun t k => XS.iconst X1.here hx rfl (hb hby d13_7) k) ?_
  refine own_step (T' := T1) (f' := (mkF m 9 #[.val (.ref a1), .val (.int (0 : Int32)), .val (.int (1 : Int32)), .val (.ref b1), .unset, .unset] [(.int (1 : Int32)), (.int (0 : Int32)), (.ref b1), (.int (0 : Int32)), (.ref a1)])) (fun t k => XS.iloadN X1.here hx rfl (hb hby d13_8) rfl k) ?_
  obtain ⟨_, _, ⟨T2, L2, k2, n2⟩, -, X2, ⟨Lc2, hQ2, l2, y2, z2⟩, st2⟩ := Jvm.LawKit.callS X1 hx (y := (⟨"java/lang/StringUTF16", "compress", "([CI[BII)I"⟩ : MethodName)) hown (mvT hZ (own_w hw 102 rfl)) (mvT hZ (own_w hw 103 rfl)) (mvT hZ (own_w hw 100 rfl)) (mvT hZ (own_w hw 104 rfl)) (by decide) (backOf (W := 0) (rm14_1 l Z a0 hw [] a1 b1 h1 n0 Zz kc k1 c0 hC0 V_a1 V_b1 ne_a1_b1 g_b1) hZ (own_w hw 104 rfl) (own_w hw 100 rfl) (by decide) (by decide)) (g := (mkF m 9 #[.val (.ref a1), .val (.int (0 : Int32)), .val (.int (1 : Int32)), .val (.ref b1), .unset, .unset] [(.int (1 : Int32)), (.int (0 : Int32)), (.ref b1), (.int (0 : Int32)), (.ref a1)])) rfl (by rw [hml]; rfl) (argsL := [(.ref a1), (.int (0 : Int32)), (.ref b1), (.int (0 : Int32)), (.int (1 : Int32))]) (rest := []) (lenOf pd_13_0 rfl) rfl (by show 2 * 0 + _ ≤ _; exact Nat.le_of_eq rfl) (hb hby d13_9) (fun _ _ => ⟨rfl, e1, (by decide : 1 + 0 ≤ _), (by decide : 1 + 0 ≤ _)⟩)
  dsimp only [Pt.U, Pt.locs, Pt.cells, Pt.slots] at X2 l2 y2 z2 st2 hQ2
  subst l2 y2 z2
  obtain ⟨rfl, N2q, K2, Vr2⟩ := hQ2
  have N2 := Fr.app N0 N2q
  replace V_a1 := V_a1.keep K2 (ninS ne_a1_b1 nin0)
  replace EX_b1 := EX_b1.keep K2
  replace Zz := Nat.le_trans Zz K2.1
  replace Kp := Kp.trans K2 (allS (Or.inr sz_b1) all0)
  refine own_step (T' := T2) (f' := (mkF m 12 #[.val (.ref a1), .val (.int (0 : Int32)), .val (.int (1 : Int32)), .val (.ref b1), .unset, .unset] [(.int (1 : Int32))])) (fun t k => st2 t k) ?_
  refine own_step (T' := T2) (f' := (mkF m 14 #[.val (.ref a1), .val (.int (0 : Int32)), .val (.int (1 : Int32)), .val (.ref b1), .val (.int (1 : Int32)), .unset] [])) (fun t k => XS.istore X2.here hx rfl (hb hby d13_12) rfl (l' := #[.val (.ref a1), .val (.int (0 : Int32)), .val (.int (1 : Int32)), .val (.ref b1), .val (.int (1 : Int32)), .unset]) rfl k) ?_
  refine own_step (T' := T2) (f' := (mkF m 16 #[.val (.ref a1), .val (.int (0 : Int32)), .val (.int (1 : Int32)), .val (.ref b1), .val (.int (1 : Int32)), .unset] [(.int (1 : Int32))])) (fun t k => XS.iload X2.here hx rfl (hb hby d13_14) rfl k) ?_
  refine own_step (T' := T2) (f' := (mkF m 17 #[.val (.ref a1), .val (.int (0 : Int32)), .val (.int (1 : Int32)), .val (.ref b1), .val (.int (1 : Int32)), .unset] [(.int (1 : Int32)), (.int (1 : Int32))])) (fun t k => XS.iloadN X2.here hx rfl (hb hby d13_16) rfl k) ?_
  refine own_step (T' := T2) (f' := (mkF m 57 #[.val (.ref a1), .val (.int (0 : Int32)), .val (.int (1 : Int32)), .val (.ref b1), .val (.int (1 : Int32)), .unset] [])) (fun t k => XS.icmpYes X2.here hx rfl (pc0 := 17) (pc' := 57) rfl (hb hby d13_17) rfl (teq (by decide : (1 : Int32) = (1 : Int32))).1 (by decide) (by decide) k) ?_
  refine own_step (T' := T2) (f' := (mkF m 58 #[.val (.ref a1), .val (.int (0 : Int32)), .val (.int (1 : Int32)), .val (.ref b1), .val (.int (1 : Int32)), .unset] [(.ref b1)])) (fun t k => XS.aloadN X2.here hx rfl (hb hby d13_57) rfl rfl k) ?_
  exact own_retO X2 hx hlk Bd.returns rfl (Or.inr (Or.inr (Or.inr (Or.inr ⟨rfl, rfl, rfl⟩)))) (hb hby d13_58) (by decide) (by decide) ⟨b1, k1, rfl, N2, Kp, sz_b1, Vr2, EX_b1⟩

theorem d15_0 : decode jdk_52_method_15_code 0 = .ok (.iload_n 1, 1) := by decide +kernel
theorem d15_1 : decode jdk_52_method_15_code 1 = .ok (.aload_n 0, 1) := by decide +kernel
theorem d15_2 : decode jdk_52_method_15_code 2 = .ok (.arraylength, 1) := by decide +kernel
theorem d15_3 : decode jdk_52_method_15_code 3 = .ok (.isub, 1) := by decide +kernel
theorem d15_4 : decode jdk_52_method_15_code 4 = .ok (.bipush 31, 2) := by decide +kernel
theorem d15_6 : decode jdk_52_method_15_code 6 = .ok (.iushr, 1) := by decide +kernel
theorem d15_7 : decode jdk_52_method_15_code 7 = .ok (.i2b, 1) := by decide +kernel
theorem d15_8 : decode jdk_52_method_15_code 8 = .ok (.ireturn, 1) := by decide +kernel
theorem pn_15 : plainName "java/lang/StringUTF16" = true := by first | (simp [plainName, overriddenIn]; done) | decide +kernel
theorem ef_rm15_1 (m : MethodId) (x0 : Addr) (x1 : Int32) : entryFrame m #[(.ref x0), (.int x1)] 2 = mkF m 0 #[.val (.ref x0), .val (.int x1)] [] := by first | (simp [entryFrame, mkF, argsToLocals, Value.category]; done) | rfl
set_option maxRecDepth 65536 in
set_option maxHeartbeats 40000000 in
theorem rm15_1 (l : Launch) (Z : State) (a0 : Array Value) (hw : ∀ d ∈ tables_1, d.before a0 Z = true) (ws : List Jvm.Cond) (a1 : Addr) (h0 : Heap) (n0 : Nat) (Z0 : n0 ≤ h0.size) (kb : ClassId) (c0 : Int32) (V_a1 : Arv Z h0 a1 kb .byte (1 : Int32) [(.int (own_sb c0))] (.int (0 : Int32))) :
    MetFree l (⟨"java/lang/StringUTF16", "coderFromArrayLen", "([BI)B"⟩ : MethodName) (head1 (Jvm.Cond.code (⟨"java/lang/StringUTF16", "coderFromArrayLen", "([BI)B"⟩ : MethodName) jdk_52_method_15_code 2 (some .byte) :: ws) ({ frames := 0, cells := 0, slots := 0, locals := 0 } : Room)) (fun a U => a = #[(.ref a1), (.int (1 : Int32))] ∧ Z.Warmed39 U.vm ∧ U.heap = h0) (fun _ _ _ _ _ => True) (fun _ U o U' => ∃ v L, o = .returned v ∧ QI 0 h0 n0 v U'.heap L ∧ FrameEnd U o U' L ({ frames := 0, cells := 0, slots := 0, locals := 0 } : Room).cells ({ frames := 0, cells := 0, slots := 0, locals := 0 } : Room).slots) := by
  refine MetFree.of_bodySF (plainFor_of_name pn_15) hisR ?_
  intro p e s m args below meth c s₁ Bd hml0 hP hK
  obtain ⟨rfl, hZ, hh⟩ := hP
  have hx := Bd.exec
  have hby := Bd.bytes
  have hlk : meth.locks = false := BodyLoose.notSynchronized Bd
  have hml : c.maxLocals = 2 := hml0
  have hown : s.vm.findClass "java/lang/StringUTF16" = some m.cls := findClass_of_methodNamed Bd.named
  have hnm := (name_of_methodNamed Bd.named Bd.method).1
  have X0 : Stand p l e ({ frames := 0, cells := 0, slots := 0, locals := 0 } : Room) s m #[(.ref a1), (.int (1 : Int32))] below meth c s₁ [] 0 0 := Stand.of_body Bd
  have e0 : s₁.heap = h0 := by rw [← hh, Bd.state]; rfl
  have N0 := Fr.nil n0
  have Zz := Z0
  have Kp : Keep h0 h0 [] := Keep.refl _ _
  show OwnEnds p e below s (QI 0 h0 n0) ({ frames := 0, cells := 0, slots := 0, locals := 0 } : Room).cells ({ frames := 0, cells := 0, slots := 0, locals := 0 } : Room).slots s₁ (entryFrame m #[(.ref a1), (.int (1 : Int32))] 2)
  refine own_step (T' := s₁) (f' := (mkF m 0 #[.val (.ref a1), .val (.int (1 : Int32))] [])) (fun t k => castTop (ef_rm15_1 m a1 (1 : Int32)) k) ?_
  refine own_step (T' := s₁) (f' := (mkF m 1 #[.val (.ref a1), .val (.int (1 : Int32))] [(.int (1 : Int32))])) (fun t k => XS.iloadN X0.here hx rfl (hb hby d15_0) rfl k) ?_
  refine own_step (T' := s₁) (f' := (mkF m 2 #[.val (.ref a1), .val (.int (1 : Int32))] [(.ref a1), (.int (1 : Int32))])) (fun t k => XS.aloadN X0.here hx rfl (hb hby d15_1) rfl rfl k) ?_
  obtain ⟨cl1, Ar1, q1, S1, M1, H1, G1⟩ := id V_a1
  refine own_step (T' := s₁) (f' := (mkF m 3 #[.val (.ref a1), .val (.int (1 : Int32))] [(.int (1 : Int32)), (.int (1 : Int32))])) (fun t k => X0.arraylength hx (by rw [e0]; exact Ar1.1) (State.isArrayOf_alike hZ.alike Ar1.2.1) (g := (mkF m 2 #[.val (.ref a1), .val (.int (1 : Int32))] [(.ref a1), (.int (1 : Int32))])) rfl rfl (hb hby d15_2) _ (by rw [len_of S1 M1]; exact k)) ?_
  refine own_step (T' := s₁) (f' := (mkF m 4 #[.val (.ref a1), .val (.int (1 : Int32))] [(.int (0 : Int32))])) (fun t k => XS.isub X0.here hx rfl (hb hby d15_3) rfl k) ?_
  refine own_step (T' := s₁) (f' := (mkF m 6 #[.val (.ref a1), .val (.int (1 : Int32))] [(.int (31 : Int32)), (.int (0 : Int32))])) (fun t k => XS.bipush X0.here hx rfl (hb hby d15_4) k) ?_
  refine own_step (T' := s₁) (f' := (mkF m 7 #[.val (.ref a1), .val (.int (1 : Int32))] [(.int (((0 : Int32).toUInt32 >>> ((31 : Int32) &&& 31).toUInt32).toInt32))])) (fun t k => XS.iushr X0.here hx rfl (hb hby d15_6) rfl k) ?_
  refine own_step (T' := s₁) (f' := (mkF m 8 #[.val (.ref a1), .val (.int (1 : Int32))] [(.int ((((0 : Int32).toUInt32 >>> ((31 : Int32) &&& 31).toUInt32).toInt32).toInt8.toInt32))])) (fun t k => XS.i2b X0.here hx rfl (hb hby d15_7) rfl k) ?_
  exact own_retN X0 hx hlk (t := .byte) Bd.returns (by simp) (hb hby d15_8) (by decide) (by decide) ⟨by decide, N0, e0⟩

theorem d3_27 : decode jdk_42_method_149_code 27 = .ok (.getstatic 38, 3) := by decide +kernel
theorem d3_30 : decode jdk_42_method_149_code 30 = .ok (.ifCond .eq 28, 3) := by decide +kernel
theorem d3_33 : decode jdk_42_method_149_code 33 = .ok (.aload_n 1, 1) := by decide +kernel
theorem d3_34 : decode jdk_42_method_149_code 34 = .ok (.iload_n 2, 1) := by decide +kernel
theorem d3_35 : decode jdk_42_method_149_code 35 = .ok (.iload_n 3, 1) := by decide +kernel
theorem d3_36 : decode jdk_42_method_149_code 36 = .ok (.invokestatic 177, 3) := by decide +kernel
theorem d3_39 : decode jdk_42_method_149_code 39 = .ok (.astore 5, 2) := by decide +kernel
theorem d3_41 : decode jdk_42_method_149_code 41 = .ok (.aload_n 0, 1) := by decide +kernel
theorem d3_42 : decode jdk_42_method_149_code 42 = .ok (.aload 5, 2) := by decide +kernel
theorem d3_44 : decode jdk_42_method_149_code 44 = .ok (.iload_n 3, 1) := by decide +kernel
theorem d3_45 : decode jdk_42_method_149_code 45 = .ok (.invokestatic 47, 3) := by decide +kernel
theorem d3_48 : decode jdk_42_method_149_code 48 = .ok (.putfield 15, 3) := by decide +kernel
theorem d3_51 : decode jdk_42_method_149_code 51 = .ok (.aload_n 0, 1) := by decide +kernel
theorem d3_52 : decode jdk_42_method_149_code 52 = .ok (.aload 5, 2) := by decide +kernel
theorem d3_54 : decode jdk_42_method_149_code 54 = .ok (.putfield 9, 3) := by decide +kernel
theorem d3_57 : decode jdk_42_method_149_code 57 = .ok (.return_, 1) := by decide +kernel
theorem pd_3_0 : parseMethodDescriptor "([CII)[B" = some ⟨[(.array .char), .int, .int], some (.array .byte)⟩ := by decide +kernel
theorem pd_3_1 : parseMethodDescriptor "([BI)B" = some ⟨[(.array .byte), .int], some .byte⟩ := by decide +kernel
theorem ef_rm3_1 (m : MethodId) (x0 : Addr) (x1 : Addr) (x2 : Int32) (x3 : Int32) : entryFrame m #[(.ref x0), (.ref x1), (.int x2), (.int x3), .null] 6 = mkF m 0 #[.val (.ref x0), .val (.ref x1), .val (.int x2), .val (.int x3), .val .null, .unset] [] := by first | (simp [entryFrame, mkF, argsToLocals, Value.category]; done) | rfl
set_option maxRecDepth 65536 in
set_option maxHeartbeats 40000000 in
theorem rm3_1 (l : Launch) (Z : State) (a0 : Array Value) (hw : ∀ d ∈ tables_1, d.before a0 Z = true) (ws : List Jvm.Cond) (a1 : Addr) (a2 : Addr) (h0 : Heap) (n0 : Nat) (Z0 : n0 ≤ h0.size) (E_a1 : Exa Z h0 a1 "java/lang/String") (F_value_a1 : Fld Z h0 a1 "java/lang/String" "value" "[B" .null) (F_coder_a1 : Fld Z h0 a1 "java/lang/String" "coder" "B" (.int (0 : Int32))) (g_a1 : n0 ≤ a1) (kc : ClassId) (c0 : Int32) (hC0 : OwnC c0) (V_a2 : Arv Z h0 a2 kc .char (1 : Int32) [(.int c0)] (.int (0 : Int32))) (cs : Int32) (S_CS : Sta Z h0 "java/lang/String" "COMPACT_STRINGS" "Z" (.int cs)) (hcs : ¬ cs = (0 : Int32)) (n12 : a1 ≠ a2) :
    MetFree l (⟨"java/lang/String", "<init>", "([CIILjava/lang/Void;)V"⟩ : MethodName) (head1 (Jvm.Cond.code (⟨"java/lang/String", "<init>", "([CIILjava/lang/Void;)V"⟩ : MethodName) jdk_42_method_149_code 6 none :: ws) ({ frames := 2, cells := 1, slots := 1, locals := 36 } : Room)) (fun a U => a = #[(.ref a1), (.ref a2), (.int (0 : Int32)), (.int (1 : Int32)), .null] ∧ Z.Warmed39 U.vm ∧ U.heap = h0) (fun _ _ _ _ _ => True) (fun _ U o U' => ∃ v L, o = .returned v ∧ Q3_1 Z a1 c0 h0 n0 v U'.heap L ∧ FrameEnd U o U' L ({ frames := 2, cells := 1, slots := 1, locals := 36 } : Room).cells ({ frames := 2, cells := 1, slots := 1, locals := 36 } : Room).slots) := by
  refine MetFree.of_bodySF (plainFor_of_name pn_3) hisR ?_
  intro p e s m args below meth c s₁ Bd hml0 hP hK
  obtain ⟨rfl, hZ, hh⟩ := hP
  have hx := Bd.exec
  have hby := Bd.bytes
  have hlk : meth.locks = false := BodyLoose.notSynchronized Bd
  have hml : c.maxLocals = 6 := hml0
  have hown : s.vm.findClass "java/lang/String" = some m.cls := findClass_of_methodNamed Bd.named
  have hnm := (name_of_methodNamed Bd.named Bd.method).1
  have X0 : Stand p l e ({ frames := 2, cells := 1, slots := 1, locals := 36 } : Room) s m #[(.ref a1), (.ref a2), (.int (0 : Int32)), (.int (1 : Int32)), .null] below meth c s₁ [] 0 0 := Stand.of_body Bd
  have e0 : s₁.heap = h0 := by rw [← hh, Bd.state]; rfl
  have N0 := Fr.nil n0
  have Zz := Z0
  have Kp : Keep h0 h0 [a1] := Keep.refl _ _
  show OwnEnds p e below s (Q3_1 Z a1 c0 h0 n0) ({ frames := 2, cells := 1, slots := 1, locals := 36 } : Room).cells ({ frames := 2, cells := 1, slots := 1, locals := 36 } : Room).slots s₁ (entryFrame m #[(.ref a1), (.ref a2), (.int (0 : Int32)), (.int (1 : Int32)), .null] 6)
  refine own_step (T' := s₁) (f' := (mkF m 0 #[.val (.ref a1), .val (.ref a2), .val (.int (0 : Int32)), .val (.int (1 : Int32)), .val .null, .unset] [])) (fun t k => castTop (ef_rm3_1 m a1 a2 (0 : Int32) (1 : Int32)) k) ?_
  refine own_step (T' := s₁) (f' := (mkF m 1 #[.val (.ref a1), .val (.ref a2), .val (.int (0 : Int32)), .val (.int (1 : Int32)), .val .null, .unset] [(.ref a1)])) (fun t k => XS.aloadN X0.here hx rfl (hb hby d3_0) rfl rfl k) ?_
  obtain ⟨T1, X1, e1, st1⟩ := initO X0 hx hZ hown (own_w hw 19 rfl) (own_w hw 20 rfl) (own_w hw 21 rfl) e0 (g := (mkF m 1 #[.val (.ref a1), .val (.ref a2), .val (.int (0 : Int32)), .val (.int (1 : Int32)), .val .null, .unset] [(.ref a1)])) rfl (by rw [hml]; rfl) rfl (hb hby d3_1) (by decide) (W := 0) (by show 2 * 0 + _ ≤ _; exact Nat.le_of_eq rfl) (by decide)
  refine own_step (T' := T1) (f' := (mkF m 4 #[.val (.ref a1), .val (.ref a2), .val (.int (0 : Int32)), .val (.int (1 : Int32)), .val .null, .unset] [])) (fun t k => st1 t k) ?_
  refine own_step (T' := T1) (f' := (mkF m 5 #[.val (.ref a1), .val (.ref a2), .val (.int (0 : Int32)), .val (.int (1 : Int32)), .val .null, .unset] [(.int (1 : Int32))])) (fun t k => XS.iloadN X1.here hx rfl (hb hby d3_4) rfl k) ?_
  refine own_step (T' := T1) (f' := (mkF m 27 #[.val (.ref a1), .val (.ref a2), .val (.int (0 : Int32)), .val (.int (1 : Int32)), .val .null, .unset] [])) (fun t k => XS.ifYes X1.here hx rfl (pc0 := 5) (pc' := 27) rfl (hb hby d3_5) rfl ((if0 _ _).trans (feq (by decide : ¬ ((1 : Int32) = (0 : Int32)))).2) (by decide) (by decide) k) ?_
  obtain ⟨T2, X2, e2, st2⟩ := getS2 X1 hx hZ hown (host := "") (Or.inl (own_w hw 58 rfl)) Via.refl e1 S_CS (g := (mkF m 27 #[.val (.ref a1), .val (.ref a2), .val (.int (0 : Int32)), .val (.int (1 : Int32)), .val .null, .unset] [])) rfl (hb hby d3_27)
  refine own_step (T' := T2) (f' := (mkF m 30 #[.val (.ref a1), .val (.ref a2), .val (.int (0 : Int32)), .val (.int (1 : Int32)), .val .null, .unset] [(.int cs)])) (fun t k => st2 t k) ?_
  refine own_step (T' := T2) (f' := (mkF m 33 #[.val (.ref a1), .val (.ref a2), .val (.int (0 : Int32)), .val (.int (1 : Int32)), .val .null, .unset] [])) (fun t k => XS.ifNo X2.here hx rfl (hb hby d3_30) rfl ((if0 _ _).trans (feq hcs).1) k) ?_
  refine own_step (T' := T2) (f' := (mkF m 34 #[.val (.ref a1), .val (.ref a2), .val (.int (0 : Int32)), .val (.int (1 : Int32)), .val .null, .unset] [(.ref a2)])) (fun t k => XS.aloadN X2.here hx rfl (hb hby d3_33) rfl rfl k) ?_
  refine own_step (T' := T2) (f' := (mkF m 35 #[.val (.ref a1), .val (.ref a2), .val (.int (0 : Int32)), .val (.int (1 : Int32)), .val .null, .unset] [(.int (0 : Int32)), (.ref a2)])) (fun t k => XS.iloadN X2.here hx rfl (hb hby d3_34) rfl k) ?_
  refine own_step (T' := T2) (f' := (mkF m 36 #[.val (.ref a1), .val (.ref a2), .val (.int (0 : Int32)), .val (.int (1 : Int32)), .val .null, .unset] [(.int (1 : Int32)), (.int (0 : Int32)), (.ref a2)])) (fun t k => XS.iloadN X2.here hx rfl (hb hby d3_35) rfl k) ?_
  obtain ⟨_, _, ⟨T3, L3, k3, n3⟩, -, X3, ⟨Lc3, hQ3, l3, y3, z3⟩, st3⟩ := Jvm.LawKit.callS X2 hx (y := (⟨"java/lang/StringUTF16", "compress", "([CII)[B"⟩ : MethodName)) hown (mvT hZ (own_w hw 98 rfl)) (mvT hZ (own_w hw 99 rfl)) (mvT hZ (own_w hw 100 rfl)) (mvT hZ (own_w hw 101 rfl)) (by decide) (backOf (W := 0) (rm13_1 l Z a0 hw [] a2 h0 n0 Zz kc c0 hC0 V_a2) hZ (own_w hw 101 rfl) (own_w hw 100 rfl) (by decide) (by decide)) (g := (mkF m 36 #[.val (.ref a1), .val (.ref a2), .val (.int (0 : Int32)), .val (.int (1 : Int32)), .val .null, .unset] [(.int (1 : Int32)), (.int (0 : Int32)), (.ref a2)])) rfl (by rw [hml]; rfl) (argsL := [(.ref a2), (.int (0 : Int32)), (.int (1 : Int32))]) (rest := []) (lenOf pd_3_0 rfl) rfl (by show 2 * 0 + _ ≤ _; exact Nat.le_of_eq rfl) (hb hby d3_36) (fun _ _ => ⟨rfl, e2, (by decide : 0 + 1 ≤ _), (by decide : 0 + 1 ≤ _)⟩)
  dsimp only [Pt.U, Pt.locs, Pt.cells, Pt.slots] at X3 l3 y3 z3 st3 hQ3
  subst l3 y3 z3
  obtain ⟨rb3, rk3, rfl, N3q, K3, zz3, Vr3, Er3⟩ := hQ3
  have N3 := Fr.app N0 N3q
  have ne_a1_rb3 : a1 ≠ rb3 := Nat.ne_of_lt (Nat.lt_of_lt_of_le E_a1.lt zz3)
  have ne_a2_rb3 : a2 ≠ rb3 := Nat.ne_of_lt (Nat.lt_of_lt_of_le V_a2.lt zz3)
  replace S_CS := own_sta_keep S_CS K3 all0
  replace E_a1 := E_a1.keep K3
  replace F_value_a1 := F_value_a1.keep K3 nin0
  replace F_coder_a1 := F_coder_a1.keep K3 nin0
  replace V_a2 := V_a2.keep K3 nin0
  replace Zz := Nat.le_trans Zz K3.1
  replace Kp := Kp.trans K3 all0
  refine own_step (T' := T3) (f' := (mkF m 39 #[.val (.ref a1), .val (.ref a2), .val (.int (0 : Int32)), .val (.int (1 : Int32)), .val .null, .unset] [(.ref rb3)])) (fun t k => st3 t k) ?_
  refine own_step (T' := T3) (f' := (mkF m 41 #[.val (.ref a1), .val (.ref a2), .val (.int (0 : Int32)), .val (.int (1 : Int32)), .val .null, .val (.ref rb3)] [])) (fun t k => XS.astore X3.here hx rfl (hb hby d3_39) rfl rfl (l' := #[.val (.ref a1), .val (.ref a2), .val (.int (0 : Int32)), .val (.int (1 : Int32)), .val .null, .val (.ref rb3)]) rfl k) ?_
  refine own_step (T' := T3) (f' := (mkF m 42 #[.val (.ref a1), .val (.ref a2), .val (.int (0 : Int32)), .val (.int (1 : Int32)), .val .null, .val (.ref rb3)] [(.ref a1)])) (fun t k => XS.aloadN X3.here hx rfl (hb hby d3_41) rfl rfl k) ?_
  refine own_step (T' := T3) (f' := (mkF m 44 #[.val (.ref a1), .val (.ref a2), .val (.int (0 : Int32)), .val (.int (1 : Int32)), .val .null, .val (.ref rb3)] [(.ref rb3), (.ref a1)])) (fun t k => XS.aload X3.here hx rfl (hb hby d3_42) rfl rfl k) ?_
  refine own_step (T' := T3) (f' := (mkF m 45 #[.val (.ref a1), .val (.ref a2), .val (.int (0 : Int32)), .val (.int (1 : Int32)), .val .null, .val (.ref rb3)] [(.int (1 : Int32)), (.ref rb3), (.ref a1)])) (fun t k => XS.iloadN X3.here hx rfl (hb hby d3_44) rfl k) ?_
  obtain ⟨_, _, ⟨T4, L4, k4, n4⟩, -, X4, ⟨Lc4, hQ4, l4, y4, z4⟩, st4⟩ := Jvm.LawKit.callS X3 hx (y := (⟨"java/lang/StringUTF16", "coderFromArrayLen", "([BI)B"⟩ : MethodName)) hown (mvT hZ (own_w hw 105 rfl)) (mvT hZ (own_w hw 106 rfl)) (mvT hZ (own_w hw 100 rfl)) (mvT hZ (own_w hw 107 rfl)) (by decide) (backOf (W := 1) (rm15_1 l Z a0 hw [] rb3 T3.heap n0 Zz rk3 c0 Vr3) hZ (own_w hw 107 rfl) (own_w hw 100 rfl) (by decide) (by decide)) (g := (mkF m 45 #[.val (.ref a1), .val (.ref a2), .val (.int (0 : Int32)), .val (.int (1 : Int32)), .val .null, .val (.ref rb3)] [(.int (1 : Int32)), (.ref rb3), (.ref a1)])) rfl (by rw [hml]; rfl) (argsL := [(.ref rb3), (.int (1 : Int32))]) (rest := [(.ref a1)]) (lenOf pd_3_1 rfl) rfl (by show 2 * 0 + _ ≤ _; exact Nat.le_of_eq rfl) (hb hby d3_45) (fun _ _ => ⟨rfl, rfl, (by decide : 1 + 0 ≤ _), (by decide : 1 + 0 ≤ _)⟩)
  dsimp only [Pt.U, Pt.locs, Pt.cells, Pt.slots] at X4 l4 y4 z4 st4 hQ4
  subst l4 y4 z4
  obtain ⟨rfl, N4q, E4⟩ := hQ4
  have N4 := Fr.app N3 N4q
  refine own_step (T' := T4) (f' := (mkF m 48 #[.val (.ref a1), .val (.ref a2), .val (.int (0 : Int32)), .val (.int (1 : Int32)), .val .null, .val (.ref rb3)] [(.int (0 : Int32)), (.ref a1)])) (fun t k => st4 t k) ?_
  obtain ⟨T5, h5, X5, e5, W5, st5⟩ := putFN X4 hx hZ hown (own_w hw 29 rfl) Via.refl E4 F_coder_a1 E_a1 (Or.inr ⟨(own_w hw 25 rfl), rfl, hnm⟩) (own_w hw 10 rfl) (ty := .byte) (v' := (.int (0 : Int32))) (by decide) rfl (by decide) (g := (mkF m 48 #[.val (.ref a1), .val (.ref a2), .val (.int (0 : Int32)), .val (.int (1 : Int32)), .val .null, .val (.ref rb3)] [(.int (0 : Int32)), (.ref a1)])) rfl rfl (hb hby d3_48)
  replace E_a1 := E_a1.wr W5
  replace F_value_a1 := F_value_a1.other W5 (Or.inr (Jvm.RoadKit.slot_ne (Or.inr (own_w hw 24 rfl)) (Or.inr (own_w hw 25 rfl)) (by decide) (t := (.array .byte)) (t' := .byte) (by decide) (by decide)))
  replace F_coder_a1 := F_coder_a1.same W5
  replace V_a2 := V_a2.other W5 (Ne.symm n12)
  replace S_CS := S_CS.wr W5
  replace Vr3 := Vr3.other W5 (Ne.symm ne_a1_rb3)
  replace Er3 := Er3.wr W5
  replace Zz := Nat.le_trans Zz (Keep.of_wr W5).1
  replace Kp := Kp.wr W5 (Or.inl (List.mem_of_getElem? (i := 0) rfl))
  have N5 := Fr.snoc X5 N4 g_a1
  refine own_step (T' := T5) (f' := (mkF m 51 #[.val (.ref a1), .val (.ref a2), .val (.int (0 : Int32)), .val (.int (1 : Int32)), .val .null, .val (.ref rb3)] [])) (fun t k => st5 t k) ?_
  refine own_step (T' := T5) (f' := (mkF m 52 #[.val (.ref a1), .val (.ref a2), .val (.int (0 : Int32)), .val (.int (1 : Int32)), .val .null, .val (.ref rb3)] [(.ref a1)])) (fun t k => XS.aloadN X5.here hx rfl (hb hby d3_51) rfl rfl k) ?_
  refine own_step (T' := T5) (f' := (mkF m 54 #[.val (.ref a1), .val (.ref a2), .val (.int (0 : Int32)), .val (.int (1 : Int32)), .val .null, .val (.ref rb3)] [(.ref rb3), (.ref a1)])) (fun t k => XS.aload X5.here hx rfl (hb hby d3_52) rfl rfl k) ?_
  obtain ⟨T6, h6, X6, e6, W6, st6⟩ := putF X5 hx hZ hown (host := "") (Or.inl (own_w hw 28 rfl)) Via.refl e5 F_value_a1 E_a1 (Or.inr ⟨(own_w hw 24 rfl), rfl, hnm⟩) (own_w hw 10 rfl) (ty := (.array .byte)) (by decide) rfl rfl (g := (mkF m 54 #[.val (.ref a1), .val (.ref a2), .val (.int (0 : Int32)), .val (.int (1 : Int32)), .val .null, .val (.ref rb3)] [(.ref rb3), (.ref a1)])) rfl rfl (hb hby d3_54)
  replace E_a1 := E_a1.wr W6
  replace F_value_a1 := F_value_a1.same W6
  replace F_coder_a1 := F_coder_a1.other W6 (Or.inr (Jvm.RoadKit.slot_ne (Or.inr (own_w hw 25 rfl)) (Or.inr (own_w hw 24 rfl)) (by decide) (t := .byte) (t' := (.array .byte)) (by decide) (by decide)))
  replace V_a2 := V_a2.other W6 (Ne.symm n12)
  replace S_CS := S_CS.wr W6
  replace Vr3 := Vr3.other W6 (Ne.symm ne_a1_rb3)
  replace Er3 := Er3.wr W6
  replace Zz := Nat.le_trans Zz (Keep.of_wr W6).1
  replace Kp := Kp.wr W6 (Or.inl (List.mem_of_getElem? (i := 0) rfl))
  have N6 := Fr.snoc X6 N5 g_a1
  refine own_step (T' := T6) (f' := (mkF m 57 #[.val (.ref a1), .val (.ref a2), .val (.int (0 : Int32)), .val (.int (1 : Int32)), .val .null, .val (.ref rb3)] [])) (fun t k => st6 t k) ?_
  exact own_retV X6 hx hlk Bd.returns (hb hby d3_57) (by decide) (by decide) (by rw [e6]; exact ⟨rfl, N6, Kp, rb3, rk3, E_a1, F_coder_a1, F_value_a1, Vr3, Er3⟩)

theorem ef_rm2_1 (m : MethodId) (x0 : Addr) (x1 : Addr) : entryFrame m #[(.ref x0), (.ref x1)] 2 = mkF m 0 #[.val (.ref x0), .val (.ref x1)] [] := by first | (simp [entryFrame, mkF, argsToLocals, Value.category]; done) | rfl
set_option maxRecDepth 65536 in
set_option maxHeartbeats 40000000 in
theorem rm2_1 (l : Launch) (Z : State) (a0 : Array Value) (hw : ∀ d ∈ tables_1, d.before a0 Z = true) (ws : List Jvm.Cond) (a1 : Addr) (a2 : Addr) (h0 : Heap) (n0 : Nat) (Z0 : n0 ≤ h0.size) (E_a1 : Exa Z h0 a1 "java/lang/String") (F_value_a1 : Fld Z h0 a1 "java/lang/String" "value" "[B" .null) (F_coder_a1 : Fld Z h0 a1 "java/lang/String" "coder" "B" (.int (0 : Int32))) (g_a1 : n0 ≤ a1) (kc : ClassId) (c0 : Int32) (hC0 : OwnC c0) (V_a2 : Arv Z h0 a2 kc .char (1 : Int32) [(.int c0)] (.int (0 : Int32))) (cs : Int32) (S_CS : Sta Z h0 "java/lang/String" "COMPACT_STRINGS" "Z" (.int cs)) (hcs : ¬ cs = (0 : Int32)) (n12 : a1 ≠ a2) :
    MetFree l (⟨"java/lang/String", "<init>", "([C)V"⟩ : MethodName) (head1 (Jvm.Cond.code (⟨"java/lang/String", "<init>", "([C)V"⟩ : MethodName) jdk_42_method_3_code 2 none :: ws) ({ frames := 3, cells := 1, slots := 1, locals := 54 } : Room)) (fun a U => a = #[(.ref a1), (.ref a2)] ∧ Z.Warmed39 U.vm ∧ U.heap = h0) (fun _ _ _ _ _ => True) (fun _ U o U' => ∃ v L, o = .returned v ∧ Q3_1 Z a1 c0 h0 n0 v U'.heap L ∧ FrameEnd U o U' L ({ frames := 3, cells := 1, slots := 1, locals := 54 } : Room).cells ({ frames := 3, cells := 1, slots := 1, locals := 54 } : Room).slots) := by
  refine MetFree.of_bodySF (plainFor_of_name pn_2) hisR ?_
  intro p e s m args below meth c s₁ Bd hml0 hP hK
  obtain ⟨rfl, hZ, hh⟩ := hP
  have hx := Bd.exec
  have hby := Bd.bytes
  have hlk : meth.locks = false := BodyLoose.notSynchronized Bd
  have hml : c.maxLocals = 2 := hml0
  have hown : s.vm.findClass "java/lang/String" = some m.cls := findClass_of_methodNamed Bd.named
  have hnm := (name_of_methodNamed Bd.named Bd.method).1
  have X0 : Stand p l e ({ frames := 3, cells := 1, slots := 1, locals := 54 } : Room) s m #[(.ref a1), (.ref a2)] below meth c s₁ [] 0 0 := Stand.of_body Bd
  have e0 : s₁.heap = h0 := by rw [← hh, Bd.state]; rfl
  have N0 := Fr.nil n0
  have Zz := Z0
  have Kp : Keep h0 h0 [] := Keep.refl _ _
  show OwnEnds p e below s (Q3_1 Z a1 c0 h0 n0) ({ frames := 3, cells := 1, slots := 1, locals := 54 } : Room).cells ({ frames := 3, cells := 1, slots := 1, locals := 54 } : Room).slots s₁ (entryFrame m #[(.ref a1), (.ref a2)] 2)
  refine own_step (T' := s₁) (f' := (mkF m 0 #[.val (.ref a1), .val (.ref a2)] [])) (fun t k => castTop (ef_rm2_1 m a1 a2) k) ?_
  refine own_step (T' := s₁) (f' := (mkF m 1 #[.val (.ref a1), .val (.ref a2)] [(.ref a1)])) (fun t k => XS.aloadN X0.here hx rfl (hb hby d2_0) rfl rfl k) ?_
  refine own_step (T' := s₁) (f' := (mkF m 2 #[.val (.ref a1), .val (.ref a2)] [(.ref a2), (.ref a1)])) (fun t k => XS.aloadN X0.here hx rfl (hb hby d2_1) rfl rfl k) ?_
  refine own_step (T' := s₁) (f' := (mkF m 3 #[.val (.ref a1), .val (.ref a2)] [(.int (0 : Int32)), (.ref a2), (.ref a1)])) (fun t k => XS.iconst X0.here hx rfl (hb hby d2_2) k) ?_
  refine own_step (T' := s₁) (f' := (mkF m 4 #[.val (.ref a1), .val (.ref a2)] [(.ref a2), (.int (0 : Int32)), (.ref a2), (.ref a1)])) (fun t k => XS.aloadN X0.here hx rfl (hb hby d2_3) rfl rfl k) ?_
  obtain ⟨cl1, Ar1, q1, S1, M1, H1, G1⟩ := id V_a2
  refine own_step (T' := s₁) (f' := (mkF m 5 #[.val (.ref a1), .val (.ref a2)] [(.int (1 : Int32)), (.int (0 : Int32)), (.ref a2), (.ref a1)])) (fun t k => X0.arraylength hx (by rw [e0]; exact Ar1.1) (State.isArrayOf_alike hZ.alike Ar1.2.1) (g := (mkF m 4 #[.val (.ref a1), .val (.ref a2)] [(.ref a2), (.int (0 : Int32)), (.ref a2), (.ref a1)])) rfl rfl (hb hby d2_4) _ (by rw [len_of S1 M1]; exact k)) ?_
  refine own_step (T' := s₁) (f' := (mkF m 6 #[.val (.ref a1), .val (.ref a2)] [.null, (.int (1 : Int32)), (.int (0 : Int32)), (.ref a2), (.ref a1)])) (fun t k => XS.aconstNull X0.here hx rfl (hb hby d2_5) k) ?_
  obtain ⟨_, _, ⟨T2, L2, k2, n2⟩, -, X2, ⟨Lc2, hQ2, l2, y2, z2⟩, st2⟩ := X0.specialBack hx (y := (⟨"java/lang/String", "<init>", "([CIILjava/lang/Void;)V"⟩ : MethodName)) rfl hown (mvT hZ (own_w hw 15 rfl)) (mvT hZ (own_w hw 16 rfl)) (mvT hZ (own_w hw 18 rfl)) (by decide) (backOf (W := 0) (rm3_1 l Z a0 hw [] a1 a2 h0 n0 Zz E_a1 F_value_a1 F_coder_a1 g_a1 kc c0 hC0 V_a2 cs S_CS hcs n12) hZ (own_w hw 18 rfl) (own_w hw 11 rfl) (by decide) (by decide)) (g := (mkF m 6 #[.val (.ref a1), .val (.ref a2)] [.null, (.int (1 : Int32)), (.int (0 : Int32)), (.ref a2), (.ref a1)])) rfl (by rw [hml]; rfl) (Steps.refl _) (a := a1) (argsL := [(.ref a2), (.int (0 : Int32)), (.int (1 : Int32)), .null]) (rest := []) (lenOf pd_2_0 rfl) rfl (by show 2 * 0 + _ ≤ _; exact Nat.le_of_eq rfl) (hb hby d2_6) (fun _ _ => ⟨rfl, e0, (by decide : 0 + 1 ≤ _), (by decide : 0 + 1 ≤ _)⟩)
  dsimp only [Pt.U, Pt.locs, Pt.cells, Pt.slots] at X2 l2 y2 z2 st2 hQ2
  subst l2 y2 z2
  obtain ⟨rfl, N2q, K2, Ow2⟩ := hQ2
  have N2 := Fr.app N0 N2q
  refine own_step (T' := T2) (f' := (mkF m 9 #[.val (.ref a1), .val (.ref a2)] [])) (fun t k => st2.trans k) ?_
  exact own_retV X2 hx hlk Bd.returns (hb hby d2_9) (by decide) (by decide) ⟨rfl, N2, K2, Ow2⟩

theorem d12_70 : decode prog_18_method_9_code 70 = .ok (.aload_n 0, 1) := by decide +kernel
theorem d12_71 : decode prog_18_method_9_code 71 = .ok (.getfield 19, 3) := by decide +kernel
theorem d12_74 : decode prog_18_method_9_code 74 = .ok (.iload_n 1, 1) := by decide +kernel
theorem d12_75 : decode prog_18_method_9_code 75 = .ok (.iconst 1, 1) := by decide +kernel
theorem d12_76 : decode prog_18_method_9_code 76 = .ok (.iadd, 1) := by decide +kernel
theorem d12_77 : decode prog_18_method_9_code 77 = .ok (.baload, 1) := by decide +kernel
theorem d12_78 : decode prog_18_method_9_code 78 = .ok (.bipush 32, 2) := by decide +kernel
theorem d12_80 : decode prog_18_method_9_code 80 = .ok (.if_icmp .eq 29, 3) := by decide +kernel
theorem d12_83 : decode prog_18_method_9_code 83 = .ok (.aload_n 0, 1) := by decide +kernel
theorem d12_84 : decode prog_18_method_9_code 84 = .ok (.getfield 19, 3) := by decide +kernel
theorem d12_87 : decode prog_18_method_9_code 87 = .ok (.iload_n 1, 1) := by decide +kernel
theorem d12_88 : decode prog_18_method_9_code 88 = .ok (.iconst 1, 1) := by decide +kernel
theorem d12_89 : decode prog_18_method_9_code 89 = .ok (.iadd, 1) := by decide +kernel
theorem d12_90 : decode prog_18_method_9_code 90 = .ok (.baload, 1) := by decide +kernel
theorem d12_91 : decode prog_18_method_9_code 91 = .ok (.bipush 9, 2) := by decide +kernel
theorem d12_93 : decode prog_18_method_9_code 93 = .ok (.if_icmp .eq 16, 3) := by decide +kernel
theorem d12_96 : decode prog_18_method_9_code 96 = .ok (.aload_n 0, 1) := by decide +kernel
theorem d12_97 : decode prog_18_method_9_code 97 = .ok (.getfield 19, 3) := by decide +kernel
theorem d12_100 : decode prog_18_method_9_code 100 = .ok (.iload_n 1, 1) := by decide +kernel
theorem d12_101 : decode prog_18_method_9_code 101 = .ok (.iconst 1, 1) := by decide +kernel
theorem d12_102 : decode prog_18_method_9_code 102 = .ok (.iadd, 1) := by decide +kernel
theorem d12_103 : decode prog_18_method_9_code 103 = .ok (.baload, 1) := by decide +kernel
theorem d12_104 : decode prog_18_method_9_code 104 = .ok (.bipush 42, 2) := by decide +kernel
theorem d12_106 : decode prog_18_method_9_code 106 = .ok (.if_icmp .ne 7, 3) := by decide +kernel
theorem ef_rm12_2 (m : MethodId) (x0 : Addr) : entryFrame m #[(.ref x0)] 2 = mkF m 0 #[.val (.ref x0), .unset] [] := by first | (simp [entryFrame, mkF, argsToLocals, Value.category]; done) | rfl
set_option maxRecDepth 65536 in
set_option maxHeartbeats 40000000 in
theorem rm12_2 (l : Launch) (Z : State) (a0 : Array Value) (hw : ∀ d ∈ tables_1, d.before a0 Z = true) (ws : List Jvm.Cond) (a1 : Addr) (h0 : Heap) (n0 : Nat) (Z0 : n0 ≤ h0.size) (y0 y1 : Int32) (b : Addr) (kb : ClassId) (F_s : Fld Z h0 a1 "com/example/lit2/lit2/input/Line" "start" "I" (.int (0 : Int32))) (F_e : Fld Z h0 a1 "com/example/lit2/lit2/input/Line" "end" "I" (.int (2 : Int32))) (F_ch : Fld Z h0 a1 "com/example/lit2/lit2/input/Line" "characters" "[B" (.ref b)) (V_b : Arv Z h0 b kb .byte (2 : Int32) [(.int y0), (.int y1)] (.int (0 : Int32))) :
    MetFree l (⟨"com/example/lit2/lit2/input/Line", "beginsSection", "()Z"⟩ : MethodName) (head1 (Jvm.Cond.code (⟨"com/example/lit2/lit2/input/Line", "beginsSection", "()Z"⟩ : MethodName) prog_18_method_9_code 2 (some .boolean) :: ws) ({ frames := 0, cells := 0, slots := 0, locals := 0 } : Room)) (fun a U => a = #[(.ref a1)] ∧ Z.Warmed39 U.vm ∧ U.heap = h0) (fun _ _ _ _ _ => True) (fun _ U o U' => ∃ v L, o = .returned v ∧ QI (own_bs [y0, y1]) h0 n0 v U'.heap L ∧ FrameEnd U o U' L ({ frames := 0, cells := 0, slots := 0, locals := 0 } : Room).cells ({ frames := 0, cells := 0, slots := 0, locals := 0 } : Room).slots) := by
  refine MetFree.of_bodySF (plainFor_of_name pn_12) hisR ?_
  intro p e s m args below meth c s₁ Bd hml0 hP hK
  obtain ⟨rfl, hZ, hh⟩ := hP
  have hx := Bd.exec
  have hby := Bd.bytes
  have hlk : meth.locks = false := BodyLoose.notSynchronized Bd
  have hml : c.maxLocals = 2 := hml0
  have hown : s.vm.findClass "com/example/lit2/lit2/input/Line" = some m.cls := findClass_of_methodNamed Bd.named
  have hnm := (name_of_methodNamed Bd.named Bd.method).1
  have X0 : Stand p l e ({ frames := 0, cells := 0, slots := 0, locals := 0 } : Room) s m #[(.ref a1)] below meth c s₁ [] 0 0 := Stand.of_body Bd
  have e0 : s₁.heap = h0 := by rw [← hh, Bd.state]; rfl
  have N0 := Fr.nil n0
  have Zz := Z0
  have Kp : Keep h0 h0 [] := Keep.refl _ _
  show OwnEnds p e below s (QI (own_bs [y0, y1]) h0 n0) ({ frames := 0, cells := 0, slots := 0, locals := 0 } : Room).cells ({ frames := 0, cells := 0, slots := 0, locals := 0 } : Room).slots s₁ (entryFrame m #[(.ref a1)] 2)
  refine own_step (T' := s₁) (f' := (mkF m 0 #[.val (.ref a1), .unset] [])) (fun t k => castTop (ef_rm12_2 m a1) k) ?_
  refine own_step (T' := s₁) (f' := (mkF m 1 #[.val (.ref a1), .unset] [(.ref a1)])) (fun t k => XS.aloadN X0.here hx rfl (hb hby d12_0) rfl rfl k) ?_
  obtain ⟨T1, X1, e1, st1⟩ := getF X0 hx hZ hown (host := "") (Or.inl (own_w hw 83 rfl)) Via.refl e0 F_s (g := (mkF m 1 #[.val (.ref a1), .unset] [(.ref a1)])) rfl rfl (hb hby d12_1)
  refine own_step (T' := T1) (f' := (mkF m 4 #[.val (.ref a1), .unset] [(.int (0 : Int32))])) (fun t k => st1 t k) ?_
  refine own_step (T' := T1) (f' := (mkF m 5 #[.val (.ref a1), .val (.int (0 : Int32))] [])) (fun t k => XS.istoreN X1.here hx rfl (hb hby d12_4) rfl (l' := #[.val (.ref a1), .val (.int (0 : Int32))]) rfl k) ?_
  have J5_2 : ∀ (T_2 : State) (l_2 : List Loc) (X_2 : Stand p l e ({ frames := 0, cells := 0, slots := 0, locals := 0 } : Room) s m #[(.ref a1)] below meth c T_2 l_2 0 0) (e_2 : T_2.heap = h0) (N_2 : Fr n0 l_2) (hb1 : own_bs [y0, y1] = own_bs [y1]), OwnEnds p e below s (QI (own_bs [y0, y1]) h0 n0) ({ frames := 0, cells := 0, slots := 0, locals := 0 } : Room).cells ({ frames := 0, cells := 0, slots := 0, locals := 0 } : Room).slots T_2 (mkF m 5 #[.val (.ref a1), .val (.int (1 : Int32))] []) := by
    intro T_2 l_2 X_2 e_2 N_2 hb1
    have J5_3 : ∀ (T_3 : State) (l_3 : List Loc) (X_3 : Stand p l e ({ frames := 0, cells := 0, slots := 0, locals := 0 } : Room) s m #[(.ref a1)] below meth c T_3 l_3 0 0) (e_3 : T_3.heap = h0) (N_3 : Fr n0 l_3) (hb2 : own_bs [y0, y1] = own_bs []), OwnEnds p e below s (QI (own_bs [y0, y1]) h0 n0) ({ frames := 0, cells := 0, slots := 0, locals := 0 } : Room).cells ({ frames := 0, cells := 0, slots := 0, locals := 0 } : Room).slots T_3 (mkF m 5 #[.val (.ref a1), .val (.int (2 : Int32))] []) := by
      intro T_3 l_3 X_3 e_3 N_3 hb2
      refine own_step (T' := T_3) (f' := (mkF m 6 #[.val (.ref a1), .val (.int (2 : Int32))] [(.int (2 : Int32))])) (fun t k => XS.iloadN X_3.here hx rfl (hb hby d12_5) rfl k) ?_
      refine own_step (T' := T_3) (f' := (mkF m 7 #[.val (.ref a1), .val (.int (2 : Int32))] [(.ref a1), (.int (2 : Int32))])) (fun t k => XS.aloadN X_3.here hx rfl (hb hby d12_6) rfl rfl k) ?_
      obtain ⟨T4, X4, e4, st4⟩ := getF X_3 hx hZ hown (host := "") (Or.inl (own_w hw 85 rfl)) Via.refl e_3 F_e (g := (mkF m 7 #[.val (.ref a1), .val (.int (2 : Int32))] [(.ref a1), (.int (2 : Int32))])) rfl rfl (hb hby d12_7)
      refine own_step (T' := T4) (f' := (mkF m 10 #[.val (.ref a1), .val (.int (2 : Int32))] [(.int (2 : Int32)), (.int (2 : Int32))])) (fun t k => st4 t k) ?_
      refine own_step (T' := T4) (f' := (mkF m 41 #[.val (.ref a1), .val (.int (2 : Int32))] [])) (fun t k => XS.icmpYes X4.here hx rfl (pc0 := 10) (pc' := 41) rfl (hb hby d12_10) rfl (flt (by decide : ¬ ((2 : Int32) < (2 : Int32)))).2.1 (by decide) (by decide) k) ?_
      refine own_step (T' := T4) (f' := (mkF m 42 #[.val (.ref a1), .val (.int (2 : Int32))] [(.int (2 : Int32))])) (fun t k => XS.iloadN X4.here hx rfl (hb hby d12_41) rfl k) ?_
      refine own_step (T' := T4) (f' := (mkF m 43 #[.val (.ref a1), .val (.int (2 : Int32))] [(.ref a1), (.int (2 : Int32))])) (fun t k => XS.aloadN X4.here hx rfl (hb hby d12_42) rfl rfl k) ?_
      obtain ⟨T5, X5, e5, st5⟩ := getF X4 hx hZ hown (host := "") (Or.inl (own_w hw 85 rfl)) Via.refl e4 F_e (g := (mkF m 43 #[.val (.ref a1), .val (.int (2 : Int32))] [(.ref a1), (.int (2 : Int32))])) rfl rfl (hb hby d12_43)
      refine own_step (T' := T5) (f' := (mkF m 46 #[.val (.ref a1), .val (.int (2 : Int32))] [(.int (2 : Int32)), (.int (2 : Int32))])) (fun t k => st5 t k) ?_
      refine own_step (T' := T5) (f' := (mkF m 113 #[.val (.ref a1), .val (.int (2 : Int32))] [])) (fun t k => XS.icmpYes X5.here hx rfl (pc0 := 46) (pc' := 113) rfl (hb hby d12_46) rfl (flt (by decide : ¬ ((2 : Int32) < (2 : Int32)))).2.1 (by decide) (by decide) k) ?_
      refine own_step (T' := T5) (f' := (mkF m 114 #[.val (.ref a1), .val (.int (2 : Int32))] [(.int (0 : Int32))])) (fun t k => XS.iconst X5.here hx rfl (hb hby d12_113) k) ?_
      exact own_retN X5 hx hlk (t := .boolean) Bd.returns (by simp) (hb hby d12_114) (by decide) (by decide) ⟨by rw [show own_bs [y0, y1] = (0 : Int32) from hb2]; rfl, N_3, e5⟩
    refine own_step (T' := T_2) (f' := (mkF m 6 #[.val (.ref a1), .val (.int (1 : Int32))] [(.int (1 : Int32))])) (fun t k => XS.iloadN X_2.here hx rfl (hb hby d12_5) rfl k) ?_
    refine own_step (T' := T_2) (f' := (mkF m 7 #[.val (.ref a1), .val (.int (1 : Int32))] [(.ref a1), (.int (1 : Int32))])) (fun t k => XS.aloadN X_2.here hx rfl (hb hby d12_6) rfl rfl k) ?_
    obtain ⟨T6, X6, e6, st6⟩ := getF X_2 hx hZ hown (host := "") (Or.inl (own_w hw 85 rfl)) Via.refl e_2 F_e (g := (mkF m 7 #[.val (.ref a1), .val (.int (1 : Int32))] [(.ref a1), (.int (1 : Int32))])) rfl rfl (hb hby d12_7)
    refine own_step (T' := T6) (f' := (mkF m 10 #[.val (.ref a1), .val (.int (1 : Int32))] [(.int (2 : Int32)), (.int (1 : Int32))])) (fun t k => st6 t k) ?_
    refine own_step (T' := T6) (f' := (mkF m 13 #[.val (.ref a1), .val (.int (1 : Int32))] [])) (fun t k => XS.icmpNo X6.here hx rfl (hb hby d12_10) rfl (tlt (by decide : (1 : Int32) < (2 : Int32))).2.1 k) ?_
    refine own_step (T' := T6) (f' := (mkF m 14 #[.val (.ref a1), .val (.int (1 : Int32))] [(.ref a1)])) (fun t k => XS.aloadN X6.here hx rfl (hb hby d12_13) rfl rfl k) ?_
    obtain ⟨T7, X7, e7, st7⟩ := getF X6 hx hZ hown (host := "") (Or.inl (own_w hw 81 rfl)) Via.refl e6 F_ch (g := (mkF m 14 #[.val (.ref a1), .val (.int (1 : Int32))] [(.ref a1)])) rfl rfl (hb hby d12_14)
    refine own_step (T' := T7) (f' := (mkF m 17 #[.val (.ref a1), .val (.int (1 : Int32))] [(.ref b)])) (fun t k => st7 t k) ?_
    refine own_step (T' := T7) (f' := (mkF m 18 #[.val (.ref a1), .val (.int (1 : Int32))] [(.int (1 : Int32)), (.ref b)])) (fun t k => XS.iloadN X7.here hx rfl (hb hby d12_17) rfl k) ?_
    obtain ⟨cl8, Ar8, q8, S8, M8, H8, G8⟩ := id V_b
    have hin8 : ¬ ((1 : Int32) < 0 ∨ cl8.slots.size ≤ ((1 : Int32)).toNatClampNeg) := inb_of S8 ⟨by decide, by decide⟩
    have hat8 : cl8.slots[((1 : Int32)).toNatClampNeg]? = some (.int y1) := own_at hin8 H8 1 rfl rfl
    refine own_step (T' := T7) (f' := (mkF m 19 #[.val (.ref a1), .val (.int (1 : Int32))] [(.int y1)])) (fun t k => X7.baloadBytes hx (j := (1 : Int32)) (v := (.int y1)) (by rw [e7]; exact Ar8.1) (State.isArrayOf_alike hZ.alike Ar8.2.1) Ar8.2.2 hin8 hat8 (g := (mkF m 18 #[.val (.ref a1), .val (.int (1 : Int32))] [(.int (1 : Int32)), (.ref b)])) rfl rfl (hb hby d12_18) _ k) ?_
    refine own_step (T' := T7) (f' := (mkF m 21 #[.val (.ref a1), .val (.int (1 : Int32))] [(.int (32 : Int32)), (.int y1)])) (fun t k => XS.bipush X7.here hx rfl (hb hby d12_19) k) ?_
    by_cases hc21_9 : y1 = (32 : Int32)
    · skip
      refine own_step (T' := T7) (f' := (mkF m 35 #[.val (.ref a1), .val (.int (1 : Int32))] [])) (fun t k => XS.icmpYes X7.here hx rfl (pc0 := 21) (pc' := 35) rfl (hb hby d12_21) rfl (teq hc21_9).1 (by decide) (by decide) k) ?_
      refine own_step (T' := T7) (f' := (mkF m 38 #[.val (.ref a1), .val (.int (2 : Int32))] [])) (fun t k => XS.iinc X7.here hx rfl (hb hby d12_35) rfl (l' := #[.val (.ref a1), .val (.int (2 : Int32))]) rfl k) ?_
      refine own_step (T' := T7) (f' := (mkF m 5 #[.val (.ref a1), .val (.int (2 : Int32))] [])) (fun t k => XS.goto X7.here hx rfl (pc0 := 38) (pc' := 5) rfl (hb hby d12_38) (by decide) (by decide) k) ?_
      exact J5_3 T7 _ X7 e7 N_2 (hb1.trans (own_bs32 hc21_9))
    · skip
      refine own_step (T' := T7) (f' := (mkF m 24 #[.val (.ref a1), .val (.int (1 : Int32))] [])) (fun t k => XS.icmpNo X7.here hx rfl (hb hby d12_21) rfl (feq hc21_9).1 k) ?_
      refine own_step (T' := T7) (f' := (mkF m 25 #[.val (.ref a1), .val (.int (1 : Int32))] [(.ref a1)])) (fun t k => XS.aloadN X7.here hx rfl (hb hby d12_24) rfl rfl k) ?_
      obtain ⟨T10, X10, e10, st10⟩ := getF X7 hx hZ hown (host := "") (Or.inl (own_w hw 81 rfl)) Via.refl e7 F_ch (g := (mkF m 25 #[.val (.ref a1), .val (.int (1 : Int32))] [(.ref a1)])) rfl rfl (hb hby d12_25)
      refine own_step (T' := T10) (f' := (mkF m 28 #[.val (.ref a1), .val (.int (1 : Int32))] [(.ref b)])) (fun t k => st10 t k) ?_
      refine own_step (T' := T10) (f' := (mkF m 29 #[.val (.ref a1), .val (.int (1 : Int32))] [(.int (1 : Int32)), (.ref b)])) (fun t k => XS.iloadN X10.here hx rfl (hb hby d12_28) rfl k) ?_
      obtain ⟨cl11, Ar11, q11, S11, M11, H11, G11⟩ := id V_b
      have hin11 : ¬ ((1 : Int32) < 0 ∨ cl11.slots.size ≤ ((1 : Int32)).toNatClampNeg) := inb_of S11 ⟨by decide, by decide⟩
      have hat11 : cl11.slots[((1 : Int32)).toNatClampNeg]? = some (.int y1) := own_at hin11 H11 1 rfl rfl
      refine own_step (T' := T10) (f' := (mkF m 30 #[.val (.ref a1), .val (.int (1 : Int32))] [(.int y1)])) (fun t k => X10.baloadBytes hx (j := (1 : Int32)) (v := (.int y1)) (by rw [e10]; exact Ar11.1) (State.isArrayOf_alike hZ.alike Ar11.2.1) Ar11.2.2 hin11 hat11 (g := (mkF m 29 #[.val (.ref a1), .val (.int (1 : Int32))] [(.int (1 : Int32)), (.ref b)])) rfl rfl (hb hby d12_29) _ k) ?_
      refine own_step (T' := T10) (f' := (mkF m 32 #[.val (.ref a1), .val (.int (1 : Int32))] [(.int (9 : Int32)), (.int y1)])) (fun t k => XS.bipush X10.here hx rfl (hb hby d12_30) k) ?_
      by_cases hc32_12 : y1 = (9 : Int32)
      · skip
        refine own_step (T' := T10) (f' := (mkF m 35 #[.val (.ref a1), .val (.int (1 : Int32))] [])) (fun t k => XS.icmpNo X10.here hx rfl (hb hby d12_32) rfl (teq hc32_12).2 k) ?_
        refine own_step (T' := T10) (f' := (mkF m 38 #[.val (.ref a1), .val (.int (2 : Int32))] [])) (fun t k => XS.iinc X10.here hx rfl (hb hby d12_35) rfl (l' := #[.val (.ref a1), .val (.int (2 : Int32))]) rfl k) ?_
        refine own_step (T' := T10) (f' := (mkF m 5 #[.val (.ref a1), .val (.int (2 : Int32))] [])) (fun t k => XS.goto X10.here hx rfl (pc0 := 38) (pc' := 5) rfl (hb hby d12_38) (by decide) (by decide) k) ?_
        exact J5_3 T10 _ X10 e10 N_2 (hb1.trans (own_bs9 hc32_12))
      · skip
        refine own_step (T' := T10) (f' := (mkF m 41 #[.val (.ref a1), .val (.int (1 : Int32))] [])) (fun t k => XS.icmpYes X10.here hx rfl (pc0 := 32) (pc' := 41) rfl (hb hby d12_32) rfl (feq hc32_12).2 (by decide) (by decide) k) ?_
        refine own_step (T' := T10) (f' := (mkF m 42 #[.val (.ref a1), .val (.int (1 : Int32))] [(.int (1 : Int32))])) (fun t k => XS.iloadN X10.here hx rfl (hb hby d12_41) rfl k) ?_
        refine own_step (T' := T10) (f' := (mkF m 43 #[.val (.ref a1), .val (.int (1 : Int32))] [(.ref a1), (.int (1 : Int32))])) (fun t k => XS.aloadN X10.here hx rfl (hb hby d12_42) rfl rfl k) ?_
        obtain ⟨T13, X13, e13, st13⟩ := getF X10 hx hZ hown (host := "") (Or.inl (own_w hw 85 rfl)) Via.refl e10 F_e (g := (mkF m 43 #[.val (.ref a1), .val (.int (1 : Int32))] [(.ref a1), (.int (1 : Int32))])) rfl rfl (hb hby d12_43)
        refine own_step (T' := T13) (f' := (mkF m 46 #[.val (.ref a1), .val (.int (1 : Int32))] [(.int (2 : Int32)), (.int (1 : Int32))])) (fun t k => st13 t k) ?_
        refine own_step (T' := T13) (f' := (mkF m 49 #[.val (.ref a1), .val (.int (1 : Int32))] [])) (fun t k => XS.icmpNo X13.here hx rfl (hb hby d12_46) rfl (tlt (by decide : (1 : Int32) < (2 : Int32))).2.1 k) ?_
        refine own_step (T' := T13) (f' := (mkF m 50 #[.val (.ref a1), .val (.int (1 : Int32))] [(.ref a1)])) (fun t k => XS.aloadN X13.here hx rfl (hb hby d12_49) rfl rfl k) ?_
        obtain ⟨T14, X14, e14, st14⟩ := getF X13 hx hZ hown (host := "") (Or.inl (own_w hw 81 rfl)) Via.refl e13 F_ch (g := (mkF m 50 #[.val (.ref a1), .val (.int (1 : Int32))] [(.ref a1)])) rfl rfl (hb hby d12_50)
        refine own_step (T' := T14) (f' := (mkF m 53 #[.val (.ref a1), .val (.int (1 : Int32))] [(.ref b)])) (fun t k => st14 t k) ?_
        refine own_step (T' := T14) (f' := (mkF m 54 #[.val (.ref a1), .val (.int (1 : Int32))] [(.int (1 : Int32)), (.ref b)])) (fun t k => XS.iloadN X14.here hx rfl (hb hby d12_53) rfl k) ?_
        obtain ⟨cl15, Ar15, q15, S15, M15, H15, G15⟩ := id V_b
        have hin15 : ¬ ((1 : Int32) < 0 ∨ cl15.slots.size ≤ ((1 : Int32)).toNatClampNeg) := inb_of S15 ⟨by decide, by decide⟩
        have hat15 : cl15.slots[((1 : Int32)).toNatClampNeg]? = some (.int y1) := own_at hin15 H15 1 rfl rfl
        refine own_step (T' := T14) (f' := (mkF m 55 #[.val (.ref a1), .val (.int (1 : Int32))] [(.int y1)])) (fun t k => X14.baloadBytes hx (j := (1 : Int32)) (v := (.int y1)) (by rw [e14]; exact Ar15.1) (State.isArrayOf_alike hZ.alike Ar15.2.1) Ar15.2.2 hin15 hat15 (g := (mkF m 54 #[.val (.ref a1), .val (.int (1 : Int32))] [(.int (1 : Int32)), (.ref b)])) rfl rfl (hb hby d12_54) _ k) ?_
        refine own_step (T' := T14) (f' := (mkF m 57 #[.val (.ref a1), .val (.int (1 : Int32))] [(.int (64 : Int32)), (.int y1)])) (fun t k => XS.bipush X14.here hx rfl (hb hby d12_55) k) ?_
        by_cases hc57_16 : y1 = (64 : Int32)
        · skip
          refine own_step (T' := T14) (f' := (mkF m 60 #[.val (.ref a1), .val (.int (1 : Int32))] [])) (fun t k => XS.icmpNo X14.here hx rfl (hb hby d12_57) rfl (teq hc57_16).2 k) ?_
          refine own_step (T' := T14) (f' := (mkF m 61 #[.val (.ref a1), .val (.int (1 : Int32))] [(.int (1 : Int32))])) (fun t k => XS.iloadN X14.here hx rfl (hb hby d12_60) rfl k) ?_
          refine own_step (T' := T14) (f' := (mkF m 62 #[.val (.ref a1), .val (.int (1 : Int32))] [(.int (1 : Int32)), (.int (1 : Int32))])) (fun t k => XS.iconst X14.here hx rfl (hb hby d12_61) k) ?_
          refine own_step (T' := T14) (f' := (mkF m 63 #[.val (.ref a1), .val (.int (1 : Int32))] [(.int (2 : Int32))])) (fun t k => XS.iadd X14.here hx rfl (hb hby d12_62) rfl k) ?_
          refine own_step (T' := T14) (f' := (mkF m 64 #[.val (.ref a1), .val (.int (1 : Int32))] [(.ref a1), (.int (2 : Int32))])) (fun t k => XS.aloadN X14.here hx rfl (hb hby d12_63) rfl rfl k) ?_
          obtain ⟨T17, X17, e17, st17⟩ := getF X14 hx hZ hown (host := "") (Or.inl (own_w hw 85 rfl)) Via.refl e14 F_e (g := (mkF m 64 #[.val (.ref a1), .val (.int (1 : Int32))] [(.ref a1), (.int (2 : Int32))])) rfl rfl (hb hby d12_64)
          refine own_step (T' := T17) (f' := (mkF m 67 #[.val (.ref a1), .val (.int (1 : Int32))] [(.int (2 : Int32)), (.int (2 : Int32))])) (fun t k => st17 t k) ?_
          refine own_step (T' := T17) (f' := (mkF m 109 #[.val (.ref a1), .val (.int (1 : Int32))] [])) (fun t k => XS.icmpYes X17.here hx rfl (pc0 := 67) (pc' := 109) rfl (hb hby d12_67) rfl (teq (by decide : (2 : Int32) = (2 : Int32))).1 (by decide) (by decide) k) ?_
          refine own_step (T' := T17) (f' := (mkF m 110 #[.val (.ref a1), .val (.int (1 : Int32))] [(.int (1 : Int32))])) (fun t k => XS.iconst X17.here hx rfl (hb hby d12_109) k) ?_
          refine own_step (T' := T17) (f' := (mkF m 114 #[.val (.ref a1), .val (.int (1 : Int32))] [(.int (1 : Int32))])) (fun t k => XS.goto X17.here hx rfl (pc0 := 110) (pc' := 114) rfl (hb hby d12_110) (by decide) (by decide) k) ?_
          exact own_retN X17 hx hlk (t := .boolean) Bd.returns (by simp) (hb hby d12_114) (by decide) (by decide) ⟨by rw [show own_bs [y0, y1] = (1 : Int32) from (hb1.trans (own_bs64 hc57_16))]; rfl, N_2, e17⟩
        · skip
          refine own_step (T' := T14) (f' := (mkF m 113 #[.val (.ref a1), .val (.int (1 : Int32))] [])) (fun t k => XS.icmpYes X14.here hx rfl (pc0 := 57) (pc' := 113) rfl (hb hby d12_57) rfl (feq hc57_16).2 (by decide) (by decide) k) ?_
          refine own_step (T' := T14) (f' := (mkF m 114 #[.val (.ref a1), .val (.int (1 : Int32))] [(.int (0 : Int32))])) (fun t k => XS.iconst X14.here hx rfl (hb hby d12_113) k) ?_
          exact own_retN X14 hx hlk (t := .boolean) Bd.returns (by simp) (hb hby d12_114) (by decide) (by decide) ⟨by rw [show own_bs [y0, y1] = (0 : Int32) from (hb1.trans (own_bsN hc21_9 hc32_12 hc57_16))]; rfl, N_2, e14⟩
  refine own_step (T' := T1) (f' := (mkF m 6 #[.val (.ref a1), .val (.int (0 : Int32))] [(.int (0 : Int32))])) (fun t k => XS.iloadN X1.here hx rfl (hb hby d12_5) rfl k) ?_
  refine own_step (T' := T1) (f' := (mkF m 7 #[.val (.ref a1), .val (.int (0 : Int32))] [(.ref a1), (.int (0 : Int32))])) (fun t k => XS.aloadN X1.here hx rfl (hb hby d12_6) rfl rfl k) ?_
  obtain ⟨T18, X18, e18, st18⟩ := getF X1 hx hZ hown (host := "") (Or.inl (own_w hw 85 rfl)) Via.refl e1 F_e (g := (mkF m 7 #[.val (.ref a1), .val (.int (0 : Int32))] [(.ref a1), (.int (0 : Int32))])) rfl rfl (hb hby d12_7)
  refine own_step (T' := T18) (f' := (mkF m 10 #[.val (.ref a1), .val (.int (0 : Int32))] [(.int (2 : Int32)), (.int (0 : Int32))])) (fun t k => st18 t k) ?_
  refine own_step (T' := T18) (f' := (mkF m 13 #[.val (.ref a1), .val (.int (0 : Int32))] [])) (fun t k => XS.icmpNo X18.here hx rfl (hb hby d12_10) rfl (tlt (by decide : (0 : Int32) < (2 : Int32))).2.1 k) ?_
  refine own_step (T' := T18) (f' := (mkF m 14 #[.val (.ref a1), .val (.int (0 : Int32))] [(.ref a1)])) (fun t k => XS.aloadN X18.here hx rfl (hb hby d12_13) rfl rfl k) ?_
  obtain ⟨T19, X19, e19, st19⟩ := getF X18 hx hZ hown (host := "") (Or.inl (own_w hw 81 rfl)) Via.refl e18 F_ch (g := (mkF m 14 #[.val (.ref a1), .val (.int (0 : Int32))] [(.ref a1)])) rfl rfl (hb hby d12_14)
  refine own_step (T' := T19) (f' := (mkF m 17 #[.val (.ref a1), .val (.int (0 : Int32))] [(.ref b)])) (fun t k => st19 t k) ?_
  refine own_step (T' := T19) (f' := (mkF m 18 #[.val (.ref a1), .val (.int (0 : Int32))] [(.int (0 : Int32)), (.ref b)])) (fun t k => XS.iloadN X19.here hx rfl (hb hby d12_17) rfl k) ?_
  obtain ⟨cl20, Ar20, q20, S20, M20, H20, G20⟩ := id V_b
  have hin20 : ¬ ((0 : Int32) < 0 ∨ cl20.slots.size ≤ ((0 : Int32)).toNatClampNeg) := inb_of S20 ⟨by decide, by decide⟩
  have hat20 : cl20.slots[((0 : Int32)).toNatClampNeg]? = some (.int y0) := own_at hin20 H20 0 rfl rfl
  refine own_step (T' := T19) (f' := (mkF m 19 #[.val (.ref a1), .val (.int (0 : Int32))] [(.int y0)])) (fun t k => X19.baloadBytes hx (j := (0 : Int32)) (v := (.int y0)) (by rw [e19]; exact Ar20.1) (State.isArrayOf_alike hZ.alike Ar20.2.1) Ar20.2.2 hin20 hat20 (g := (mkF m 18 #[.val (.ref a1), .val (.int (0 : Int32))] [(.int (0 : Int32)), (.ref b)])) rfl rfl (hb hby d12_18) _ k) ?_
  refine own_step (T' := T19) (f' := (mkF m 21 #[.val (.ref a1), .val (.int (0 : Int32))] [(.int (32 : Int32)), (.int y0)])) (fun t k => XS.bipush X19.here hx rfl (hb hby d12_19) k) ?_
  by_cases hc21_21 : y0 = (32 : Int32)
  · skip
    refine own_step (T' := T19) (f' := (mkF m 35 #[.val (.ref a1), .val (.int (0 : Int32))] [])) (fun t k => XS.icmpYes X19.here hx rfl (pc0 := 21) (pc' := 35) rfl (hb hby d12_21) rfl (teq hc21_21).1 (by decide) (by decide) k) ?_
    refine own_step (T' := T19) (f' := (mkF m 38 #[.val (.ref a1), .val (.int (1 : Int32))] [])) (fun t k => XS.iinc X19.here hx rfl (hb hby d12_35) rfl (l' := #[.val (.ref a1), .val (.int (1 : Int32))]) rfl k) ?_
    refine own_step (T' := T19) (f' := (mkF m 5 #[.val (.ref a1), .val (.int (1 : Int32))] [])) (fun t k => XS.goto X19.here hx rfl (pc0 := 38) (pc' := 5) rfl (hb hby d12_38) (by decide) (by decide) k) ?_
    exact J5_2 T19 _ X19 e19 N0 (own_bs32 hc21_21)
  · skip
    refine own_step (T' := T19) (f' := (mkF m 24 #[.val (.ref a1), .val (.int (0 : Int32))] [])) (fun t k => XS.icmpNo X19.here hx rfl (hb hby d12_21) rfl (feq hc21_21).1 k) ?_
    refine own_step (T' := T19) (f' := (mkF m 25 #[.val (.ref a1), .val (.int (0 : Int32))] [(.ref a1)])) (fun t k => XS.aloadN X19.here hx rfl (hb hby d12_24) rfl rfl k) ?_
    obtain ⟨T22, X22, e22, st22⟩ := getF X19 hx hZ hown (host := "") (Or.inl (own_w hw 81 rfl)) Via.refl e19 F_ch (g := (mkF m 25 #[.val (.ref a1), .val (.int (0 : Int32))] [(.ref a1)])) rfl rfl (hb hby d12_25)
    refine own_step (T' := T22) (f' := (mkF m 28 #[.val (.ref a1), .val (.int (0 : Int32))] [(.ref b)])) (fun t k => st22 t k) ?_
    refine own_step (T' := T22) (f' := (mkF m 29 #[.val (.ref a1), .val (.int (0 : Int32))] [(.int (0 : Int32)), (.ref b)])) (fun t k => XS.iloadN X22.here hx rfl (hb hby d12_28) rfl k) ?_
    obtain ⟨cl23, Ar23, q23, S23, M23, H23, G23⟩ := id V_b
    have hin23 : ¬ ((0 : Int32) < 0 ∨ cl23.slots.size ≤ ((0 : Int32)).toNatClampNeg) := inb_of S23 ⟨by decide, by decide⟩
    have hat23 : cl23.slots[((0 : Int32)).toNatClampNeg]? = some (.int y0) := own_at hin23 H23 0 rfl rfl
    refine own_step (T' := T22) (f' := (mkF m 30 #[.val (.ref a1), .val (.int (0 : Int32))] [(.int y0)])) (fun t k => X22.baloadBytes hx (j := (0 : Int32)) (v := (.int y0)) (by rw [e22]; exact Ar23.1) (State.isArrayOf_alike hZ.alike Ar23.2.1) Ar23.2.2 hin23 hat23 (g := (mkF m 29 #[.val (.ref a1), .val (.int (0 : Int32))] [(.int (0 : Int32)), (.ref b)])) rfl rfl (hb hby d12_29) _ k) ?_
    refine own_step (T' := T22) (f' := (mkF m 32 #[.val (.ref a1), .val (.int (0 : Int32))] [(.int (9 : Int32)), (.int y0)])) (fun t k => XS.bipush X22.here hx rfl (hb hby d12_30) k) ?_
    by_cases hc32_24 : y0 = (9 : Int32)
    · skip
      refine own_step (T' := T22) (f' := (mkF m 35 #[.val (.ref a1), .val (.int (0 : Int32))] [])) (fun t k => XS.icmpNo X22.here hx rfl (hb hby d12_32) rfl (teq hc32_24).2 k) ?_
      refine own_step (T' := T22) (f' := (mkF m 38 #[.val (.ref a1), .val (.int (1 : Int32))] [])) (fun t k => XS.iinc X22.here hx rfl (hb hby d12_35) rfl (l' := #[.val (.ref a1), .val (.int (1 : Int32))]) rfl k) ?_
      refine own_step (T' := T22) (f' := (mkF m 5 #[.val (.ref a1), .val (.int (1 : Int32))] [])) (fun t k => XS.goto X22.here hx rfl (pc0 := 38) (pc' := 5) rfl (hb hby d12_38) (by decide) (by decide) k) ?_
      exact J5_2 T22 _ X22 e22 N0 (own_bs9 hc32_24)
    · skip
      refine own_step (T' := T22) (f' := (mkF m 41 #[.val (.ref a1), .val (.int (0 : Int32))] [])) (fun t k => XS.icmpYes X22.here hx rfl (pc0 := 32) (pc' := 41) rfl (hb hby d12_32) rfl (feq hc32_24).2 (by decide) (by decide) k) ?_
      refine own_step (T' := T22) (f' := (mkF m 42 #[.val (.ref a1), .val (.int (0 : Int32))] [(.int (0 : Int32))])) (fun t k => XS.iloadN X22.here hx rfl (hb hby d12_41) rfl k) ?_
      refine own_step (T' := T22) (f' := (mkF m 43 #[.val (.ref a1), .val (.int (0 : Int32))] [(.ref a1), (.int (0 : Int32))])) (fun t k => XS.aloadN X22.here hx rfl (hb hby d12_42) rfl rfl k) ?_
      obtain ⟨T25, X25, e25, st25⟩ := getF X22 hx hZ hown (host := "") (Or.inl (own_w hw 85 rfl)) Via.refl e22 F_e (g := (mkF m 43 #[.val (.ref a1), .val (.int (0 : Int32))] [(.ref a1), (.int (0 : Int32))])) rfl rfl (hb hby d12_43)
      refine own_step (T' := T25) (f' := (mkF m 46 #[.val (.ref a1), .val (.int (0 : Int32))] [(.int (2 : Int32)), (.int (0 : Int32))])) (fun t k => st25 t k) ?_
      refine own_step (T' := T25) (f' := (mkF m 49 #[.val (.ref a1), .val (.int (0 : Int32))] [])) (fun t k => XS.icmpNo X25.here hx rfl (hb hby d12_46) rfl (tlt (by decide : (0 : Int32) < (2 : Int32))).2.1 k) ?_
      refine own_step (T' := T25) (f' := (mkF m 50 #[.val (.ref a1), .val (.int (0 : Int32))] [(.ref a1)])) (fun t k => XS.aloadN X25.here hx rfl (hb hby d12_49) rfl rfl k) ?_
      obtain ⟨T26, X26, e26, st26⟩ := getF X25 hx hZ hown (host := "") (Or.inl (own_w hw 81 rfl)) Via.refl e25 F_ch (g := (mkF m 50 #[.val (.ref a1), .val (.int (0 : Int32))] [(.ref a1)])) rfl rfl (hb hby d12_50)
      refine own_step (T' := T26) (f' := (mkF m 53 #[.val (.ref a1), .val (.int (0 : Int32))] [(.ref b)])) (fun t k => st26 t k) ?_
      refine own_step (T' := T26) (f' := (mkF m 54 #[.val (.ref a1), .val (.int (0 : Int32))] [(.int (0 : Int32)), (.ref b)])) (fun t k => XS.iloadN X26.here hx rfl (hb hby d12_53) rfl k) ?_
      obtain ⟨cl27, Ar27, q27, S27, M27, H27, G27⟩ := id V_b
      have hin27 : ¬ ((0 : Int32) < 0 ∨ cl27.slots.size ≤ ((0 : Int32)).toNatClampNeg) := inb_of S27 ⟨by decide, by decide⟩
      have hat27 : cl27.slots[((0 : Int32)).toNatClampNeg]? = some (.int y0) := own_at hin27 H27 0 rfl rfl
      refine own_step (T' := T26) (f' := (mkF m 55 #[.val (.ref a1), .val (.int (0 : Int32))] [(.int y0)])) (fun t k => X26.baloadBytes hx (j := (0 : Int32)) (v := (.int y0)) (by rw [e26]; exact Ar27.1) (State.isArrayOf_alike hZ.alike Ar27.2.1) Ar27.2.2 hin27 hat27 (g := (mkF m 54 #[.val (.ref a1), .val (.int (0 : Int32))] [(.int (0 : Int32)), (.ref b)])) rfl rfl (hb hby d12_54) _ k) ?_
      refine own_step (T' := T26) (f' := (mkF m 57 #[.val (.ref a1), .val (.int (0 : Int32))] [(.int (64 : Int32)), (.int y0)])) (fun t k => XS.bipush X26.here hx rfl (hb hby d12_55) k) ?_
      by_cases hc57_28 : y0 = (64 : Int32)
      · skip
        refine own_step (T' := T26) (f' := (mkF m 60 #[.val (.ref a1), .val (.int (0 : Int32))] [])) (fun t k => XS.icmpNo X26.here hx rfl (hb hby d12_57) rfl (teq hc57_28).2 k) ?_
        refine own_step (T' := T26) (f' := (mkF m 61 #[.val (.ref a1), .val (.int (0 : Int32))] [(.int (0 : Int32))])) (fun t k => XS.iloadN X26.here hx rfl (hb hby d12_60) rfl k) ?_
        refine own_step (T' := T26) (f' := (mkF m 62 #[.val (.ref a1), .val (.int (0 : Int32))] [(.int (1 : Int32)), (.int (0 : Int32))])) (fun t k => XS.iconst X26.here hx rfl (hb hby d12_61) k) ?_
        refine own_step (T' := T26) (f' := (mkF m 63 #[.val (.ref a1), .val (.int (0 : Int32))] [(.int (1 : Int32))])) (fun t k => XS.iadd X26.here hx rfl (hb hby d12_62) rfl k) ?_
        refine own_step (T' := T26) (f' := (mkF m 64 #[.val (.ref a1), .val (.int (0 : Int32))] [(.ref a1), (.int (1 : Int32))])) (fun t k => XS.aloadN X26.here hx rfl (hb hby d12_63) rfl rfl k) ?_
        obtain ⟨T29, X29, e29, st29⟩ := getF X26 hx hZ hown (host := "") (Or.inl (own_w hw 85 rfl)) Via.refl e26 F_e (g := (mkF m 64 #[.val (.ref a1), .val (.int (0 : Int32))] [(.ref a1), (.int (1 : Int32))])) rfl rfl (hb hby d12_64)
        refine own_step (T' := T29) (f' := (mkF m 67 #[.val (.ref a1), .val (.int (0 : Int32))] [(.int (2 : Int32)), (.int (1 : Int32))])) (fun t k => st29 t k) ?_
        refine own_step (T' := T29) (f' := (mkF m 70 #[.val (.ref a1), .val (.int (0 : Int32))] [])) (fun t k => XS.icmpNo X29.here hx rfl (hb hby d12_67) rfl (feq (by decide : ¬ ((1 : Int32) = (2 : Int32)))).1 k) ?_
        refine own_step (T' := T29) (f' := (mkF m 71 #[.val (.ref a1), .val (.int (0 : Int32))] [(.ref a1)])) (fun t k => XS.aloadN X29.here hx rfl (hb hby d12_70) rfl rfl k) ?_
        obtain ⟨T30, X30, e30, st30⟩ := getF X29 hx hZ hown (host := "") (Or.inl (own_w hw 81 rfl)) Via.refl e29 F_ch (g := (mkF m 71 #[.val (.ref a1), .val (.int (0 : Int32))] [(.ref a1)])) rfl rfl (hb hby d12_71)
        refine own_step (T' := T30) (f' := (mkF m 74 #[.val (.ref a1), .val (.int (0 : Int32))] [(.ref b)])) (fun t k => st30 t k) ?_
        refine own_step (T' := T30) (f' := (mkF m 75 #[.val (.ref a1), .val (.int (0 : Int32))] [(.int (0 : Int32)), (.ref b)])) (fun t k => XS.iloadN X30.here hx rfl (hb hby d12_74) rfl k) ?_
        refine own_step (T' := T30) (f' := (mkF m 76 #[.val (.ref a1), .val (.int (0 : Int32))] [(.int (1 : Int32)), (.int (0 : Int32)), (.ref b)])) (fun t k => XS.iconst X30.here hx rfl (hb hby d12_75) k) ?_
        refine own_step (T' := T30) (f' := (mkF m 77 #[.val (.ref a1), .val (.int (0 : Int32))] [(.int (1 : Int32)), (.ref b)])) (fun t k => XS.iadd X30.here hx rfl (hb hby d12_76) rfl k) ?_
        obtain ⟨cl31, Ar31, q31, S31, M31, H31, G31⟩ := id V_b
        have hin31 : ¬ ((1 : Int32) < 0 ∨ cl31.slots.size ≤ ((1 : Int32)).toNatClampNeg) := inb_of S31 ⟨by decide, by decide⟩
        have hat31 : cl31.slots[((1 : Int32)).toNatClampNeg]? = some (.int y1) := own_at hin31 H31 1 rfl rfl
        refine own_step (T' := T30) (f' := (mkF m 78 #[.val (.ref a1), .val (.int (0 : Int32))] [(.int y1)])) (fun t k => X30.baloadBytes hx (j := (1 : Int32)) (v := (.int y1)) (by rw [e30]; exact Ar31.1) (State.isArrayOf_alike hZ.alike Ar31.2.1) Ar31.2.2 hin31 hat31 (g := (mkF m 77 #[.val (.ref a1), .val (.int (0 : Int32))] [(.int (1 : Int32)), (.ref b)])) rfl rfl (hb hby d12_77) _ k) ?_
        refine own_step (T' := T30) (f' := (mkF m 80 #[.val (.ref a1), .val (.int (0 : Int32))] [(.int (32 : Int32)), (.int y1)])) (fun t k => XS.bipush X30.here hx rfl (hb hby d12_78) k) ?_
        by_cases hc80_32 : y1 = (32 : Int32)
        · skip
          refine own_step (T' := T30) (f' := (mkF m 109 #[.val (.ref a1), .val (.int (0 : Int32))] [])) (fun t k => XS.icmpYes X30.here hx rfl (pc0 := 80) (pc' := 109) rfl (hb hby d12_80) rfl (teq hc80_32).1 (by decide) (by decide) k) ?_
          refine own_step (T' := T30) (f' := (mkF m 110 #[.val (.ref a1), .val (.int (0 : Int32))] [(.int (1 : Int32))])) (fun t k => XS.iconst X30.here hx rfl (hb hby d12_109) k) ?_
          refine own_step (T' := T30) (f' := (mkF m 114 #[.val (.ref a1), .val (.int (0 : Int32))] [(.int (1 : Int32))])) (fun t k => XS.goto X30.here hx rfl (pc0 := 110) (pc' := 114) rfl (hb hby d12_110) (by decide) (by decide) k) ?_
          exact own_retN X30 hx hlk (t := .boolean) Bd.returns (by simp) (hb hby d12_114) (by decide) (by decide) ⟨by rw [show own_bs [y0, y1] = (1 : Int32) from ((own_bs64 hc57_28).trans (own_nx32 hc80_32))]; rfl, N0, e30⟩
        · skip
          refine own_step (T' := T30) (f' := (mkF m 83 #[.val (.ref a1), .val (.int (0 : Int32))] [])) (fun t k => XS.icmpNo X30.here hx rfl (hb hby d12_80) rfl (feq hc80_32).1 k) ?_
          refine own_step (T' := T30) (f' := (mkF m 84 #[.val (.ref a1), .val (.int (0 : Int32))] [(.ref a1)])) (fun t k => XS.aloadN X30.here hx rfl (hb hby d12_83) rfl rfl k) ?_
          obtain ⟨T33, X33, e33, st33⟩ := getF X30 hx hZ hown (host := "") (Or.inl (own_w hw 81 rfl)) Via.refl e30 F_ch (g := (mkF m 84 #[.val (.ref a1), .val (.int (0 : Int32))] [(.ref a1)])) rfl rfl (hb hby d12_84)
          refine own_step (T' := T33) (f' := (mkF m 87 #[.val (.ref a1), .val (.int (0 : Int32))] [(.ref b)])) (fun t k => st33 t k) ?_
          refine own_step (T' := T33) (f' := (mkF m 88 #[.val (.ref a1), .val (.int (0 : Int32))] [(.int (0 : Int32)), (.ref b)])) (fun t k => XS.iloadN X33.here hx rfl (hb hby d12_87) rfl k) ?_
          refine own_step (T' := T33) (f' := (mkF m 89 #[.val (.ref a1), .val (.int (0 : Int32))] [(.int (1 : Int32)), (.int (0 : Int32)), (.ref b)])) (fun t k => XS.iconst X33.here hx rfl (hb hby d12_88) k) ?_
          refine own_step (T' := T33) (f' := (mkF m 90 #[.val (.ref a1), .val (.int (0 : Int32))] [(.int (1 : Int32)), (.ref b)])) (fun t k => XS.iadd X33.here hx rfl (hb hby d12_89) rfl k) ?_
          obtain ⟨cl34, Ar34, q34, S34, M34, H34, G34⟩ := id V_b
          have hin34 : ¬ ((1 : Int32) < 0 ∨ cl34.slots.size ≤ ((1 : Int32)).toNatClampNeg) := inb_of S34 ⟨by decide, by decide⟩
          have hat34 : cl34.slots[((1 : Int32)).toNatClampNeg]? = some (.int y1) := own_at hin34 H34 1 rfl rfl
          refine own_step (T' := T33) (f' := (mkF m 91 #[.val (.ref a1), .val (.int (0 : Int32))] [(.int y1)])) (fun t k => X33.baloadBytes hx (j := (1 : Int32)) (v := (.int y1)) (by rw [e33]; exact Ar34.1) (State.isArrayOf_alike hZ.alike Ar34.2.1) Ar34.2.2 hin34 hat34 (g := (mkF m 90 #[.val (.ref a1), .val (.int (0 : Int32))] [(.int (1 : Int32)), (.ref b)])) rfl rfl (hb hby d12_90) _ k) ?_
          refine own_step (T' := T33) (f' := (mkF m 93 #[.val (.ref a1), .val (.int (0 : Int32))] [(.int (9 : Int32)), (.int y1)])) (fun t k => XS.bipush X33.here hx rfl (hb hby d12_91) k) ?_
          by_cases hc93_35 : y1 = (9 : Int32)
          · skip
            refine own_step (T' := T33) (f' := (mkF m 109 #[.val (.ref a1), .val (.int (0 : Int32))] [])) (fun t k => XS.icmpYes X33.here hx rfl (pc0 := 93) (pc' := 109) rfl (hb hby d12_93) rfl (teq hc93_35).1 (by decide) (by decide) k) ?_
            refine own_step (T' := T33) (f' := (mkF m 110 #[.val (.ref a1), .val (.int (0 : Int32))] [(.int (1 : Int32))])) (fun t k => XS.iconst X33.here hx rfl (hb hby d12_109) k) ?_
            refine own_step (T' := T33) (f' := (mkF m 114 #[.val (.ref a1), .val (.int (0 : Int32))] [(.int (1 : Int32))])) (fun t k => XS.goto X33.here hx rfl (pc0 := 110) (pc' := 114) rfl (hb hby d12_110) (by decide) (by decide) k) ?_
            exact own_retN X33 hx hlk (t := .boolean) Bd.returns (by simp) (hb hby d12_114) (by decide) (by decide) ⟨by rw [show own_bs [y0, y1] = (1 : Int32) from ((own_bs64 hc57_28).trans (own_nx9 hc93_35))]; rfl, N0, e33⟩
          · skip
            refine own_step (T' := T33) (f' := (mkF m 96 #[.val (.ref a1), .val (.int (0 : Int32))] [])) (fun t k => XS.icmpNo X33.here hx rfl (hb hby d12_93) rfl (feq hc93_35).1 k) ?_
            refine own_step (T' := T33) (f' := (mkF m 97 #[.val (.ref a1), .val (.int (0 : Int32))] [(.ref a1)])) (fun t k => XS.aloadN X33.here hx rfl (hb hby d12_96) rfl rfl k) ?_
            obtain ⟨T36, X36, e36, st36⟩ := getF X33 hx hZ hown (host := "") (Or.inl (own_w hw 81 rfl)) Via.refl e33 F_ch (g := (mkF m 97 #[.val (.ref a1), .val (.int (0 : Int32))] [(.ref a1)])) rfl rfl (hb hby d12_97)
            refine own_step (T' := T36) (f' := (mkF m 100 #[.val (.ref a1), .val (.int (0 : Int32))] [(.ref b)])) (fun t k => st36 t k) ?_
            refine own_step (T' := T36) (f' := (mkF m 101 #[.val (.ref a1), .val (.int (0 : Int32))] [(.int (0 : Int32)), (.ref b)])) (fun t k => XS.iloadN X36.here hx rfl (hb hby d12_100) rfl k) ?_
            refine own_step (T' := T36) (f' := (mkF m 102 #[.val (.ref a1), .val (.int (0 : Int32))] [(.int (1 : Int32)), (.int (0 : Int32)), (.ref b)])) (fun t k => XS.iconst X36.here hx rfl (hb hby d12_101) k) ?_
            refine own_step (T' := T36) (f' := (mkF m 103 #[.val (.ref a1), .val (.int (0 : Int32))] [(.int (1 : Int32)), (.ref b)])) (fun t k => XS.iadd X36.here hx rfl (hb hby d12_102) rfl k) ?_
            obtain ⟨cl37, Ar37, q37, S37, M37, H37, G37⟩ := id V_b
            have hin37 : ¬ ((1 : Int32) < 0 ∨ cl37.slots.size ≤ ((1 : Int32)).toNatClampNeg) := inb_of S37 ⟨by decide, by decide⟩
            have hat37 : cl37.slots[((1 : Int32)).toNatClampNeg]? = some (.int y1) := own_at hin37 H37 1 rfl rfl
            refine own_step (T' := T36) (f' := (mkF m 104 #[.val (.ref a1), .val (.int (0 : Int32))] [(.int y1)])) (fun t k => X36.baloadBytes hx (j := (1 : Int32)) (v := (.int y1)) (by rw [e36]; exact Ar37.1) (State.isArrayOf_alike hZ.alike Ar37.2.1) Ar37.2.2 hin37 hat37 (g := (mkF m 103 #[.val (.ref a1), .val (.int (0 : Int32))] [(.int (1 : Int32)), (.ref b)])) rfl rfl (hb hby d12_103) _ k) ?_
            refine own_step (T' := T36) (f' := (mkF m 106 #[.val (.ref a1), .val (.int (0 : Int32))] [(.int (42 : Int32)), (.int y1)])) (fun t k => XS.bipush X36.here hx rfl (hb hby d12_104) k) ?_
            by_cases hc106_38 : y1 = (42 : Int32)
            · skip
              refine own_step (T' := T36) (f' := (mkF m 109 #[.val (.ref a1), .val (.int (0 : Int32))] [])) (fun t k => XS.icmpNo X36.here hx rfl (hb hby d12_106) rfl (teq hc106_38).2 k) ?_
              refine own_step (T' := T36) (f' := (mkF m 110 #[.val (.ref a1), .val (.int (0 : Int32))] [(.int (1 : Int32))])) (fun t k => XS.iconst X36.here hx rfl (hb hby d12_109) k) ?_
              refine own_step (T' := T36) (f' := (mkF m 114 #[.val (.ref a1), .val (.int (0 : Int32))] [(.int (1 : Int32))])) (fun t k => XS.goto X36.here hx rfl (pc0 := 110) (pc' := 114) rfl (hb hby d12_110) (by decide) (by decide) k) ?_
              exact own_retN X36 hx hlk (t := .boolean) Bd.returns (by simp) (hb hby d12_114) (by decide) (by decide) ⟨by rw [show own_bs [y0, y1] = (1 : Int32) from ((own_bs64 hc57_28).trans (own_nx42 hc106_38))]; rfl, N0, e36⟩
            · skip
              refine own_step (T' := T36) (f' := (mkF m 113 #[.val (.ref a1), .val (.int (0 : Int32))] [])) (fun t k => XS.icmpYes X36.here hx rfl (pc0 := 106) (pc' := 113) rfl (hb hby d12_106) rfl (feq hc106_38).2 (by decide) (by decide) k) ?_
              refine own_step (T' := T36) (f' := (mkF m 114 #[.val (.ref a1), .val (.int (0 : Int32))] [(.int (0 : Int32))])) (fun t k => XS.iconst X36.here hx rfl (hb hby d12_113) k) ?_
              exact own_retN X36 hx hlk (t := .boolean) Bd.returns (by simp) (hb hby d12_114) (by decide) (by decide) ⟨by rw [show own_bs [y0, y1] = (0 : Int32) from ((own_bs64 hc57_28).trans (own_nxN hc80_32 hc93_35 hc106_38))]; rfl, N0, e36⟩
      · skip
        refine own_step (T' := T26) (f' := (mkF m 113 #[.val (.ref a1), .val (.int (0 : Int32))] [])) (fun t k => XS.icmpYes X26.here hx rfl (pc0 := 57) (pc' := 113) rfl (hb hby d12_57) rfl (feq hc57_28).2 (by decide) (by decide) k) ?_
        refine own_step (T' := T26) (f' := (mkF m 114 #[.val (.ref a1), .val (.int (0 : Int32))] [(.int (0 : Int32))])) (fun t k => XS.iconst X26.here hx rfl (hb hby d12_113) k) ?_
        exact own_retN X26 hx hlk (t := .boolean) Bd.returns (by simp) (hb hby d12_114) (by decide) (by decide) ⟨by rw [show own_bs [y0, y1] = (0 : Int32) from (own_bsN hc21_21 hc32_24 hc57_28)]; rfl, N0, e26⟩

def Q3_2 (Z : State) (a1 : Addr) (c0 c1 : Int32) (h0 : Heap) (n0 : Nat) (v : Option Value) (h : Heap) (L : List Loc) : Prop := v = none ∧ Fr n0 L ∧ Keep h0 h [a1] ∧ ∃ (b : Addr) (k : ClassId), OwnStr Z h a1 b k 2 [(.int (own_sb c0)), (.int (own_sb c1))]
def Q14_2 (Z : State) (a3 : Addr) (kb : ClassId) (c0 c1 : Int32) (h0 : Heap) (n0 : Nat) (v : Option Value) (h : Heap) (L : List Loc) : Prop := v = some (.int 2) ∧ Fr n0 L ∧ Keep h0 h [a3] ∧ Arv Z h a3 kb .byte (2 : Int32) [(.int (own_sb c0)), (.int (own_sb c1))] (.int (0 : Int32))
theorem ef_rm14_2 (m : MethodId) (x0 : Addr) (x1 : Int32) (x2 : Addr) (x3 : Int32) (x4 : Int32) : entryFrame m #[(.ref x0), (.int x1), (.ref x2), (.int x3), (.int x4)] 7 = mkF m 0 #[.val (.ref x0), .val (.int x1), .val (.ref x2), .val (.int x3), .val (.int x4), .unset, .unset] [] := by first | (simp [entryFrame, mkF, argsToLocals, Value.category]; done) | rfl
set_option maxRecDepth 65536 in
set_option maxHeartbeats 40000000 in
theorem rm14_2 (l : Launch) (Z : State) (a0 : Array Value) (hw : ∀ d ∈ tables_1, d.before a0 Z = true) (ws : List Jvm.Cond) (a1 : Addr) (a3 : Addr) (h0 : Heap) (n0 : Nat) (Z0 : n0 ≤ h0.size) (kc kb : ClassId) (c0 c1 : Int32) (hC0 : OwnC c0) (hC1 : OwnC c1) (V_a1 : Arv Z h0 a1 kc .char (2 : Int32) [(.int c0), (.int c1)] (.int (0 : Int32))) (V_a3 : Arv Z h0 a3 kb .byte (2 : Int32) [(.int (0 : Int32)), (.int (0 : Int32))] (.int (0 : Int32))) (ne13 : a1 ≠ a3) (g_a3 : n0 ≤ a3) :
    MetFree l (⟨"java/lang/StringUTF16", "compress", "([CI[BII)I"⟩ : MethodName) (head1 (Jvm.Cond.code (⟨"java/lang/StringUTF16", "compress", "([CI[BII)I"⟩ : MethodName) jdk_52_method_21_code 7 (some .int) :: ws) ({ frames := 0, cells := 0, slots := 0, locals := 0 } : Room)) (fun a U => a = #[(.ref a1), (.int (0 : Int32)), (.ref a3), (.int (0 : Int32)), (.int (2 : Int32))] ∧ Z.Warmed39 U.vm ∧ U.heap = h0) (fun _ _ _ _ _ => True) (fun _ U o U' => ∃ v L, o = .returned v ∧ Q14_2 Z a3 kb c0 c1 h0 n0 v U'.heap L ∧ FrameEnd U o U' L ({ frames := 0, cells := 0, slots := 0, locals := 0 } : Room).cells ({ frames := 0, cells := 0, slots := 0, locals := 0 } : Room).slots) := by
  refine MetFree.of_bodySF (plainFor_of_name pn_14) hisR ?_
  intro p e s m args below meth c s₁ Bd hml0 hP hK
  obtain ⟨rfl, hZ, hh⟩ := hP
  have hx := Bd.exec
  have hby := Bd.bytes
  have hlk : meth.locks = false := BodyLoose.notSynchronized Bd
  have hml : c.maxLocals = 7 := hml0
  have hown : s.vm.findClass "java/lang/StringUTF16" = some m.cls := findClass_of_methodNamed Bd.named
  have hnm := (name_of_methodNamed Bd.named Bd.method).1
  have X0 : Stand p l e ({ frames := 0, cells := 0, slots := 0, locals := 0 } : Room) s m #[(.ref a1), (.int (0 : Int32)), (.ref a3), (.int (0 : Int32)), (.int (2 : Int32))] below meth c s₁ [] 0 0 := Stand.of_body Bd
  have e0 : s₁.heap = h0 := by rw [← hh, Bd.state]; rfl
  have N0 := Fr.nil n0
  have Zz := Z0
  have Kp : Keep h0 h0 [a3] := Keep.refl _ _
  show OwnEnds p e below s (Q14_2 Z a3 kb c0 c1 h0 n0) ({ frames := 0, cells := 0, slots := 0, locals := 0 } : Room).cells ({ frames := 0, cells := 0, slots := 0, locals := 0 } : Room).slots s₁ (entryFrame m #[(.ref a1), (.int (0 : Int32)), (.ref a3), (.int (0 : Int32)), (.int (2 : Int32))] 7)
  refine own_step (T' := s₁) (f' := (mkF m 0 #[.val (.ref a1), .val (.int (0 : Int32)), .val (.ref a3), .val (.int (0 : Int32)), .val (.int (2 : Int32)), .unset, .unset] [])) (fun t k => castTop (ef_rm14_2 m a1 (0 : Int32) a3 (0 : Int32) (2 : Int32)) k) ?_
  let F1 : Nat → List Value → JFrame := fun a b => mkF m a #[.val (.ref a1), .val (.int (0 : Int32)), .val (.ref a3), .val (.int (0 : Int32)), .val (.int (2 : Int32)), .unset, .unset] b
  refine own_step (T' := s₁) (f' := (F1 1 [(.int (0 : Int32))])) (fun t k => XS.iconst X0.here hx rfl (hb hby d14_0) k) ?_
  let F2 : Nat → List Value → JFrame := fun a b => mkF m a #[.val (.ref a1), .val (.int (0 : Int32)), .val (.ref a3), .val (.int (0 : Int32)), .val (.int (2 : Int32)), .val (.int (0 : Int32)), .unset] b
  refine own_step (T' := s₁) (f' := (F2 3 [])) (fun t k => XS.istore X0.here hx rfl (hb hby d14_1) rfl (l' := #[.val (.ref a1), .val (.int (0 : Int32)), .val (.ref a3), .val (.int (0 : Int32)), .val (.int (2 : Int32)), .val (.int (0 : Int32)), .unset]) rfl k) ?_
  refine own_step (T' := s₁) (f' := (F2 5 [(.int (0 : Int32))])) (fun t k => XS.iload X0.here hx rfl (hb hby d14_3) rfl k) ?_
  refine own_step (T' := s₁) (f' := (F2 7 [(.int (2 : Int32)), (.int (0 : Int32))])) (fun t k => XS.iload X0.here hx rfl (hb hby d14_5) rfl k) ?_
  refine own_step (T' := s₁) (f' := (F2 10 [])) (fun t k => XS.icmpNo X0.here hx rfl (hb hby d14_7) rfl (tlt (by decide : (0 : Int32) < (2 : Int32))).2.1 k) ?_
  refine own_step (T' := s₁) (f' := (F2 11 [(.ref a1)])) (fun t k => XS.aloadN X0.here hx rfl (hb hby d14_10) rfl rfl k) ?_
  refine own_step (T' := s₁) (f' := (F2 12 [(.int (0 : Int32)), (.ref a1)])) (fun t k => XS.iloadN X0.here hx rfl (hb hby d14_11) rfl k) ?_
  obtain ⟨cl3, Ar3, q3, S3, M3, H3, G3⟩ := id V_a1
  have hin3 : ¬ ((0 : Int32) < 0 ∨ cl3.slots.size ≤ ((0 : Int32)).toNatClampNeg) := inb_of S3 ⟨by decide, by decide⟩
  have hat3 : cl3.slots[((0 : Int32)).toNatClampNeg]? = some (.int c0) := own_at hin3 H3 0 rfl rfl
  refine own_step (T' := s₁) (f' := (F2 13 [(.int c0)])) (fun t k => X0.caload hx (j := (0 : Int32)) (v := (.int c0)) (by rw [e0]; exact Ar3.1) (State.isArrayOf_alike hZ.alike Ar3.2.1) Ar3.2.2 hin3 hat3 (g := (F2 12 [(.int (0 : Int32)), (.ref a1)])) rfl rfl (hb hby d14_12) _ k) ?_
  let F4 : Nat → List Value → JFrame := fun a b => mkF m a #[.val (.ref a1), .val (.int (0 : Int32)), .val (.ref a3), .val (.int (0 : Int32)), .val (.int (2 : Int32)), .val (.int (0 : Int32)), .val (.int c0)] b
  refine own_step (T' := s₁) (f' := (F4 15 [])) (fun t k => XS.istore X0.here hx rfl (hb hby d14_13) rfl (l' := #[.val (.ref a1), .val (.int (0 : Int32)), .val (.ref a3), .val (.int (0 : Int32)), .val (.int (2 : Int32)), .val (.int (0 : Int32)), .val (.int c0)]) rfl k) ?_
  refine own_step (T' := s₁) (f' := (F4 17 [(.int c0)])) (fun t k => XS.iload X0.here hx rfl (hb hby d14_15) rfl k) ?_
  refine own_step (T' := s₁) (f' := (F4 20 [(.int (255 : Int32)), (.int c0)])) (fun t k => XS.sipush X0.here hx rfl (hb hby d14_17) k) ?_
  refine own_step (T' := s₁) (f' := (F4 26 [])) (fun t k => XS.icmpYes X0.here hx rfl (pc0 := 20) (pc' := 26) rfl (hb hby d14_20) rfl (flt (own_c255 hC0)).2.2.2 (by decide) (by decide) k) ?_
  refine own_step (T' := s₁) (f' := (F4 27 [(.ref a3)])) (fun t k => XS.aloadN X0.here hx rfl (hb hby d14_26) rfl rfl k) ?_
  refine own_step (T' := s₁) (f' := (F4 28 [(.int (0 : Int32)), (.ref a3)])) (fun t k => XS.iloadN X0.here hx rfl (hb hby d14_27) rfl k) ?_
  refine own_step (T' := s₁) (f' := (F4 30 [(.int c0), (.int (0 : Int32)), (.ref a3)])) (fun t k => XS.iload X0.here hx rfl (hb hby d14_28) rfl k) ?_
  refine own_step (T' := s₁) (f' := (F4 31 [(.int (c0.toInt8.toInt32)), (.int (0 : Int32)), (.ref a3)])) (fun t k => XS.i2b X0.here hx rfl (hb hby d14_30) rfl k) ?_
  obtain ⟨cl5, Ar5, q5, S5, M5, H5, G5⟩ := V_a3
  have hin5 : ¬ ((0 : Int32) < 0 ∨ cl5.slots.size ≤ ((0 : Int32)).toNatClampNeg) := inb_of S5 ⟨by decide, by decide⟩
  obtain ⟨T5, h5, X5, e5, W5, st5⟩ := stB X0 hx hZ e0 Ar5 (j := (0 : Int32)) hin5 (g := (F4 31 [(.int (c0.toInt8.toInt32)), (.int (0 : Int32)), (.ref a3)])) rfl rfl (hb hby d14_31)
  have V_a3 : Arv Z h5 a3 kb .byte (2 : Int32) [(.int (own_sb c0)), (.int (0 : Int32))] (.int (0 : Int32)) := Arv.set Ar5 q5 S5 M5 H5 G5 (fits_nar_byte _) W5 0 rfl (Nat.le_of_ble_eq_true rfl)
  replace V_a1 := V_a1.other W5 ne13
  replace Zz := Nat.le_trans Zz (Keep.of_wr W5).1
  replace Kp := Kp.wr W5 (Or.inl (List.mem_of_getElem? (i := 0) rfl))
  have N5 := Fr.snoc X5 N0 g_a3
  refine own_step (T' := T5) (f' := (F4 32 [])) (fun t k => st5 t k) ?_
  let F6 : Nat → List Value → JFrame := fun a b => mkF m a #[.val (.ref a1), .val (.int (1 : Int32)), .val (.ref a3), .val (.int (0 : Int32)), .val (.int (2 : Int32)), .val (.int (0 : Int32)), .val (.int c0)] b
  refine own_step (T' := T5) (f' := (F6 35 [])) (fun t k => XS.iinc X5.here hx rfl (hb hby d14_32) rfl (l' := #[.val (.ref a1), .val (.int (1 : Int32)), .val (.ref a3), .val (.int (0 : Int32)), .val (.int (2 : Int32)), .val (.int (0 : Int32)), .val (.int c0)]) rfl k) ?_
  let F7 : Nat → List Value → JFrame := fun a b => mkF m a #[.val (.ref a1), .val (.int (1 : Int32)), .val (.ref a3), .val (.int (1 : Int32)), .val (.int (2 : Int32)), .val (.int (0 : Int32)), .val (.int c0)] b
  refine own_step (T' := T5) (f' := (F7 38 [])) (fun t k => XS.iinc X5.here hx rfl (hb hby d14_35) rfl (l' := #[.val (.ref a1), .val (.int (1 : Int32)), .val (.ref a3), .val (.int (1 : Int32)), .val (.int (2 : Int32)), .val (.int (0 : Int32)), .val (.int c0)]) rfl k) ?_
  let F8 : Nat → List Value → JFrame := fun a b => mkF m a #[.val (.ref a1), .val (.int (1 : Int32)), .val (.ref a3), .val (.int (1 : Int32)), .val (.int (2 : Int32)), .val (.int (1 : Int32)), .val (.int c0)] b
  refine own_step (T' := T5) (f' := (F8 41 [])) (fun t k => XS.iinc X5.here hx rfl (hb hby d14_38) rfl (l' := #[.val (.ref a1), .val (.int (1 : Int32)), .val (.ref a3), .val (.int (1 : Int32)), .val (.int (2 : Int32)), .val (.int (1 : Int32)), .val (.int c0)]) rfl k) ?_
  refine own_step (T' := T5) (f' := (F8 3 [])) (fun t k => XS.goto X5.here hx rfl (pc0 := 41) (pc' := 3) rfl (hb hby d14_41) (by decide) (by decide) k) ?_
  refine own_step (T' := T5) (f' := (F8 5 [(.int (1 : Int32))])) (fun t k => XS.iload X5.here hx rfl (hb hby d14_3) rfl k) ?_
  refine own_step (T' := T5) (f' := (F8 7 [(.int (2 : Int32)), (.int (1 : Int32))])) (fun t k => XS.iload X5.here hx rfl (hb hby d14_5) rfl k) ?_
  refine own_step (T' := T5) (f' := (F8 10 [])) (fun t k => XS.icmpNo X5.here hx rfl (hb hby d14_7) rfl (tlt (by decide : (1 : Int32) < (2 : Int32))).2.1 k) ?_
  refine own_step (T' := T5) (f' := (F8 11 [(.ref a1)])) (fun t k => XS.aloadN X5.here hx rfl (hb hby d14_10) rfl rfl k) ?_
  refine own_step (T' := T5) (f' := (F8 12 [(.int (1 : Int32)), (.ref a1)])) (fun t k => XS.iloadN X5.here hx rfl (hb hby d14_11) rfl k) ?_
  obtain ⟨cl9, Ar9, q9, S9, M9, H9, G9⟩ := id V_a1
  have hin9 : ¬ ((1 : Int32) < 0 ∨ cl9.slots.size ≤ ((1 : Int32)).toNatClampNeg) := inb_of S9 ⟨by decide, by decide⟩
  have hat9 : cl9.slots[((1 : Int32)).toNatClampNeg]? = some (.int c1) := own_at hin9 H9 1 rfl rfl
  refine own_step (T' := T5) (f' := (F8 13 [(.int c1)])) (fun t k => X5.caload hx (j := (1 : Int32)) (v := (.int c1)) (by rw [e5]; exact Ar9.1) (State.isArrayOf_alike hZ.alike Ar9.2.1) Ar9.2.2 hin9 hat9 (g := (F8 12 [(.int (1 : Int32)), (.ref a1)])) rfl rfl (hb hby d14_12) _ k) ?_
  let F10 : Nat → List Value → JFrame := fun a b => mkF m a #[.val (.ref a1), .val (.int (1 : Int32)), .val (.ref a3), .val (.int (1 : Int32)), .val (.int (2 : Int32)), .val (.int (1 : Int32)), .val (.int c1)] b
  refine own_step (T' := T5) (f' := (F10 15 [])) (fun t k => XS.istore X5.here hx rfl (hb hby d14_13) rfl (l' := #[.val (.ref a1), .val (.int (1 : Int32)), .val (.ref a3), .val (.int (1 : Int32)), .val (.int (2 : Int32)), .val (.int (1 : Int32)), .val (.int c1)]) rfl k) ?_
  refine own_step (T' := T5) (f' := (F10 17 [(.int c1)])) (fun t k => XS.iload X5.here hx rfl (hb hby d14_15) rfl k) ?_
  refine own_step (T' := T5) (f' := (F10 20 [(.int (255 : Int32)), (.int c1)])) (fun t k => XS.sipush X5.here hx rfl (hb hby d14_17) k) ?_
  refine own_step (T' := T5) (f' := (F10 26 [])) (fun t k => XS.icmpYes X5.here hx rfl (pc0 := 20) (pc' := 26) rfl (hb hby d14_20) rfl (flt (own_c255 hC1)).2.2.2 (by decide) (by decide) k) ?_
  refine own_step (T' := T5) (f' := (F10 27 [(.ref a3)])) (fun t k => XS.aloadN X5.here hx rfl (hb hby d14_26) rfl rfl k) ?_
  refine own_step (T' := T5) (f' := (F10 28 [(.int (1 : Int32)), (.ref a3)])) (fun t k => XS.iloadN X5.here hx rfl (hb hby d14_27) rfl k) ?_
  refine own_step (T' := T5) (f' := (F10 30 [(.int c1), (.int (1 : Int32)), (.ref a3)])) (fun t k => XS.iload X5.here hx rfl (hb hby d14_28) rfl k) ?_
  refine own_step (T' := T5) (f' := (F10 31 [(.int (c1.toInt8.toInt32)), (.int (1 : Int32)), (.ref a3)])) (fun t k => XS.i2b X5.here hx rfl (hb hby d14_30) rfl k) ?_
  obtain ⟨cl11, Ar11, q11, S11, M11, H11, G11⟩ := V_a3
  have hin11 : ¬ ((1 : Int32) < 0 ∨ cl11.slots.size ≤ ((1 : Int32)).toNatClampNeg) := inb_of S11 ⟨by decide, by decide⟩
  obtain ⟨T11, h11, X11, e11, W11, st11⟩ := stB X5 hx hZ e5 Ar11 (j := (1 : Int32)) hin11 (g := (F10 31 [(.int (c1.toInt8.toInt32)), (.int (1 : Int32)), (.ref a3)])) rfl rfl (hb hby d14_31)
  have V_a3 : Arv Z h11 a3 kb .byte (2 : Int32) [(.int (own_sb c0)), (.int (own_sb c1))] (.int (0 : Int32)) := Arv.set Ar11 q11 S11 M11 H11 G11 (fits_nar_byte _) W11 1 rfl (Nat.le_of_ble_eq_true rfl)
  replace V_a1 := V_a1.other W11 ne13
  replace Zz := Nat.le_trans Zz (Keep.of_wr W11).1
  replace Kp := Kp.wr W11 (Or.inl (List.mem_of_getElem? (i := 0) rfl))
  have N11 := Fr.snoc X11 N5 g_a3
  refine own_step (T' := T11) (f' := (F10 32 [])) (fun t k => st11 t k) ?_
  let F12 : Nat → List Value → JFrame := fun a b => mkF m a #[.val (.ref a1), .val (.int (2 : Int32)), .val (.ref a3), .val (.int (1 : Int32)), .val (.int (2 : Int32)), .val (.int (1 : Int32)), .val (.int c1)] b
  refine own_step (T' := T11) (f' := (F12 35 [])) (fun t k => XS.iinc X11.here hx rfl (hb hby d14_32) rfl (l' := #[.val (.ref a1), .val (.int (2 : Int32)), .val (.ref a3), .val (.int (1 : Int32)), .val (.int (2 : Int32)), .val (.int (1 : Int32)), .val (.int c1)]) rfl k) ?_
  let F13 : Nat → List Value → JFrame := fun a b => mkF m a #[.val (.ref a1), .val (.int (2 : Int32)), .val (.ref a3), .val (.int (2 : Int32)), .val (.int (2 : Int32)), .val (.int (1 : Int32)), .val (.int c1)] b
  refine own_step (T' := T11) (f' := (F13 38 [])) (fun t k => XS.iinc X11.here hx rfl (hb hby d14_35) rfl (l' := #[.val (.ref a1), .val (.int (2 : Int32)), .val (.ref a3), .val (.int (2 : Int32)), .val (.int (2 : Int32)), .val (.int (1 : Int32)), .val (.int c1)]) rfl k) ?_
  let F14 : Nat → List Value → JFrame := fun a b => mkF m a #[.val (.ref a1), .val (.int (2 : Int32)), .val (.ref a3), .val (.int (2 : Int32)), .val (.int (2 : Int32)), .val (.int (2 : Int32)), .val (.int c1)] b
  refine own_step (T' := T11) (f' := (F14 41 [])) (fun t k => XS.iinc X11.here hx rfl (hb hby d14_38) rfl (l' := #[.val (.ref a1), .val (.int (2 : Int32)), .val (.ref a3), .val (.int (2 : Int32)), .val (.int (2 : Int32)), .val (.int (2 : Int32)), .val (.int c1)]) rfl k) ?_
  refine own_step (T' := T11) (f' := (F14 3 [])) (fun t k => XS.goto X11.here hx rfl (pc0 := 41) (pc' := 3) rfl (hb hby d14_41) (by decide) (by decide) k) ?_
  refine own_step (T' := T11) (f' := (F14 5 [(.int (2 : Int32))])) (fun t k => XS.iload X11.here hx rfl (hb hby d14_3) rfl k) ?_
  refine own_step (T' := T11) (f' := (F14 7 [(.int (2 : Int32)), (.int (2 : Int32))])) (fun t k => XS.iload X11.here hx rfl (hb hby d14_5) rfl k) ?_
  refine own_step (T' := T11) (f' := (F14 44 [])) (fun t k => XS.icmpYes X11.here hx rfl (pc0 := 7) (pc' := 44) rfl (hb hby d14_7) rfl (flt (by decide : ¬ ((2 : Int32) < (2 : Int32)))).2.1 (by decide) (by decide) k) ?_
  refine own_step (T' := T11) (f' := (F14 46 [(.int (2 : Int32))])) (fun t k => XS.iload X11.here hx rfl (hb hby d14_44) rfl k) ?_
  exact own_retO X11 hx hlk Bd.returns rfl (Or.inl ⟨rfl, Or.inl rfl, _, rfl⟩) (hb hby d14_46) (by decide) (by decide) (by rw [e11]; exact ⟨rfl, N11, Kp, V_a3⟩)

def Q13_2 (Z : State) (c0 c1 : Int32) (h0 : Heap) (n0 : Nat) (v : Option Value) (h : Heap) (L : List Loc) : Prop := ∃ (b : Addr) (k : ClassId), v = some (.ref b) ∧ Fr n0 L ∧ Keep h0 h [] ∧ h0.size ≤ b ∧ Arv Z h b k .byte (2 : Int32) [(.int (own_sb c0)), (.int (own_sb c1))] (.int (0 : Int32)) ∧ Exa Z h b "[B"
theorem ef_rm13_2 (m : MethodId) (x0 : Addr) (x1 : Int32) (x2 : Int32) : entryFrame m #[(.ref x0), (.int x1), (.int x2)] 6 = mkF m 0 #[.val (.ref x0), .val (.int x1), .val (.int x2), .unset, .unset, .unset] [] := by first | (simp [entryFrame, mkF, argsToLocals, Value.category]; done) | rfl
set_option maxRecDepth 65536 in
set_option maxHeartbeats 40000000 in
theorem rm13_2 (l : Launch) (Z : State) (a0 : Array Value) (hw : ∀ d ∈ tables_1, d.before a0 Z = true) (ws : List Jvm.Cond) (a1 : Addr) (h0 : Heap) (n0 : Nat) (Z0 : n0 ≤ h0.size) (kc : ClassId) (c0 c1 : Int32) (hC0 : OwnC c0) (hC1 : OwnC c1) (V_a1 : Arv Z h0 a1 kc .char (2 : Int32) [(.int c0), (.int c1)] (.int (0 : Int32))) :
    MetFree l (⟨"java/lang/StringUTF16", "compress", "([CII)[B"⟩ : MethodName) (head1 (Jvm.Cond.code (⟨"java/lang/StringUTF16", "compress", "([CII)[B"⟩ : MethodName) jdk_52_method_16_code 6 (some (.array .byte)) :: ws) ({ frames := 1, cells := 1, slots := 2, locals := 18 } : Room)) (fun a U => a = #[(.ref a1), (.int (0 : Int32)), (.int (2 : Int32))] ∧ Z.Warmed39 U.vm ∧ U.heap = h0) (fun _ _ _ _ _ => True) (fun _ U o U' => ∃ v L, o = .returned v ∧ Q13_2 Z c0 c1 h0 n0 v U'.heap L ∧ FrameEnd U o U' L ({ frames := 1, cells := 1, slots := 2, locals := 18 } : Room).cells ({ frames := 1, cells := 1, slots := 2, locals := 18 } : Room).slots) := by
  refine MetFree.of_bodySF (plainFor_of_name pn_13) hisR ?_
  intro p e s m args below meth c s₁ Bd hml0 hP hK
  obtain ⟨rfl, hZ, hh⟩ := hP
  have hx := Bd.exec
  have hby := Bd.bytes
  have hlk : meth.locks = false := BodyLoose.notSynchronized Bd
  have hml : c.maxLocals = 6 := hml0
  have hown : s.vm.findClass "java/lang/StringUTF16" = some m.cls := findClass_of_methodNamed Bd.named
  have hnm := (name_of_methodNamed Bd.named Bd.method).1
  have X0 : Stand p l e ({ frames := 1, cells := 1, slots := 2, locals := 18 } : Room) s m #[(.ref a1), (.int (0 : Int32)), (.int (2 : Int32))] below meth c s₁ [] 0 0 := Stand.of_body Bd
  have e0 : s₁.heap = h0 := by rw [← hh, Bd.state]; rfl
  have N0 := Fr.nil n0
  have Zz := Z0
  have Kp : Keep h0 h0 [] := Keep.refl _ _
  show OwnEnds p e below s (Q13_2 Z c0 c1 h0 n0) ({ frames := 1, cells := 1, slots := 2, locals := 18 } : Room).cells ({ frames := 1, cells := 1, slots := 2, locals := 18 } : Room).slots s₁ (entryFrame m #[(.ref a1), (.int (0 : Int32)), (.int (2 : Int32))] 6)
  refine own_step (T' := s₁) (f' := (mkF m 0 #[.val (.ref a1), .val (.int (0 : Int32)), .val (.int (2 : Int32)), .unset, .unset, .unset] [])) (fun t k => castTop (ef_rm13_2 m a1 (0 : Int32) (2 : Int32)) k) ?_
  refine own_step (T' := s₁) (f' := (mkF m 1 #[.val (.ref a1), .val (.int (0 : Int32)), .val (.int (2 : Int32)), .unset, .unset, .unset] [(.int (2 : Int32))])) (fun t k => XS.iloadN X0.here hx rfl (hb hby d13_0) rfl k) ?_
  obtain ⟨T1, h1, k1, X1, e1, E1, A1, EX1, st1⟩ := newPE X0 hx hZ (own_w hw 23 rfl) e0 (g := (mkF m 1 #[.val (.ref a1), .val (.int (0 : Int32)), .val (.int (2 : Int32)), .unset, .unset, .unset] [(.int (2 : Int32))])) rfl (hb hby d13_1) rfl (by decide) (cap := 2) (by decide) (by decide) (by decide) (by decide) (ad := "[B") rfl
  obtain ⟨b1, g1⟩ : ∃ z, z = h0.size := ⟨_, rfl⟩
  rw [← g1] at A1 EX1 st1
  have ne_a1_b1 : a1 ≠ b1 := Nat.ne_of_lt (Nat.lt_of_lt_of_le V_a1.lt (Nat.le_of_eq g1.symm))
  have g_b1 : n0 ≤ b1 := Nat.le_trans Zz (Nat.le_of_eq g1.symm)
  have sz_b1 : h0.size ≤ b1 := Nat.le_trans Kp.1 (Nat.le_of_eq g1.symm)
  replace V_a1 := V_a1.ext E1
  replace Zz := Nat.le_trans Zz E1.1
  replace Kp := Kp.ext E1
  have V_b1 : Arv Z h1 b1 k1 .byte (2 : Int32) [(.int (0 : Int32)), (.int (0 : Int32))] (.int (0 : Int32)) := (Arv.new A1 (by decide)).pad (pad_rep [] (.int (0 : Int32)) 2)
  have EX_b1 := EX1
  refine own_step (T' := T1) (f' := (mkF m 3 #[.val (.ref a1), .val (.int (0 : Int32)), .val (.int (2 : Int32)), .unset, .unset, .unset] [(.ref b1)])) (fun t k => st1 t k) ?_
  refine own_step (T' := T1) (f' := (mkF m 4 #[.val (.ref a1), .val (.int (0 : Int32)), .val (.int (2 : Int32)), .val (.ref b1), .unset, .unset] [])) (fun t k => XS.astoreN X1.here hx rfl (hb hby d13_3) rfl rfl (l' := #[.val (.ref a1), .val (.int (0 : Int32)), .val (.int (2 : Int32)), .val (.ref b1), .unset, .unset]) rfl k) ?_
  refine own_step (T' := T1) (f' := (mkF m 5 #[.val (.ref a1), .val (.int (0 : Int32)), .val (.int (2 : Int32)), .val (.ref b1), .unset, .unset] [(.ref a1)])) (fun t k => XS.aloadN X1.here hx rfl (hb hby d13_4) rfl rfl k) ?_
  refine own_step (T' := T1) (f' := (mkF m 6 #[.val (.ref a1), .val (.int (0 : Int32)), .val (.int (2 : Int32)), .val (.ref b1), .unset, .unset] [(.int (0 : Int32)), (.ref a1)])) (fun t k => XS.iloadN X1.here hx rfl (hb hby d13_5) rfl k) ?_
  refine own_step (T' := T1) (f' := (mkF m 7 #[.val (.ref a1), .val (.int (0 : Int32)), .val (.int (2 : Int32)), .val (.ref b1), .unset, .unset] [(.ref b1), (.int (0 : Int32)), (.ref a1)])) (fun t k => XS.aloadN X1.here hx rfl (hb hby d13_6) rfl rfl k) ?_
  refine own_step (T' := T1) (f' := (mkF m 8 #[.val (.ref a1), .val (.int (0 : Int32)), .val (.int (2 : Int32)), .val (.ref b1), .unset, .unset] [(.int (0 : Int32)), (.ref b1), (.int (0 : Int32)), (.ref a1)])) (fun t k => XS.iconst X1.here hx rfl (hb hby d13_7) k) ?_
  refine own_step (T' := T1) (f' := (mkF m 9 #[.val (.ref a1), .val (.int (0 : Int32)), .val (.int (2 : Int32)), .val (.ref b1), .unset, .unset] [(.int (2 : Int32)), (.int (0 : Int32)), (.ref b1), (.int (0 : Int32)), (.ref a1)])) (fun t k => XS.iloadN X1.here hx rfl (hb hby d13_8) rfl k) ?_
  obtain ⟨_, _, ⟨T2, L2, k2, n2⟩, -, X2, ⟨Lc2, hQ2, l2, y2, z2⟩, st2⟩ := Jvm.LawKit.callS X1 hx (y := (⟨"java/lang/StringUTF16", "compress", "([CI[BII)I"⟩ : MethodName)) hown (mvT hZ (own_w hw 102 rfl)) (mvT hZ (own_w hw 103 rfl)) (mvT hZ (own_w hw 100 rfl)) (mvT hZ (own_w hw 104 rfl)) (by decide) (backOf (W := 0) (rm14_2 l Z a0 hw [] a1 b1 h1 n0 Zz kc k1 c0 c1 hC0 hC1 V_a1 V_b1 ne_a1_b1 g_b1) hZ (own_w hw 104 rfl) (own_w hw 100 rfl) (by decide) (by decide)) (g := (mkF m 9 #[.val (.ref a1), .val (.int (0 : Int32)), .val (.int (2 : Int32)), .val (.ref b1), .unset, .unset] [(.int (2 : Int32)), (.int (0 : Int32)), (.ref b1), (.int (0 : Int32)), (.ref a1)])) rfl (by rw [hml]; rfl) (argsL := [(.ref a1), (.int (0 : Int32)), (.ref b1), (.int (0 : Int32)), (.int (2 : Int32))]) (rest := []) (lenOf pd_13_0 rfl) rfl (by show 2 * 0 + _ ≤ _; exact Nat.le_of_eq rfl) (hb hby d13_9) (fun _ _ => ⟨rfl, e1, (by decide : 1 + 0 ≤ _), (by decide : 2 + 0 ≤ _)⟩)
  dsimp only [Pt.U, Pt.locs, Pt.cells, Pt.slots] at X2 l2 y2 z2 st2 hQ2
  subst l2 y2 z2
  obtain ⟨rfl, N2q, K2, Vr2⟩ := hQ2
  have N2 := Fr.app N0 N2q
  replace V_a1 := V_a1.keep K2 (ninS ne_a1_b1 nin0)
  replace EX_b1 := EX_b1.keep K2
  replace Zz := Nat.le_trans Zz K2.1
  replace Kp := Kp.trans K2 (allS (Or.inr sz_b1) all0)
  refine own_step (T' := T2) (f' := (mkF m 12 #[.val (.ref a1), .val (.int (0 : Int32)), .val (.int (2 : Int32)), .val (.ref b1), .unset, .unset] [(.int (2 : Int32))])) (fun t k => st2 t k) ?_
  refine own_step (T' := T2) (f' := (mkF m 14 #[.val (.ref a1), .val (.int (0 : Int32)), .val (.int (2 : Int32)), .val (.ref b1), .val (.int (2 : Int32)), .unset] [])) (fun t k => XS.istore X2.here hx rfl (hb hby d13_12) rfl (l' := #[.val (.ref a1), .val (.int (0 : Int32)), .val (.int (2 : Int32)), .val (.ref b1), .val (.int (2 : Int32)), .unset]) rfl k) ?_
  refine own_step (T' := T2) (f' := (mkF m 16 #[.val (.ref a1), .val (.int (0 : Int32)), .val (.int (2 : Int32)), .val (.ref b1), .val (.int (2 : Int32)), .unset] [(.int (2 : Int32))])) (fun t k => XS.iload X2.here hx rfl (hb hby d13_14) rfl k) ?_
  refine own_step (T' := T2) (f' := (mkF m 17 #[.val (.ref a1), .val (.int (0 : Int32)), .val (.int (2 : Int32)), .val (.ref b1), .val (.int (2 : Int32)), .unset] [(.int (2 : Int32)), (.int (2 : Int32))])) (fun t k => XS.iloadN X2.here hx rfl (hb hby d13_16) rfl k) ?_
  refine own_step (T' := T2) (f' := (mkF m 57 #[.val (.ref a1), .val (.int (0 : Int32)), .val (.int (2 : Int32)), .val (.ref b1), .val (.int (2 : Int32)), .unset] [])) (fun t k => XS.icmpYes X2.here hx rfl (pc0 := 17) (pc' := 57) rfl (hb hby d13_17) rfl (teq (by decide : (2 : Int32) = (2 : Int32))).1 (by decide) (by decide) k) ?_
  refine own_step (T' := T2) (f' := (mkF m 58 #[.val (.ref a1), .val (.int (0 : Int32)), .val (.int (2 : Int32)), .val (.ref b1), .val (.int (2 : Int32)), .unset] [(.ref b1)])) (fun t k => XS.aloadN X2.here hx rfl (hb hby d13_57) rfl rfl k) ?_
  exact own_retO X2 hx hlk Bd.returns rfl (Or.inr (Or.inr (Or.inr (Or.inr ⟨rfl, rfl, rfl⟩)))) (hb hby d13_58) (by decide) (by decide) ⟨b1, k1, rfl, N2, Kp, sz_b1, Vr2, EX_b1⟩

theorem ef_rm15_2 (m : MethodId) (x0 : Addr) (x1 : Int32) : entryFrame m #[(.ref x0), (.int x1)] 2 = mkF m 0 #[.val (.ref x0), .val (.int x1)] [] := by first | (simp [entryFrame, mkF, argsToLocals, Value.category]; done) | rfl
set_option maxRecDepth 65536 in
set_option maxHeartbeats 40000000 in
theorem rm15_2 (l : Launch) (Z : State) (a0 : Array Value) (hw : ∀ d ∈ tables_1, d.before a0 Z = true) (ws : List Jvm.Cond) (a1 : Addr) (h0 : Heap) (n0 : Nat) (Z0 : n0 ≤ h0.size) (kb : ClassId) (c0 c1 : Int32) (V_a1 : Arv Z h0 a1 kb .byte (2 : Int32) [(.int (own_sb c0)), (.int (own_sb c1))] (.int (0 : Int32))) :
    MetFree l (⟨"java/lang/StringUTF16", "coderFromArrayLen", "([BI)B"⟩ : MethodName) (head1 (Jvm.Cond.code (⟨"java/lang/StringUTF16", "coderFromArrayLen", "([BI)B"⟩ : MethodName) jdk_52_method_15_code 2 (some .byte) :: ws) ({ frames := 0, cells := 0, slots := 0, locals := 0 } : Room)) (fun a U => a = #[(.ref a1), (.int (2 : Int32))] ∧ Z.Warmed39 U.vm ∧ U.heap = h0) (fun _ _ _ _ _ => True) (fun _ U o U' => ∃ v L, o = .returned v ∧ QI 0 h0 n0 v U'.heap L ∧ FrameEnd U o U' L ({ frames := 0, cells := 0, slots := 0, locals := 0 } : Room).cells ({ frames := 0, cells := 0, slots := 0, locals := 0 } : Room).slots) := by
  refine MetFree.of_bodySF (plainFor_of_name pn_15) hisR ?_
  intro p e s m args below meth c s₁ Bd hml0 hP hK
  obtain ⟨rfl, hZ, hh⟩ := hP
  have hx := Bd.exec
  have hby := Bd.bytes
  have hlk : meth.locks = false := BodyLoose.notSynchronized Bd
  have hml : c.maxLocals = 2 := hml0
  have hown : s.vm.findClass "java/lang/StringUTF16" = some m.cls := findClass_of_methodNamed Bd.named
  have hnm := (name_of_methodNamed Bd.named Bd.method).1
  have X0 : Stand p l e ({ frames := 0, cells := 0, slots := 0, locals := 0 } : Room) s m #[(.ref a1), (.int (2 : Int32))] below meth c s₁ [] 0 0 := Stand.of_body Bd
  have e0 : s₁.heap = h0 := by rw [← hh, Bd.state]; rfl
  have N0 := Fr.nil n0
  have Zz := Z0
  have Kp : Keep h0 h0 [] := Keep.refl _ _
  show OwnEnds p e below s (QI 0 h0 n0) ({ frames := 0, cells := 0, slots := 0, locals := 0 } : Room).cells ({ frames := 0, cells := 0, slots := 0, locals := 0 } : Room).slots s₁ (entryFrame m #[(.ref a1), (.int (2 : Int32))] 2)
  refine own_step (T' := s₁) (f' := (mkF m 0 #[.val (.ref a1), .val (.int (2 : Int32))] [])) (fun t k => castTop (ef_rm15_2 m a1 (2 : Int32)) k) ?_
  refine own_step (T' := s₁) (f' := (mkF m 1 #[.val (.ref a1), .val (.int (2 : Int32))] [(.int (2 : Int32))])) (fun t k => XS.iloadN X0.here hx rfl (hb hby d15_0) rfl k) ?_
  refine own_step (T' := s₁) (f' := (mkF m 2 #[.val (.ref a1), .val (.int (2 : Int32))] [(.ref a1), (.int (2 : Int32))])) (fun t k => XS.aloadN X0.here hx rfl (hb hby d15_1) rfl rfl k) ?_
  obtain ⟨cl1, Ar1, q1, S1, M1, H1, G1⟩ := id V_a1
  refine own_step (T' := s₁) (f' := (mkF m 3 #[.val (.ref a1), .val (.int (2 : Int32))] [(.int (2 : Int32)), (.int (2 : Int32))])) (fun t k => X0.arraylength hx (by rw [e0]; exact Ar1.1) (State.isArrayOf_alike hZ.alike Ar1.2.1) (g := (mkF m 2 #[.val (.ref a1), .val (.int (2 : Int32))] [(.ref a1), (.int (2 : Int32))])) rfl rfl (hb hby d15_2) _ (by rw [len_of S1 M1]; exact k)) ?_
  refine own_step (T' := s₁) (f' := (mkF m 4 #[.val (.ref a1), .val (.int (2 : Int32))] [(.int (0 : Int32))])) (fun t k => XS.isub X0.here hx rfl (hb hby d15_3) rfl k) ?_
  refine own_step (T' := s₁) (f' := (mkF m 6 #[.val (.ref a1), .val (.int (2 : Int32))] [(.int (31 : Int32)), (.int (0 : Int32))])) (fun t k => XS.bipush X0.here hx rfl (hb hby d15_4) k) ?_
  refine own_step (T' := s₁) (f' := (mkF m 7 #[.val (.ref a1), .val (.int (2 : Int32))] [(.int (((0 : Int32).toUInt32 >>> ((31 : Int32) &&& 31).toUInt32).toInt32))])) (fun t k => XS.iushr X0.here hx rfl (hb hby d15_6) rfl k) ?_
  refine own_step (T' := s₁) (f' := (mkF m 8 #[.val (.ref a1), .val (.int (2 : Int32))] [(.int ((((0 : Int32).toUInt32 >>> ((31 : Int32) &&& 31).toUInt32).toInt32).toInt8.toInt32))])) (fun t k => XS.i2b X0.here hx rfl (hb hby d15_7) rfl k) ?_
  exact own_retN X0 hx hlk (t := .byte) Bd.returns (by simp) (hb hby d15_8) (by decide) (by decide) ⟨by decide, N0, e0⟩

theorem ef_rm3_2 (m : MethodId) (x0 : Addr) (x1 : Addr) (x2 : Int32) (x3 : Int32) : entryFrame m #[(.ref x0), (.ref x1), (.int x2), (.int x3), .null] 6 = mkF m 0 #[.val (.ref x0), .val (.ref x1), .val (.int x2), .val (.int x3), .val .null, .unset] [] := by first | (simp [entryFrame, mkF, argsToLocals, Value.category]; done) | rfl
set_option maxRecDepth 65536 in
set_option maxHeartbeats 40000000 in
theorem rm3_2 (l : Launch) (Z : State) (a0 : Array Value) (hw : ∀ d ∈ tables_1, d.before a0 Z = true) (ws : List Jvm.Cond) (a1 : Addr) (a2 : Addr) (h0 : Heap) (n0 : Nat) (Z0 : n0 ≤ h0.size) (E_a1 : Exa Z h0 a1 "java/lang/String") (F_value_a1 : Fld Z h0 a1 "java/lang/String" "value" "[B" .null) (F_coder_a1 : Fld Z h0 a1 "java/lang/String" "coder" "B" (.int (0 : Int32))) (g_a1 : n0 ≤ a1) (kc : ClassId) (c0 c1 : Int32) (hC0 : OwnC c0) (hC1 : OwnC c1) (V_a2 : Arv Z h0 a2 kc .char (2 : Int32) [(.int c0), (.int c1)] (.int (0 : Int32))) (cs : Int32) (S_CS : Sta Z h0 "java/lang/String" "COMPACT_STRINGS" "Z" (.int cs)) (hcs : ¬ cs = (0 : Int32)) (n12 : a1 ≠ a2) :
    MetFree l (⟨"java/lang/String", "<init>", "([CIILjava/lang/Void;)V"⟩ : MethodName) (head1 (Jvm.Cond.code (⟨"java/lang/String", "<init>", "([CIILjava/lang/Void;)V"⟩ : MethodName) jdk_42_method_149_code 6 none :: ws) ({ frames := 2, cells := 1, slots := 2, locals := 36 } : Room)) (fun a U => a = #[(.ref a1), (.ref a2), (.int (0 : Int32)), (.int (2 : Int32)), .null] ∧ Z.Warmed39 U.vm ∧ U.heap = h0) (fun _ _ _ _ _ => True) (fun _ U o U' => ∃ v L, o = .returned v ∧ Q3_2 Z a1 c0 c1 h0 n0 v U'.heap L ∧ FrameEnd U o U' L ({ frames := 2, cells := 1, slots := 2, locals := 36 } : Room).cells ({ frames := 2, cells := 1, slots := 2, locals := 36 } : Room).slots) := by
  refine MetFree.of_bodySF (plainFor_of_name pn_3) hisR ?_
  intro p e s m args below meth c s₁ Bd hml0 hP hK
  obtain ⟨rfl, hZ, hh⟩ := hP
  have hx := Bd.exec
  have hby := Bd.bytes
  have hlk : meth.locks = false := BodyLoose.notSynchronized Bd
  have hml : c.maxLocals = 6 := hml0
  have hown : s.vm.findClass "java/lang/String" = some m.cls := findClass_of_methodNamed Bd.named
  have hnm := (name_of_methodNamed Bd.named Bd.method).1
  have X0 : Stand p l e ({ frames := 2, cells := 1, slots := 2, locals := 36 } : Room) s m #[(.ref a1), (.ref a2), (.int (0 : Int32)), (.int (2 : Int32)), .null] below meth c s₁ [] 0 0 := Stand.of_body Bd
  have e0 : s₁.heap = h0 := by rw [← hh, Bd.state]; rfl
  have N0 := Fr.nil n0
  have Zz := Z0
  have Kp : Keep h0 h0 [a1] := Keep.refl _ _
  show OwnEnds p e below s (Q3_2 Z a1 c0 c1 h0 n0) ({ frames := 2, cells := 1, slots := 2, locals := 36 } : Room).cells ({ frames := 2, cells := 1, slots := 2, locals := 36 } : Room).slots s₁ (entryFrame m #[(.ref a1), (.ref a2), (.int (0 : Int32)), (.int (2 : Int32)), .null] 6)
  refine own_step (T' := s₁) (f' := (mkF m 0 #[.val (.ref a1), .val (.ref a2), .val (.int (0 : Int32)), .val (.int (2 : Int32)), .val .null, .unset] [])) (fun t k => castTop (ef_rm3_2 m a1 a2 (0 : Int32) (2 : Int32)) k) ?_
  refine own_step (T' := s₁) (f' := (mkF m 1 #[.val (.ref a1), .val (.ref a2), .val (.int (0 : Int32)), .val (.int (2 : Int32)), .val .null, .unset] [(.ref a1)])) (fun t k => XS.aloadN X0.here hx rfl (hb hby d3_0) rfl rfl k) ?_
  obtain ⟨T1, X1, e1, st1⟩ := initO X0 hx hZ hown (own_w hw 19 rfl) (own_w hw 20 rfl) (own_w hw 21 rfl) e0 (g := (mkF m 1 #[.val (.ref a1), .val (.ref a2), .val (.int (0 : Int32)), .val (.int (2 : Int32)), .val .null, .unset] [(.ref a1)])) rfl (by rw [hml]; rfl) rfl (hb hby d3_1) (by decide) (W := 0) (by show 2 * 0 + _ ≤ _; exact Nat.le_of_eq rfl) (by decide)
  refine own_step (T' := T1) (f' := (mkF m 4 #[.val (.ref a1), .val (.ref a2), .val (.int (0 : Int32)), .val (.int (2 : Int32)), .val .null, .unset] [])) (fun t k => st1 t k) ?_
  refine own_step (T' := T1) (f' := (mkF m 5 #[.val (.ref a1), .val (.ref a2), .val (.int (0 : Int32)), .val (.int (2 : Int32)), .val .null, .unset] [(.int (2 : Int32))])) (fun t k => XS.iloadN X1.here hx rfl (hb hby d3_4) rfl k) ?_
  refine own_step (T' := T1) (f' := (mkF m 27 #[.val (.ref a1), .val (.ref a2), .val (.int (0 : Int32)), .val (.int (2 : Int32)), .val .null, .unset] [])) (fun t k => XS.ifYes X1.here hx rfl (pc0 := 5) (pc' := 27) rfl (hb hby d3_5) rfl ((if0 _ _).trans (feq (by decide : ¬ ((2 : Int32) = (0 : Int32)))).2) (by decide) (by decide) k) ?_
  obtain ⟨T2, X2, e2, st2⟩ := getS2 X1 hx hZ hown (host := "") (Or.inl (own_w hw 58 rfl)) Via.refl e1 S_CS (g := (mkF m 27 #[.val (.ref a1), .val (.ref a2), .val (.int (0 : Int32)), .val (.int (2 : Int32)), .val .null, .unset] [])) rfl (hb hby d3_27)
  refine own_step (T' := T2) (f' := (mkF m 30 #[.val (.ref a1), .val (.ref a2), .val (.int (0 : Int32)), .val (.int (2 : Int32)), .val .null, .unset] [(.int cs)])) (fun t k => st2 t k) ?_
  refine own_step (T' := T2) (f' := (mkF m 33 #[.val (.ref a1), .val (.ref a2), .val (.int (0 : Int32)), .val (.int (2 : Int32)), .val .null, .unset] [])) (fun t k => XS.ifNo X2.here hx rfl (hb hby d3_30) rfl ((if0 _ _).trans (feq hcs).1) k) ?_
  refine own_step (T' := T2) (f' := (mkF m 34 #[.val (.ref a1), .val (.ref a2), .val (.int (0 : Int32)), .val (.int (2 : Int32)), .val .null, .unset] [(.ref a2)])) (fun t k => XS.aloadN X2.here hx rfl (hb hby d3_33) rfl rfl k) ?_
  refine own_step (T' := T2) (f' := (mkF m 35 #[.val (.ref a1), .val (.ref a2), .val (.int (0 : Int32)), .val (.int (2 : Int32)), .val .null, .unset] [(.int (0 : Int32)), (.ref a2)])) (fun t k => XS.iloadN X2.here hx rfl (hb hby d3_34) rfl k) ?_
  refine own_step (T' := T2) (f' := (mkF m 36 #[.val (.ref a1), .val (.ref a2), .val (.int (0 : Int32)), .val (.int (2 : Int32)), .val .null, .unset] [(.int (2 : Int32)), (.int (0 : Int32)), (.ref a2)])) (fun t k => XS.iloadN X2.here hx rfl (hb hby d3_35) rfl k) ?_
  obtain ⟨_, _, ⟨T3, L3, k3, n3⟩, -, X3, ⟨Lc3, hQ3, l3, y3, z3⟩, st3⟩ := Jvm.LawKit.callS X2 hx (y := (⟨"java/lang/StringUTF16", "compress", "([CII)[B"⟩ : MethodName)) hown (mvT hZ (own_w hw 98 rfl)) (mvT hZ (own_w hw 99 rfl)) (mvT hZ (own_w hw 100 rfl)) (mvT hZ (own_w hw 101 rfl)) (by decide) (backOf (W := 0) (rm13_2 l Z a0 hw [] a2 h0 n0 Zz kc c0 c1 hC0 hC1 V_a2) hZ (own_w hw 101 rfl) (own_w hw 100 rfl) (by decide) (by decide)) (g := (mkF m 36 #[.val (.ref a1), .val (.ref a2), .val (.int (0 : Int32)), .val (.int (2 : Int32)), .val .null, .unset] [(.int (2 : Int32)), (.int (0 : Int32)), (.ref a2)])) rfl (by rw [hml]; rfl) (argsL := [(.ref a2), (.int (0 : Int32)), (.int (2 : Int32))]) (rest := []) (lenOf pd_3_0 rfl) rfl (by show 2 * 0 + _ ≤ _; exact Nat.le_of_eq rfl) (hb hby d3_36) (fun _ _ => ⟨rfl, e2, (by decide : 0 + 1 ≤ _), (by decide : 0 + 2 ≤ _)⟩)
  dsimp only [Pt.U, Pt.locs, Pt.cells, Pt.slots] at X3 l3 y3 z3 st3 hQ3
  subst l3 y3 z3
  obtain ⟨rb3, rk3, rfl, N3q, K3, zz3, Vr3, Er3⟩ := hQ3
  have N3 := Fr.app N0 N3q
  have ne_a1_rb3 : a1 ≠ rb3 := Nat.ne_of_lt (Nat.lt_of_lt_of_le E_a1.lt zz3)
  have ne_a2_rb3 : a2 ≠ rb3 := Nat.ne_of_lt (Nat.lt_of_lt_of_le V_a2.lt zz3)
  replace S_CS := own_sta_keep S_CS K3 all0
  replace E_a1 := E_a1.keep K3
  replace F_value_a1 := F_value_a1.keep K3 nin0
  replace F_coder_a1 := F_coder_a1.keep K3 nin0
  replace V_a2 := V_a2.keep K3 nin0
  replace Zz := Nat.le_trans Zz K3.1
  replace Kp := Kp.trans K3 all0
  refine own_step (T' := T3) (f' := (mkF m 39 #[.val (.ref a1), .val (.ref a2), .val (.int (0 : Int32)), .val (.int (2 : Int32)), .val .null, .unset] [(.ref rb3)])) (fun t k => st3 t k) ?_
  refine own_step (T' := T3) (f' := (mkF m 41 #[.val (.ref a1), .val (.ref a2), .val (.int (0 : Int32)), .val (.int (2 : Int32)), .val .null, .val (.ref rb3)] [])) (fun t k => XS.astore X3.here hx rfl (hb hby d3_39) rfl rfl (l' := #[.val (.ref a1), .val (.ref a2), .val (.int (0 : Int32)), .val (.int (2 : Int32)), .val .null, .val (.ref rb3)]) rfl k) ?_
  refine own_step (T' := T3) (f' := (mkF m 42 #[.val (.ref a1), .val (.ref a2), .val (.int (0 : Int32)), .val (.int (2 : Int32)), .val .null, .val (.ref rb3)] [(.ref a1)])) (fun t k => XS.aloadN X3.here hx rfl (hb hby d3_41) rfl rfl k) ?_
  refine own_step (T' := T3) (f' := (mkF m 44 #[.val (.ref a1), .val (.ref a2), .val (.int (0 : Int32)), .val (.int (2 : Int32)), .val .null, .val (.ref rb3)] [(.ref rb3), (.ref a1)])) (fun t k => XS.aload X3.here hx rfl (hb hby d3_42) rfl rfl k) ?_
  refine own_step (T' := T3) (f' := (mkF m 45 #[.val (.ref a1), .val (.ref a2), .val (.int (0 : Int32)), .val (.int (2 : Int32)), .val .null, .val (.ref rb3)] [(.int (2 : Int32)), (.ref rb3), (.ref a1)])) (fun t k => XS.iloadN X3.here hx rfl (hb hby d3_44) rfl k) ?_
  obtain ⟨_, _, ⟨T4, L4, k4, n4⟩, -, X4, ⟨Lc4, hQ4, l4, y4, z4⟩, st4⟩ := Jvm.LawKit.callS X3 hx (y := (⟨"java/lang/StringUTF16", "coderFromArrayLen", "([BI)B"⟩ : MethodName)) hown (mvT hZ (own_w hw 105 rfl)) (mvT hZ (own_w hw 106 rfl)) (mvT hZ (own_w hw 100 rfl)) (mvT hZ (own_w hw 107 rfl)) (by decide) (backOf (W := 1) (rm15_2 l Z a0 hw [] rb3 T3.heap n0 Zz rk3 c0 c1 Vr3) hZ (own_w hw 107 rfl) (own_w hw 100 rfl) (by decide) (by decide)) (g := (mkF m 45 #[.val (.ref a1), .val (.ref a2), .val (.int (0 : Int32)), .val (.int (2 : Int32)), .val .null, .val (.ref rb3)] [(.int (2 : Int32)), (.ref rb3), (.ref a1)])) rfl (by rw [hml]; rfl) (argsL := [(.ref rb3), (.int (2 : Int32))]) (rest := [(.ref a1)]) (lenOf pd_3_1 rfl) rfl (by show 2 * 0 + _ ≤ _; exact Nat.le_of_eq rfl) (hb hby d3_45) (fun _ _ => ⟨rfl, rfl, (by decide : 1 + 0 ≤ _), (by decide : 2 + 0 ≤ _)⟩)
  dsimp only [Pt.U, Pt.locs, Pt.cells, Pt.slots] at X4 l4 y4 z4 st4 hQ4
  subst l4 y4 z4
  obtain ⟨rfl, N4q, E4⟩ := hQ4
  have N4 := Fr.app N3 N4q
  refine own_step (T' := T4) (f' := (mkF m 48 #[.val (.ref a1), .val (.ref a2), .val (.int (0 : Int32)), .val (.int (2 : Int32)), .val .null, .val (.ref rb3)] [(.int (0 : Int32)), (.ref a1)])) (fun t k => st4 t k) ?_
  obtain ⟨T5, h5, X5, e5, W5, st5⟩ := putFN X4 hx hZ hown (own_w hw 29 rfl) Via.refl E4 F_coder_a1 E_a1 (Or.inr ⟨(own_w hw 25 rfl), rfl, hnm⟩) (own_w hw 10 rfl) (ty := .byte) (v' := (.int (0 : Int32))) (by decide) rfl (by decide) (g := (mkF m 48 #[.val (.ref a1), .val (.ref a2), .val (.int (0 : Int32)), .val (.int (2 : Int32)), .val .null, .val (.ref rb3)] [(.int (0 : Int32)), (.ref a1)])) rfl rfl (hb hby d3_48)
  replace E_a1 := E_a1.wr W5
  replace F_value_a1 := F_value_a1.other W5 (Or.inr (Jvm.RoadKit.slot_ne (Or.inr (own_w hw 24 rfl)) (Or.inr (own_w hw 25 rfl)) (by decide) (t := (.array .byte)) (t' := .byte) (by decide) (by decide)))
  replace F_coder_a1 := F_coder_a1.same W5
  replace V_a2 := V_a2.other W5 (Ne.symm n12)
  replace S_CS := S_CS.wr W5
  replace Vr3 := Vr3.other W5 (Ne.symm ne_a1_rb3)
  replace Er3 := Er3.wr W5
  replace Zz := Nat.le_trans Zz (Keep.of_wr W5).1
  replace Kp := Kp.wr W5 (Or.inl (List.mem_of_getElem? (i := 0) rfl))
  have N5 := Fr.snoc X5 N4 g_a1
  refine own_step (T' := T5) (f' := (mkF m 51 #[.val (.ref a1), .val (.ref a2), .val (.int (0 : Int32)), .val (.int (2 : Int32)), .val .null, .val (.ref rb3)] [])) (fun t k => st5 t k) ?_
  refine own_step (T' := T5) (f' := (mkF m 52 #[.val (.ref a1), .val (.ref a2), .val (.int (0 : Int32)), .val (.int (2 : Int32)), .val .null, .val (.ref rb3)] [(.ref a1)])) (fun t k => XS.aloadN X5.here hx rfl (hb hby d3_51) rfl rfl k) ?_
  refine own_step (T' := T5) (f' := (mkF m 54 #[.val (.ref a1), .val (.ref a2), .val (.int (0 : Int32)), .val (.int (2 : Int32)), .val .null, .val (.ref rb3)] [(.ref rb3), (.ref a1)])) (fun t k => XS.aload X5.here hx rfl (hb hby d3_52) rfl rfl k) ?_
  obtain ⟨T6, h6, X6, e6, W6, st6⟩ := putF X5 hx hZ hown (host := "") (Or.inl (own_w hw 28 rfl)) Via.refl e5 F_value_a1 E_a1 (Or.inr ⟨(own_w hw 24 rfl), rfl, hnm⟩) (own_w hw 10 rfl) (ty := (.array .byte)) (by decide) rfl rfl (g := (mkF m 54 #[.val (.ref a1), .val (.ref a2), .val (.int (0 : Int32)), .val (.int (2 : Int32)), .val .null, .val (.ref rb3)] [(.ref rb3), (.ref a1)])) rfl rfl (hb hby d3_54)
  replace E_a1 := E_a1.wr W6
  replace F_value_a1 := F_value_a1.same W6
  replace F_coder_a1 := F_coder_a1.other W6 (Or.inr (Jvm.RoadKit.slot_ne (Or.inr (own_w hw 25 rfl)) (Or.inr (own_w hw 24 rfl)) (by decide) (t := .byte) (t' := (.array .byte)) (by decide) (by decide)))
  replace V_a2 := V_a2.other W6 (Ne.symm n12)
  replace S_CS := S_CS.wr W6
  replace Vr3 := Vr3.other W6 (Ne.symm ne_a1_rb3)
  replace Er3 := Er3.wr W6
  replace Zz := Nat.le_trans Zz (Keep.of_wr W6).1
  replace Kp := Kp.wr W6 (Or.inl (List.mem_of_getElem? (i := 0) rfl))
  have N6 := Fr.snoc X6 N5 g_a1
  refine own_step (T' := T6) (f' := (mkF m 57 #[.val (.ref a1), .val (.ref a2), .val (.int (0 : Int32)), .val (.int (2 : Int32)), .val .null, .val (.ref rb3)] [])) (fun t k => st6 t k) ?_
  exact own_retV X6 hx hlk Bd.returns (hb hby d3_57) (by decide) (by decide) (by rw [e6]; exact ⟨rfl, N6, Kp, rb3, rk3, E_a1, F_coder_a1, F_value_a1, Vr3, Er3⟩)

theorem ef_rm2_2 (m : MethodId) (x0 : Addr) (x1 : Addr) : entryFrame m #[(.ref x0), (.ref x1)] 2 = mkF m 0 #[.val (.ref x0), .val (.ref x1)] [] := by first | (simp [entryFrame, mkF, argsToLocals, Value.category]; done) | rfl
set_option maxRecDepth 65536 in
set_option maxHeartbeats 40000000 in
theorem rm2_2 (l : Launch) (Z : State) (a0 : Array Value) (hw : ∀ d ∈ tables_1, d.before a0 Z = true) (ws : List Jvm.Cond) (a1 : Addr) (a2 : Addr) (h0 : Heap) (n0 : Nat) (Z0 : n0 ≤ h0.size) (E_a1 : Exa Z h0 a1 "java/lang/String") (F_value_a1 : Fld Z h0 a1 "java/lang/String" "value" "[B" .null) (F_coder_a1 : Fld Z h0 a1 "java/lang/String" "coder" "B" (.int (0 : Int32))) (g_a1 : n0 ≤ a1) (kc : ClassId) (c0 c1 : Int32) (hC0 : OwnC c0) (hC1 : OwnC c1) (V_a2 : Arv Z h0 a2 kc .char (2 : Int32) [(.int c0), (.int c1)] (.int (0 : Int32))) (cs : Int32) (S_CS : Sta Z h0 "java/lang/String" "COMPACT_STRINGS" "Z" (.int cs)) (hcs : ¬ cs = (0 : Int32)) (n12 : a1 ≠ a2) :
    MetFree l (⟨"java/lang/String", "<init>", "([C)V"⟩ : MethodName) (head1 (Jvm.Cond.code (⟨"java/lang/String", "<init>", "([C)V"⟩ : MethodName) jdk_42_method_3_code 2 none :: ws) ({ frames := 3, cells := 1, slots := 2, locals := 54 } : Room)) (fun a U => a = #[(.ref a1), (.ref a2)] ∧ Z.Warmed39 U.vm ∧ U.heap = h0) (fun _ _ _ _ _ => True) (fun _ U o U' => ∃ v L, o = .returned v ∧ Q3_2 Z a1 c0 c1 h0 n0 v U'.heap L ∧ FrameEnd U o U' L ({ frames := 3, cells := 1, slots := 2, locals := 54 } : Room).cells ({ frames := 3, cells := 1, slots := 2, locals := 54 } : Room).slots) := by
  refine MetFree.of_bodySF (plainFor_of_name pn_2) hisR ?_
  intro p e s m args below meth c s₁ Bd hml0 hP hK
  obtain ⟨rfl, hZ, hh⟩ := hP
  have hx := Bd.exec
  have hby := Bd.bytes
  have hlk : meth.locks = false := BodyLoose.notSynchronized Bd
  have hml : c.maxLocals = 2 := hml0
  have hown : s.vm.findClass "java/lang/String" = some m.cls := findClass_of_methodNamed Bd.named
  have hnm := (name_of_methodNamed Bd.named Bd.method).1
  have X0 : Stand p l e ({ frames := 3, cells := 1, slots := 2, locals := 54 } : Room) s m #[(.ref a1), (.ref a2)] below meth c s₁ [] 0 0 := Stand.of_body Bd
  have e0 : s₁.heap = h0 := by rw [← hh, Bd.state]; rfl
  have N0 := Fr.nil n0
  have Zz := Z0
  have Kp : Keep h0 h0 [] := Keep.refl _ _
  show OwnEnds p e below s (Q3_2 Z a1 c0 c1 h0 n0) ({ frames := 3, cells := 1, slots := 2, locals := 54 } : Room).cells ({ frames := 3, cells := 1, slots := 2, locals := 54 } : Room).slots s₁ (entryFrame m #[(.ref a1), (.ref a2)] 2)
  refine own_step (T' := s₁) (f' := (mkF m 0 #[.val (.ref a1), .val (.ref a2)] [])) (fun t k => castTop (ef_rm2_2 m a1 a2) k) ?_
  refine own_step (T' := s₁) (f' := (mkF m 1 #[.val (.ref a1), .val (.ref a2)] [(.ref a1)])) (fun t k => XS.aloadN X0.here hx rfl (hb hby d2_0) rfl rfl k) ?_
  refine own_step (T' := s₁) (f' := (mkF m 2 #[.val (.ref a1), .val (.ref a2)] [(.ref a2), (.ref a1)])) (fun t k => XS.aloadN X0.here hx rfl (hb hby d2_1) rfl rfl k) ?_
  refine own_step (T' := s₁) (f' := (mkF m 3 #[.val (.ref a1), .val (.ref a2)] [(.int (0 : Int32)), (.ref a2), (.ref a1)])) (fun t k => XS.iconst X0.here hx rfl (hb hby d2_2) k) ?_
  refine own_step (T' := s₁) (f' := (mkF m 4 #[.val (.ref a1), .val (.ref a2)] [(.ref a2), (.int (0 : Int32)), (.ref a2), (.ref a1)])) (fun t k => XS.aloadN X0.here hx rfl (hb hby d2_3) rfl rfl k) ?_
  obtain ⟨cl1, Ar1, q1, S1, M1, H1, G1⟩ := id V_a2
  refine own_step (T' := s₁) (f' := (mkF m 5 #[.val (.ref a1), .val (.ref a2)] [(.int (2 : Int32)), (.int (0 : Int32)), (.ref a2), (.ref a1)])) (fun t k => X0.arraylength hx (by rw [e0]; exact Ar1.1) (State.isArrayOf_alike hZ.alike Ar1.2.1) (g := (mkF m 4 #[.val (.ref a1), .val (.ref a2)] [(.ref a2), (.int (0 : Int32)), (.ref a2), (.ref a1)])) rfl rfl (hb hby d2_4) _ (by rw [len_of S1 M1]; exact k)) ?_
  refine own_step (T' := s₁) (f' := (mkF m 6 #[.val (.ref a1), .val (.ref a2)] [.null, (.int (2 : Int32)), (.int (0 : Int32)), (.ref a2), (.ref a1)])) (fun t k => XS.aconstNull X0.here hx rfl (hb hby d2_5) k) ?_
  obtain ⟨_, _, ⟨T2, L2, k2, n2⟩, -, X2, ⟨Lc2, hQ2, l2, y2, z2⟩, st2⟩ := X0.specialBack hx (y := (⟨"java/lang/String", "<init>", "([CIILjava/lang/Void;)V"⟩ : MethodName)) rfl hown (mvT hZ (own_w hw 15 rfl)) (mvT hZ (own_w hw 16 rfl)) (mvT hZ (own_w hw 18 rfl)) (by decide) (backOf (W := 0) (rm3_2 l Z a0 hw [] a1 a2 h0 n0 Zz E_a1 F_value_a1 F_coder_a1 g_a1 kc c0 c1 hC0 hC1 V_a2 cs S_CS hcs n12) hZ (own_w hw 18 rfl) (own_w hw 11 rfl) (by decide) (by decide)) (g := (mkF m 6 #[.val (.ref a1), .val (.ref a2)] [.null, (.int (2 : Int32)), (.int (0 : Int32)), (.ref a2), (.ref a1)])) rfl (by rw [hml]; rfl) (Steps.refl _) (a := a1) (argsL := [(.ref a2), (.int (0 : Int32)), (.int (2 : Int32)), .null]) (rest := []) (lenOf pd_2_0 rfl) rfl (by show 2 * 0 + _ ≤ _; exact Nat.le_of_eq rfl) (hb hby d2_6) (fun _ _ => ⟨rfl, e0, (by decide : 0 + 1 ≤ _), (by decide : 0 + 2 ≤ _)⟩)
  dsimp only [Pt.U, Pt.locs, Pt.cells, Pt.slots] at X2 l2 y2 z2 st2 hQ2
  subst l2 y2 z2
  obtain ⟨rfl, N2q, K2, Ow2⟩ := hQ2
  have N2 := Fr.app N0 N2q
  refine own_step (T' := T2) (f' := (mkF m 9 #[.val (.ref a1), .val (.ref a2)] [])) (fun t k => st2.trans k) ?_
  exact own_retV X2 hx hlk Bd.returns (hb hby d2_9) (by decide) (by decide) ⟨rfl, N2, K2, Ow2⟩

theorem ef_rm12_3 (m : MethodId) (x0 : Addr) : entryFrame m #[(.ref x0)] 2 = mkF m 0 #[.val (.ref x0), .unset] [] := by first | (simp [entryFrame, mkF, argsToLocals, Value.category]; done) | rfl
set_option maxRecDepth 65536 in
set_option maxHeartbeats 40000000 in
theorem rm12_3 (l : Launch) (Z : State) (a0 : Array Value) (hw : ∀ d ∈ tables_1, d.before a0 Z = true) (ws : List Jvm.Cond) (a1 : Addr) (h0 : Heap) (n0 : Nat) (Z0 : n0 ≤ h0.size) (y0 y1 y2 : Int32) (b : Addr) (kb : ClassId) (F_s : Fld Z h0 a1 "com/example/lit2/lit2/input/Line" "start" "I" (.int (0 : Int32))) (F_e : Fld Z h0 a1 "com/example/lit2/lit2/input/Line" "end" "I" (.int (3 : Int32))) (F_ch : Fld Z h0 a1 "com/example/lit2/lit2/input/Line" "characters" "[B" (.ref b)) (V_b : Arv Z h0 b kb .byte (3 : Int32) [(.int y0), (.int y1), (.int y2)] (.int (0 : Int32))) :
    MetFree l (⟨"com/example/lit2/lit2/input/Line", "beginsSection", "()Z"⟩ : MethodName) (head1 (Jvm.Cond.code (⟨"com/example/lit2/lit2/input/Line", "beginsSection", "()Z"⟩ : MethodName) prog_18_method_9_code 2 (some .boolean) :: ws) ({ frames := 0, cells := 0, slots := 0, locals := 0 } : Room)) (fun a U => a = #[(.ref a1)] ∧ Z.Warmed39 U.vm ∧ U.heap = h0) (fun _ _ _ _ _ => True) (fun _ U o U' => ∃ v L, o = .returned v ∧ QI (own_bs [y0, y1, y2]) h0 n0 v U'.heap L ∧ FrameEnd U o U' L ({ frames := 0, cells := 0, slots := 0, locals := 0 } : Room).cells ({ frames := 0, cells := 0, slots := 0, locals := 0 } : Room).slots) := by
  refine MetFree.of_bodySF (plainFor_of_name pn_12) hisR ?_
  intro p e s m args below meth c s₁ Bd hml0 hP hK
  obtain ⟨rfl, hZ, hh⟩ := hP
  have hx := Bd.exec
  have hby := Bd.bytes
  have hlk : meth.locks = false := BodyLoose.notSynchronized Bd
  have hml : c.maxLocals = 2 := hml0
  have hown : s.vm.findClass "com/example/lit2/lit2/input/Line" = some m.cls := findClass_of_methodNamed Bd.named
  have hnm := (name_of_methodNamed Bd.named Bd.method).1
  have X0 : Stand p l e ({ frames := 0, cells := 0, slots := 0, locals := 0 } : Room) s m #[(.ref a1)] below meth c s₁ [] 0 0 := Stand.of_body Bd
  have e0 : s₁.heap = h0 := by rw [← hh, Bd.state]; rfl
  have N0 := Fr.nil n0
  have Zz := Z0
  have Kp : Keep h0 h0 [] := Keep.refl _ _
  show OwnEnds p e below s (QI (own_bs [y0, y1, y2]) h0 n0) ({ frames := 0, cells := 0, slots := 0, locals := 0 } : Room).cells ({ frames := 0, cells := 0, slots := 0, locals := 0 } : Room).slots s₁ (entryFrame m #[(.ref a1)] 2)
  refine own_step (T' := s₁) (f' := (mkF m 0 #[.val (.ref a1), .unset] [])) (fun t k => castTop (ef_rm12_3 m a1) k) ?_
  refine own_step (T' := s₁) (f' := (mkF m 1 #[.val (.ref a1), .unset] [(.ref a1)])) (fun t k => XS.aloadN X0.here hx rfl (hb hby d12_0) rfl rfl k) ?_
  obtain ⟨T1, X1, e1, st1⟩ := getF X0 hx hZ hown (host := "") (Or.inl (own_w hw 83 rfl)) Via.refl e0 F_s (g := (mkF m 1 #[.val (.ref a1), .unset] [(.ref a1)])) rfl rfl (hb hby d12_1)
  refine own_step (T' := T1) (f' := (mkF m 4 #[.val (.ref a1), .unset] [(.int (0 : Int32))])) (fun t k => st1 t k) ?_
  refine own_step (T' := T1) (f' := (mkF m 5 #[.val (.ref a1), .val (.int (0 : Int32))] [])) (fun t k => XS.istoreN X1.here hx rfl (hb hby d12_4) rfl (l' := #[.val (.ref a1), .val (.int (0 : Int32))]) rfl k) ?_
  have J5_2 : ∀ (T_2 : State) (l_2 : List Loc) (X_2 : Stand p l e ({ frames := 0, cells := 0, slots := 0, locals := 0 } : Room) s m #[(.ref a1)] below meth c T_2 l_2 0 0) (e_2 : T_2.heap = h0) (N_2 : Fr n0 l_2) (hb1 : own_bs [y0, y1, y2] = own_bs [y1, y2]), OwnEnds p e below s (QI (own_bs [y0, y1, y2]) h0 n0) ({ frames := 0, cells := 0, slots := 0, locals := 0 } : Room).cells ({ frames := 0, cells := 0, slots := 0, locals := 0 } : Room).slots T_2 (mkF m 5 #[.val (.ref a1), .val (.int (1 : Int32))] []) := by
    intro T_2 l_2 X_2 e_2 N_2 hb1
    have J5_3 : ∀ (T_3 : State) (l_3 : List Loc) (X_3 : Stand p l e ({ frames := 0, cells := 0, slots := 0, locals := 0 } : Room) s m #[(.ref a1)] below meth c T_3 l_3 0 0) (e_3 : T_3.heap = h0) (N_3 : Fr n0 l_3) (hb2 : own_bs [y0, y1, y2] = own_bs [y2]), OwnEnds p e below s (QI (own_bs [y0, y1, y2]) h0 n0) ({ frames := 0, cells := 0, slots := 0, locals := 0 } : Room).cells ({ frames := 0, cells := 0, slots := 0, locals := 0 } : Room).slots T_3 (mkF m 5 #[.val (.ref a1), .val (.int (2 : Int32))] []) := by
      intro T_3 l_3 X_3 e_3 N_3 hb2
      have J5_4 : ∀ (T_4 : State) (l_4 : List Loc) (X_4 : Stand p l e ({ frames := 0, cells := 0, slots := 0, locals := 0 } : Room) s m #[(.ref a1)] below meth c T_4 l_4 0 0) (e_4 : T_4.heap = h0) (N_4 : Fr n0 l_4) (hb3 : own_bs [y0, y1, y2] = own_bs []), OwnEnds p e below s (QI (own_bs [y0, y1, y2]) h0 n0) ({ frames := 0, cells := 0, slots := 0, locals := 0 } : Room).cells ({ frames := 0, cells := 0, slots := 0, locals := 0 } : Room).slots T_4 (mkF m 5 #[.val (.ref a1), .val (.int (3 : Int32))] []) := by
        intro T_4 l_4 X_4 e_4 N_4 hb3
        refine own_step (T' := T_4) (f' := (mkF m 6 #[.val (.ref a1), .val (.int (3 : Int32))] [(.int (3 : Int32))])) (fun t k => XS.iloadN X_4.here hx rfl (hb hby d12_5) rfl k) ?_
        refine own_step (T' := T_4) (f' := (mkF m 7 #[.val (.ref a1), .val (.int (3 : Int32))] [(.ref a1), (.int (3 : Int32))])) (fun t k => XS.aloadN X_4.here hx rfl (hb hby d12_6) rfl rfl k) ?_
        obtain ⟨T5, X5, e5, st5⟩ := getF X_4 hx hZ hown (host := "") (Or.inl (own_w hw 85 rfl)) Via.refl e_4 F_e (g := (mkF m 7 #[.val (.ref a1), .val (.int (3 : Int32))] [(.ref a1), (.int (3 : Int32))])) rfl rfl (hb hby d12_7)
        refine own_step (T' := T5) (f' := (mkF m 10 #[.val (.ref a1), .val (.int (3 : Int32))] [(.int (3 : Int32)), (.int (3 : Int32))])) (fun t k => st5 t k) ?_
        refine own_step (T' := T5) (f' := (mkF m 41 #[.val (.ref a1), .val (.int (3 : Int32))] [])) (fun t k => XS.icmpYes X5.here hx rfl (pc0 := 10) (pc' := 41) rfl (hb hby d12_10) rfl (flt (by decide : ¬ ((3 : Int32) < (3 : Int32)))).2.1 (by decide) (by decide) k) ?_
        refine own_step (T' := T5) (f' := (mkF m 42 #[.val (.ref a1), .val (.int (3 : Int32))] [(.int (3 : Int32))])) (fun t k => XS.iloadN X5.here hx rfl (hb hby d12_41) rfl k) ?_
        refine own_step (T' := T5) (f' := (mkF m 43 #[.val (.ref a1), .val (.int (3 : Int32))] [(.ref a1), (.int (3 : Int32))])) (fun t k => XS.aloadN X5.here hx rfl (hb hby d12_42) rfl rfl k) ?_
        obtain ⟨T6, X6, e6, st6⟩ := getF X5 hx hZ hown (host := "") (Or.inl (own_w hw 85 rfl)) Via.refl e5 F_e (g := (mkF m 43 #[.val (.ref a1), .val (.int (3 : Int32))] [(.ref a1), (.int (3 : Int32))])) rfl rfl (hb hby d12_43)
        refine own_step (T' := T6) (f' := (mkF m 46 #[.val (.ref a1), .val (.int (3 : Int32))] [(.int (3 : Int32)), (.int (3 : Int32))])) (fun t k => st6 t k) ?_
        refine own_step (T' := T6) (f' := (mkF m 113 #[.val (.ref a1), .val (.int (3 : Int32))] [])) (fun t k => XS.icmpYes X6.here hx rfl (pc0 := 46) (pc' := 113) rfl (hb hby d12_46) rfl (flt (by decide : ¬ ((3 : Int32) < (3 : Int32)))).2.1 (by decide) (by decide) k) ?_
        refine own_step (T' := T6) (f' := (mkF m 114 #[.val (.ref a1), .val (.int (3 : Int32))] [(.int (0 : Int32))])) (fun t k => XS.iconst X6.here hx rfl (hb hby d12_113) k) ?_
        exact own_retN X6 hx hlk (t := .boolean) Bd.returns (by simp) (hb hby d12_114) (by decide) (by decide) ⟨by rw [show own_bs [y0, y1, y2] = (0 : Int32) from hb3]; rfl, N_4, e6⟩
      refine own_step (T' := T_3) (f' := (mkF m 6 #[.val (.ref a1), .val (.int (2 : Int32))] [(.int (2 : Int32))])) (fun t k => XS.iloadN X_3.here hx rfl (hb hby d12_5) rfl k) ?_
      refine own_step (T' := T_3) (f' := (mkF m 7 #[.val (.ref a1), .val (.int (2 : Int32))] [(.ref a1), (.int (2 : Int32))])) (fun t k => XS.aloadN X_3.here hx rfl (hb hby d12_6) rfl rfl k) ?_
      obtain ⟨T7, X7, e7, st7⟩ := getF X_3 hx hZ hown (host := "") (Or.inl (own_w hw 85 rfl)) Via.refl e_3 F_e (g := (mkF m 7 #[.val (.ref a1), .val (.int (2 : Int32))] [(.ref a1), (.int (2 : Int32))])) rfl rfl (hb hby d12_7)
      refine own_step (T' := T7) (f' := (mkF m 10 #[.val (.ref a1), .val (.int (2 : Int32))] [(.int (3 : Int32)), (.int (2 : Int32))])) (fun t k => st7 t k) ?_
      refine own_step (T' := T7) (f' := (mkF m 13 #[.val (.ref a1), .val (.int (2 : Int32))] [])) (fun t k => XS.icmpNo X7.here hx rfl (hb hby d12_10) rfl (tlt (by decide : (2 : Int32) < (3 : Int32))).2.1 k) ?_
      refine own_step (T' := T7) (f' := (mkF m 14 #[.val (.ref a1), .val (.int (2 : Int32))] [(.ref a1)])) (fun t k => XS.aloadN X7.here hx rfl (hb hby d12_13) rfl rfl k) ?_
      obtain ⟨T8, X8, e8, st8⟩ := getF X7 hx hZ hown (host := "") (Or.inl (own_w hw 81 rfl)) Via.refl e7 F_ch (g := (mkF m 14 #[.val (.ref a1), .val (.int (2 : Int32))] [(.ref a1)])) rfl rfl (hb hby d12_14)
      refine own_step (T' := T8) (f' := (mkF m 17 #[.val (.ref a1), .val (.int (2 : Int32))] [(.ref b)])) (fun t k => st8 t k) ?_
      refine own_step (T' := T8) (f' := (mkF m 18 #[.val (.ref a1), .val (.int (2 : Int32))] [(.int (2 : Int32)), (.ref b)])) (fun t k => XS.iloadN X8.here hx rfl (hb hby d12_17) rfl k) ?_
      obtain ⟨cl9, Ar9, q9, S9, M9, H9, G9⟩ := id V_b
      have hin9 : ¬ ((2 : Int32) < 0 ∨ cl9.slots.size ≤ ((2 : Int32)).toNatClampNeg) := inb_of S9 ⟨by decide, by decide⟩
      have hat9 : cl9.slots[((2 : Int32)).toNatClampNeg]? = some (.int y2) := own_at hin9 H9 2 rfl rfl
      refine own_step (T' := T8) (f' := (mkF m 19 #[.val (.ref a1), .val (.int (2 : Int32))] [(.int y2)])) (fun t k => X8.baloadBytes hx (j := (2 : Int32)) (v := (.int y2)) (by rw [e8]; exact Ar9.1) (State.isArrayOf_alike hZ.alike Ar9.2.1) Ar9.2.2 hin9 hat9 (g := (mkF m 18 #[.val (.ref a1), .val (.int (2 : Int32))] [(.int (2 : Int32)), (.ref b)])) rfl rfl (hb hby d12_18) _ k) ?_
      refine own_step (T' := T8) (f' := (mkF m 21 #[.val (.ref a1), .val (.int (2 : Int32))] [(.int (32 : Int32)), (.int y2)])) (fun t k => XS.bipush X8.here hx rfl (hb hby d12_19) k) ?_
      by_cases hc21_10 : y2 = (32 : Int32)
      · skip
        refine own_step (T' := T8) (f' := (mkF m 35 #[.val (.ref a1), .val (.int (2 : Int32))] [])) (fun t k => XS.icmpYes X8.here hx rfl (pc0 := 21) (pc' := 35) rfl (hb hby d12_21) rfl (teq hc21_10).1 (by decide) (by decide) k) ?_
        refine own_step (T' := T8) (f' := (mkF m 38 #[.val (.ref a1), .val (.int (3 : Int32))] [])) (fun t k => XS.iinc X8.here hx rfl (hb hby d12_35) rfl (l' := #[.val (.ref a1), .val (.int (3 : Int32))]) rfl k) ?_
        refine own_step (T' := T8) (f' := (mkF m 5 #[.val (.ref a1), .val (.int (3 : Int32))] [])) (fun t k => XS.goto X8.here hx rfl (pc0 := 38) (pc' := 5) rfl (hb hby d12_38) (by decide) (by decide) k) ?_
        exact J5_4 T8 _ X8 e8 N_3 (hb2.trans (own_bs32 hc21_10))
      · skip
        refine own_step (T' := T8) (f' := (mkF m 24 #[.val (.ref a1), .val (.int (2 : Int32))] [])) (fun t k => XS.icmpNo X8.here hx rfl (hb hby d12_21) rfl (feq hc21_10).1 k) ?_
        refine own_step (T' := T8) (f' := (mkF m 25 #[.val (.ref a1), .val (.int (2 : Int32))] [(.ref a1)])) (fun t k => XS.aloadN X8.here hx rfl (hb hby d12_24) rfl rfl k) ?_
        obtain ⟨T11, X11, e11, st11⟩ := getF X8 hx hZ hown (host := "") (Or.inl (own_w hw 81 rfl)) Via.refl e8 F_ch (g := (mkF m 25 #[.val (.ref a1), .val (.int (2 : Int32))] [(.ref a1)])) rfl rfl (hb hby d12_25)
        refine own_step (T' := T11) (f' := (mkF m 28 #[.val (.ref a1), .val (.int (2 : Int32))] [(.ref b)])) (fun t k => st11 t k) ?_
        refine own_step (T' := T11) (f' := (mkF m 29 #[.val (.ref a1), .val (.int (2 : Int32))] [(.int (2 : Int32)), (.ref b)])) (fun t k => XS.iloadN X11.here hx rfl (hb hby d12_28) rfl k) ?_
        obtain ⟨cl12, Ar12, q12, S12, M12, H12, G12⟩ := id V_b
        have hin12 : ¬ ((2 : Int32) < 0 ∨ cl12.slots.size ≤ ((2 : Int32)).toNatClampNeg) := inb_of S12 ⟨by decide, by decide⟩
        have hat12 : cl12.slots[((2 : Int32)).toNatClampNeg]? = some (.int y2) := own_at hin12 H12 2 rfl rfl
        refine own_step (T' := T11) (f' := (mkF m 30 #[.val (.ref a1), .val (.int (2 : Int32))] [(.int y2)])) (fun t k => X11.baloadBytes hx (j := (2 : Int32)) (v := (.int y2)) (by rw [e11]; exact Ar12.1) (State.isArrayOf_alike hZ.alike Ar12.2.1) Ar12.2.2 hin12 hat12 (g := (mkF m 29 #[.val (.ref a1), .val (.int (2 : Int32))] [(.int (2 : Int32)), (.ref b)])) rfl rfl (hb hby d12_29) _ k) ?_
        refine own_step (T' := T11) (f' := (mkF m 32 #[.val (.ref a1), .val (.int (2 : Int32))] [(.int (9 : Int32)), (.int y2)])) (fun t k => XS.bipush X11.here hx rfl (hb hby d12_30) k) ?_
        by_cases hc32_13 : y2 = (9 : Int32)
        · skip
          refine own_step (T' := T11) (f' := (mkF m 35 #[.val (.ref a1), .val (.int (2 : Int32))] [])) (fun t k => XS.icmpNo X11.here hx rfl (hb hby d12_32) rfl (teq hc32_13).2 k) ?_
          refine own_step (T' := T11) (f' := (mkF m 38 #[.val (.ref a1), .val (.int (3 : Int32))] [])) (fun t k => XS.iinc X11.here hx rfl (hb hby d12_35) rfl (l' := #[.val (.ref a1), .val (.int (3 : Int32))]) rfl k) ?_
          refine own_step (T' := T11) (f' := (mkF m 5 #[.val (.ref a1), .val (.int (3 : Int32))] [])) (fun t k => XS.goto X11.here hx rfl (pc0 := 38) (pc' := 5) rfl (hb hby d12_38) (by decide) (by decide) k) ?_
          exact J5_4 T11 _ X11 e11 N_3 (hb2.trans (own_bs9 hc32_13))
        · skip
          refine own_step (T' := T11) (f' := (mkF m 41 #[.val (.ref a1), .val (.int (2 : Int32))] [])) (fun t k => XS.icmpYes X11.here hx rfl (pc0 := 32) (pc' := 41) rfl (hb hby d12_32) rfl (feq hc32_13).2 (by decide) (by decide) k) ?_
          refine own_step (T' := T11) (f' := (mkF m 42 #[.val (.ref a1), .val (.int (2 : Int32))] [(.int (2 : Int32))])) (fun t k => XS.iloadN X11.here hx rfl (hb hby d12_41) rfl k) ?_
          refine own_step (T' := T11) (f' := (mkF m 43 #[.val (.ref a1), .val (.int (2 : Int32))] [(.ref a1), (.int (2 : Int32))])) (fun t k => XS.aloadN X11.here hx rfl (hb hby d12_42) rfl rfl k) ?_
          obtain ⟨T14, X14, e14, st14⟩ := getF X11 hx hZ hown (host := "") (Or.inl (own_w hw 85 rfl)) Via.refl e11 F_e (g := (mkF m 43 #[.val (.ref a1), .val (.int (2 : Int32))] [(.ref a1), (.int (2 : Int32))])) rfl rfl (hb hby d12_43)
          refine own_step (T' := T14) (f' := (mkF m 46 #[.val (.ref a1), .val (.int (2 : Int32))] [(.int (3 : Int32)), (.int (2 : Int32))])) (fun t k => st14 t k) ?_
          refine own_step (T' := T14) (f' := (mkF m 49 #[.val (.ref a1), .val (.int (2 : Int32))] [])) (fun t k => XS.icmpNo X14.here hx rfl (hb hby d12_46) rfl (tlt (by decide : (2 : Int32) < (3 : Int32))).2.1 k) ?_
          refine own_step (T' := T14) (f' := (mkF m 50 #[.val (.ref a1), .val (.int (2 : Int32))] [(.ref a1)])) (fun t k => XS.aloadN X14.here hx rfl (hb hby d12_49) rfl rfl k) ?_
          obtain ⟨T15, X15, e15, st15⟩ := getF X14 hx hZ hown (host := "") (Or.inl (own_w hw 81 rfl)) Via.refl e14 F_ch (g := (mkF m 50 #[.val (.ref a1), .val (.int (2 : Int32))] [(.ref a1)])) rfl rfl (hb hby d12_50)
          refine own_step (T' := T15) (f' := (mkF m 53 #[.val (.ref a1), .val (.int (2 : Int32))] [(.ref b)])) (fun t k => st15 t k) ?_
          refine own_step (T' := T15) (f' := (mkF m 54 #[.val (.ref a1), .val (.int (2 : Int32))] [(.int (2 : Int32)), (.ref b)])) (fun t k => XS.iloadN X15.here hx rfl (hb hby d12_53) rfl k) ?_
          obtain ⟨cl16, Ar16, q16, S16, M16, H16, G16⟩ := id V_b
          have hin16 : ¬ ((2 : Int32) < 0 ∨ cl16.slots.size ≤ ((2 : Int32)).toNatClampNeg) := inb_of S16 ⟨by decide, by decide⟩
          have hat16 : cl16.slots[((2 : Int32)).toNatClampNeg]? = some (.int y2) := own_at hin16 H16 2 rfl rfl
          refine own_step (T' := T15) (f' := (mkF m 55 #[.val (.ref a1), .val (.int (2 : Int32))] [(.int y2)])) (fun t k => X15.baloadBytes hx (j := (2 : Int32)) (v := (.int y2)) (by rw [e15]; exact Ar16.1) (State.isArrayOf_alike hZ.alike Ar16.2.1) Ar16.2.2 hin16 hat16 (g := (mkF m 54 #[.val (.ref a1), .val (.int (2 : Int32))] [(.int (2 : Int32)), (.ref b)])) rfl rfl (hb hby d12_54) _ k) ?_
          refine own_step (T' := T15) (f' := (mkF m 57 #[.val (.ref a1), .val (.int (2 : Int32))] [(.int (64 : Int32)), (.int y2)])) (fun t k => XS.bipush X15.here hx rfl (hb hby d12_55) k) ?_
          by_cases hc57_17 : y2 = (64 : Int32)
          · skip
            refine own_step (T' := T15) (f' := (mkF m 60 #[.val (.ref a1), .val (.int (2 : Int32))] [])) (fun t k => XS.icmpNo X15.here hx rfl (hb hby d12_57) rfl (teq hc57_17).2 k) ?_
            refine own_step (T' := T15) (f' := (mkF m 61 #[.val (.ref a1), .val (.int (2 : Int32))] [(.int (2 : Int32))])) (fun t k => XS.iloadN X15.here hx rfl (hb hby d12_60) rfl k) ?_
            refine own_step (T' := T15) (f' := (mkF m 62 #[.val (.ref a1), .val (.int (2 : Int32))] [(.int (1 : Int32)), (.int (2 : Int32))])) (fun t k => XS.iconst X15.here hx rfl (hb hby d12_61) k) ?_
            refine own_step (T' := T15) (f' := (mkF m 63 #[.val (.ref a1), .val (.int (2 : Int32))] [(.int (3 : Int32))])) (fun t k => XS.iadd X15.here hx rfl (hb hby d12_62) rfl k) ?_
            refine own_step (T' := T15) (f' := (mkF m 64 #[.val (.ref a1), .val (.int (2 : Int32))] [(.ref a1), (.int (3 : Int32))])) (fun t k => XS.aloadN X15.here hx rfl (hb hby d12_63) rfl rfl k) ?_
            obtain ⟨T18, X18, e18, st18⟩ := getF X15 hx hZ hown (host := "") (Or.inl (own_w hw 85 rfl)) Via.refl e15 F_e (g := (mkF m 64 #[.val (.ref a1), .val (.int (2 : Int32))] [(.ref a1), (.int (3 : Int32))])) rfl rfl (hb hby d12_64)
            refine own_step (T' := T18) (f' := (mkF m 67 #[.val (.ref a1), .val (.int (2 : Int32))] [(.int (3 : Int32)), (.int (3 : Int32))])) (fun t k => st18 t k) ?_
            refine own_step (T' := T18) (f' := (mkF m 109 #[.val (.ref a1), .val (.int (2 : Int32))] [])) (fun t k => XS.icmpYes X18.here hx rfl (pc0 := 67) (pc' := 109) rfl (hb hby d12_67) rfl (teq (by decide : (3 : Int32) = (3 : Int32))).1 (by decide) (by decide) k) ?_
            refine own_step (T' := T18) (f' := (mkF m 110 #[.val (.ref a1), .val (.int (2 : Int32))] [(.int (1 : Int32))])) (fun t k => XS.iconst X18.here hx rfl (hb hby d12_109) k) ?_
            refine own_step (T' := T18) (f' := (mkF m 114 #[.val (.ref a1), .val (.int (2 : Int32))] [(.int (1 : Int32))])) (fun t k => XS.goto X18.here hx rfl (pc0 := 110) (pc' := 114) rfl (hb hby d12_110) (by decide) (by decide) k) ?_
            exact own_retN X18 hx hlk (t := .boolean) Bd.returns (by simp) (hb hby d12_114) (by decide) (by decide) ⟨by rw [show own_bs [y0, y1, y2] = (1 : Int32) from (hb2.trans (own_bs64 hc57_17))]; rfl, N_3, e18⟩
          · skip
            refine own_step (T' := T15) (f' := (mkF m 113 #[.val (.ref a1), .val (.int (2 : Int32))] [])) (fun t k => XS.icmpYes X15.here hx rfl (pc0 := 57) (pc' := 113) rfl (hb hby d12_57) rfl (feq hc57_17).2 (by decide) (by decide) k) ?_
            refine own_step (T' := T15) (f' := (mkF m 114 #[.val (.ref a1), .val (.int (2 : Int32))] [(.int (0 : Int32))])) (fun t k => XS.iconst X15.here hx rfl (hb hby d12_113) k) ?_
            exact own_retN X15 hx hlk (t := .boolean) Bd.returns (by simp) (hb hby d12_114) (by decide) (by decide) ⟨by rw [show own_bs [y0, y1, y2] = (0 : Int32) from (hb2.trans (own_bsN hc21_10 hc32_13 hc57_17))]; rfl, N_3, e15⟩
    refine own_step (T' := T_2) (f' := (mkF m 6 #[.val (.ref a1), .val (.int (1 : Int32))] [(.int (1 : Int32))])) (fun t k => XS.iloadN X_2.here hx rfl (hb hby d12_5) rfl k) ?_
    refine own_step (T' := T_2) (f' := (mkF m 7 #[.val (.ref a1), .val (.int (1 : Int32))] [(.ref a1), (.int (1 : Int32))])) (fun t k => XS.aloadN X_2.here hx rfl (hb hby d12_6) rfl rfl k) ?_
    obtain ⟨T19, X19, e19, st19⟩ := getF X_2 hx hZ hown (host := "") (Or.inl (own_w hw 85 rfl)) Via.refl e_2 F_e (g := (mkF m 7 #[.val (.ref a1), .val (.int (1 : Int32))] [(.ref a1), (.int (1 : Int32))])) rfl rfl (hb hby d12_7)
    refine own_step (T' := T19) (f' := (mkF m 10 #[.val (.ref a1), .val (.int (1 : Int32))] [(.int (3 : Int32)), (.int (1 : Int32))])) (fun t k => st19 t k) ?_
    refine own_step (T' := T19) (f' := (mkF m 13 #[.val (.ref a1), .val (.int (1 : Int32))] [])) (fun t k => XS.icmpNo X19.here hx rfl (hb hby d12_10) rfl (tlt (by decide : (1 : Int32) < (3 : Int32))).2.1 k) ?_
    refine own_step (T' := T19) (f' := (mkF m 14 #[.val (.ref a1), .val (.int (1 : Int32))] [(.ref a1)])) (fun t k => XS.aloadN X19.here hx rfl (hb hby d12_13) rfl rfl k) ?_
    obtain ⟨T20, X20, e20, st20⟩ := getF X19 hx hZ hown (host := "") (Or.inl (own_w hw 81 rfl)) Via.refl e19 F_ch (g := (mkF m 14 #[.val (.ref a1), .val (.int (1 : Int32))] [(.ref a1)])) rfl rfl (hb hby d12_14)
    refine own_step (T' := T20) (f' := (mkF m 17 #[.val (.ref a1), .val (.int (1 : Int32))] [(.ref b)])) (fun t k => st20 t k) ?_
    refine own_step (T' := T20) (f' := (mkF m 18 #[.val (.ref a1), .val (.int (1 : Int32))] [(.int (1 : Int32)), (.ref b)])) (fun t k => XS.iloadN X20.here hx rfl (hb hby d12_17) rfl k) ?_
    obtain ⟨cl21, Ar21, q21, S21, M21, H21, G21⟩ := id V_b
    have hin21 : ¬ ((1 : Int32) < 0 ∨ cl21.slots.size ≤ ((1 : Int32)).toNatClampNeg) := inb_of S21 ⟨by decide, by decide⟩
    have hat21 : cl21.slots[((1 : Int32)).toNatClampNeg]? = some (.int y1) := own_at hin21 H21 1 rfl rfl
    refine own_step (T' := T20) (f' := (mkF m 19 #[.val (.ref a1), .val (.int (1 : Int32))] [(.int y1)])) (fun t k => X20.baloadBytes hx (j := (1 : Int32)) (v := (.int y1)) (by rw [e20]; exact Ar21.1) (State.isArrayOf_alike hZ.alike Ar21.2.1) Ar21.2.2 hin21 hat21 (g := (mkF m 18 #[.val (.ref a1), .val (.int (1 : Int32))] [(.int (1 : Int32)), (.ref b)])) rfl rfl (hb hby d12_18) _ k) ?_
    refine own_step (T' := T20) (f' := (mkF m 21 #[.val (.ref a1), .val (.int (1 : Int32))] [(.int (32 : Int32)), (.int y1)])) (fun t k => XS.bipush X20.here hx rfl (hb hby d12_19) k) ?_
    by_cases hc21_22 : y1 = (32 : Int32)
    · skip
      refine own_step (T' := T20) (f' := (mkF m 35 #[.val (.ref a1), .val (.int (1 : Int32))] [])) (fun t k => XS.icmpYes X20.here hx rfl (pc0 := 21) (pc' := 35) rfl (hb hby d12_21) rfl (teq hc21_22).1 (by decide) (by decide) k) ?_
      refine own_step (T' := T20) (f' := (mkF m 38 #[.val (.ref a1), .val (.int (2 : Int32))] [])) (fun t k => XS.iinc X20.here hx rfl (hb hby d12_35) rfl (l' := #[.val (.ref a1), .val (.int (2 : Int32))]) rfl k) ?_
      refine own_step (T' := T20) (f' := (mkF m 5 #[.val (.ref a1), .val (.int (2 : Int32))] [])) (fun t k => XS.goto X20.here hx rfl (pc0 := 38) (pc' := 5) rfl (hb hby d12_38) (by decide) (by decide) k) ?_
      exact J5_3 T20 _ X20 e20 N_2 (hb1.trans (own_bs32 hc21_22))
    · skip
      refine own_step (T' := T20) (f' := (mkF m 24 #[.val (.ref a1), .val (.int (1 : Int32))] [])) (fun t k => XS.icmpNo X20.here hx rfl (hb hby d12_21) rfl (feq hc21_22).1 k) ?_
      refine own_step (T' := T20) (f' := (mkF m 25 #[.val (.ref a1), .val (.int (1 : Int32))] [(.ref a1)])) (fun t k => XS.aloadN X20.here hx rfl (hb hby d12_24) rfl rfl k) ?_
      obtain ⟨T23, X23, e23, st23⟩ := getF X20 hx hZ hown (host := "") (Or.inl (own_w hw 81 rfl)) Via.refl e20 F_ch (g := (mkF m 25 #[.val (.ref a1), .val (.int (1 : Int32))] [(.ref a1)])) rfl rfl (hb hby d12_25)
      refine own_step (T' := T23) (f' := (mkF m 28 #[.val (.ref a1), .val (.int (1 : Int32))] [(.ref b)])) (fun t k => st23 t k) ?_
      refine own_step (T' := T23) (f' := (mkF m 29 #[.val (.ref a1), .val (.int (1 : Int32))] [(.int (1 : Int32)), (.ref b)])) (fun t k => XS.iloadN X23.here hx rfl (hb hby d12_28) rfl k) ?_
      obtain ⟨cl24, Ar24, q24, S24, M24, H24, G24⟩ := id V_b
      have hin24 : ¬ ((1 : Int32) < 0 ∨ cl24.slots.size ≤ ((1 : Int32)).toNatClampNeg) := inb_of S24 ⟨by decide, by decide⟩
      have hat24 : cl24.slots[((1 : Int32)).toNatClampNeg]? = some (.int y1) := own_at hin24 H24 1 rfl rfl
      refine own_step (T' := T23) (f' := (mkF m 30 #[.val (.ref a1), .val (.int (1 : Int32))] [(.int y1)])) (fun t k => X23.baloadBytes hx (j := (1 : Int32)) (v := (.int y1)) (by rw [e23]; exact Ar24.1) (State.isArrayOf_alike hZ.alike Ar24.2.1) Ar24.2.2 hin24 hat24 (g := (mkF m 29 #[.val (.ref a1), .val (.int (1 : Int32))] [(.int (1 : Int32)), (.ref b)])) rfl rfl (hb hby d12_29) _ k) ?_
      refine own_step (T' := T23) (f' := (mkF m 32 #[.val (.ref a1), .val (.int (1 : Int32))] [(.int (9 : Int32)), (.int y1)])) (fun t k => XS.bipush X23.here hx rfl (hb hby d12_30) k) ?_
      by_cases hc32_25 : y1 = (9 : Int32)
      · skip
        refine own_step (T' := T23) (f' := (mkF m 35 #[.val (.ref a1), .val (.int (1 : Int32))] [])) (fun t k => XS.icmpNo X23.here hx rfl (hb hby d12_32) rfl (teq hc32_25).2 k) ?_
        refine own_step (T' := T23) (f' := (mkF m 38 #[.val (.ref a1), .val (.int (2 : Int32))] [])) (fun t k => XS.iinc X23.here hx rfl (hb hby d12_35) rfl (l' := #[.val (.ref a1), .val (.int (2 : Int32))]) rfl k) ?_
        refine own_step (T' := T23) (f' := (mkF m 5 #[.val (.ref a1), .val (.int (2 : Int32))] [])) (fun t k => XS.goto X23.here hx rfl (pc0 := 38) (pc' := 5) rfl (hb hby d12_38) (by decide) (by decide) k) ?_
        exact J5_3 T23 _ X23 e23 N_2 (hb1.trans (own_bs9 hc32_25))
      · skip
        refine own_step (T' := T23) (f' := (mkF m 41 #[.val (.ref a1), .val (.int (1 : Int32))] [])) (fun t k => XS.icmpYes X23.here hx rfl (pc0 := 32) (pc' := 41) rfl (hb hby d12_32) rfl (feq hc32_25).2 (by decide) (by decide) k) ?_
        refine own_step (T' := T23) (f' := (mkF m 42 #[.val (.ref a1), .val (.int (1 : Int32))] [(.int (1 : Int32))])) (fun t k => XS.iloadN X23.here hx rfl (hb hby d12_41) rfl k) ?_
        refine own_step (T' := T23) (f' := (mkF m 43 #[.val (.ref a1), .val (.int (1 : Int32))] [(.ref a1), (.int (1 : Int32))])) (fun t k => XS.aloadN X23.here hx rfl (hb hby d12_42) rfl rfl k) ?_
        obtain ⟨T26, X26, e26, st26⟩ := getF X23 hx hZ hown (host := "") (Or.inl (own_w hw 85 rfl)) Via.refl e23 F_e (g := (mkF m 43 #[.val (.ref a1), .val (.int (1 : Int32))] [(.ref a1), (.int (1 : Int32))])) rfl rfl (hb hby d12_43)
        refine own_step (T' := T26) (f' := (mkF m 46 #[.val (.ref a1), .val (.int (1 : Int32))] [(.int (3 : Int32)), (.int (1 : Int32))])) (fun t k => st26 t k) ?_
        refine own_step (T' := T26) (f' := (mkF m 49 #[.val (.ref a1), .val (.int (1 : Int32))] [])) (fun t k => XS.icmpNo X26.here hx rfl (hb hby d12_46) rfl (tlt (by decide : (1 : Int32) < (3 : Int32))).2.1 k) ?_
        refine own_step (T' := T26) (f' := (mkF m 50 #[.val (.ref a1), .val (.int (1 : Int32))] [(.ref a1)])) (fun t k => XS.aloadN X26.here hx rfl (hb hby d12_49) rfl rfl k) ?_
        obtain ⟨T27, X27, e27, st27⟩ := getF X26 hx hZ hown (host := "") (Or.inl (own_w hw 81 rfl)) Via.refl e26 F_ch (g := (mkF m 50 #[.val (.ref a1), .val (.int (1 : Int32))] [(.ref a1)])) rfl rfl (hb hby d12_50)
        refine own_step (T' := T27) (f' := (mkF m 53 #[.val (.ref a1), .val (.int (1 : Int32))] [(.ref b)])) (fun t k => st27 t k) ?_
        refine own_step (T' := T27) (f' := (mkF m 54 #[.val (.ref a1), .val (.int (1 : Int32))] [(.int (1 : Int32)), (.ref b)])) (fun t k => XS.iloadN X27.here hx rfl (hb hby d12_53) rfl k) ?_
        obtain ⟨cl28, Ar28, q28, S28, M28, H28, G28⟩ := id V_b
        have hin28 : ¬ ((1 : Int32) < 0 ∨ cl28.slots.size ≤ ((1 : Int32)).toNatClampNeg) := inb_of S28 ⟨by decide, by decide⟩
        have hat28 : cl28.slots[((1 : Int32)).toNatClampNeg]? = some (.int y1) := own_at hin28 H28 1 rfl rfl
        refine own_step (T' := T27) (f' := (mkF m 55 #[.val (.ref a1), .val (.int (1 : Int32))] [(.int y1)])) (fun t k => X27.baloadBytes hx (j := (1 : Int32)) (v := (.int y1)) (by rw [e27]; exact Ar28.1) (State.isArrayOf_alike hZ.alike Ar28.2.1) Ar28.2.2 hin28 hat28 (g := (mkF m 54 #[.val (.ref a1), .val (.int (1 : Int32))] [(.int (1 : Int32)), (.ref b)])) rfl rfl (hb hby d12_54) _ k) ?_
        refine own_step (T' := T27) (f' := (mkF m 57 #[.val (.ref a1), .val (.int (1 : Int32))] [(.int (64 : Int32)), (.int y1)])) (fun t k => XS.bipush X27.here hx rfl (hb hby d12_55) k) ?_
        by_cases hc57_29 : y1 = (64 : Int32)
        · skip
          refine own_step (T' := T27) (f' := (mkF m 60 #[.val (.ref a1), .val (.int (1 : Int32))] [])) (fun t k => XS.icmpNo X27.here hx rfl (hb hby d12_57) rfl (teq hc57_29).2 k) ?_
          refine own_step (T' := T27) (f' := (mkF m 61 #[.val (.ref a1), .val (.int (1 : Int32))] [(.int (1 : Int32))])) (fun t k => XS.iloadN X27.here hx rfl (hb hby d12_60) rfl k) ?_
          refine own_step (T' := T27) (f' := (mkF m 62 #[.val (.ref a1), .val (.int (1 : Int32))] [(.int (1 : Int32)), (.int (1 : Int32))])) (fun t k => XS.iconst X27.here hx rfl (hb hby d12_61) k) ?_
          refine own_step (T' := T27) (f' := (mkF m 63 #[.val (.ref a1), .val (.int (1 : Int32))] [(.int (2 : Int32))])) (fun t k => XS.iadd X27.here hx rfl (hb hby d12_62) rfl k) ?_
          refine own_step (T' := T27) (f' := (mkF m 64 #[.val (.ref a1), .val (.int (1 : Int32))] [(.ref a1), (.int (2 : Int32))])) (fun t k => XS.aloadN X27.here hx rfl (hb hby d12_63) rfl rfl k) ?_
          obtain ⟨T30, X30, e30, st30⟩ := getF X27 hx hZ hown (host := "") (Or.inl (own_w hw 85 rfl)) Via.refl e27 F_e (g := (mkF m 64 #[.val (.ref a1), .val (.int (1 : Int32))] [(.ref a1), (.int (2 : Int32))])) rfl rfl (hb hby d12_64)
          refine own_step (T' := T30) (f' := (mkF m 67 #[.val (.ref a1), .val (.int (1 : Int32))] [(.int (3 : Int32)), (.int (2 : Int32))])) (fun t k => st30 t k) ?_
          refine own_step (T' := T30) (f' := (mkF m 70 #[.val (.ref a1), .val (.int (1 : Int32))] [])) (fun t k => XS.icmpNo X30.here hx rfl (hb hby d12_67) rfl (feq (by decide : ¬ ((2 : Int32) = (3 : Int32)))).1 k) ?_
          refine own_step (T' := T30) (f' := (mkF m 71 #[.val (.ref a1), .val (.int (1 : Int32))] [(.ref a1)])) (fun t k => XS.aloadN X30.here hx rfl (hb hby d12_70) rfl rfl k) ?_
          obtain ⟨T31, X31, e31, st31⟩ := getF X30 hx hZ hown (host := "") (Or.inl (own_w hw 81 rfl)) Via.refl e30 F_ch (g := (mkF m 71 #[.val (.ref a1), .val (.int (1 : Int32))] [(.ref a1)])) rfl rfl (hb hby d12_71)
          refine own_step (T' := T31) (f' := (mkF m 74 #[.val (.ref a1), .val (.int (1 : Int32))] [(.ref b)])) (fun t k => st31 t k) ?_
          refine own_step (T' := T31) (f' := (mkF m 75 #[.val (.ref a1), .val (.int (1 : Int32))] [(.int (1 : Int32)), (.ref b)])) (fun t k => XS.iloadN X31.here hx rfl (hb hby d12_74) rfl k) ?_
          refine own_step (T' := T31) (f' := (mkF m 76 #[.val (.ref a1), .val (.int (1 : Int32))] [(.int (1 : Int32)), (.int (1 : Int32)), (.ref b)])) (fun t k => XS.iconst X31.here hx rfl (hb hby d12_75) k) ?_
          refine own_step (T' := T31) (f' := (mkF m 77 #[.val (.ref a1), .val (.int (1 : Int32))] [(.int (2 : Int32)), (.ref b)])) (fun t k => XS.iadd X31.here hx rfl (hb hby d12_76) rfl k) ?_
          obtain ⟨cl32, Ar32, q32, S32, M32, H32, G32⟩ := id V_b
          have hin32 : ¬ ((2 : Int32) < 0 ∨ cl32.slots.size ≤ ((2 : Int32)).toNatClampNeg) := inb_of S32 ⟨by decide, by decide⟩
          have hat32 : cl32.slots[((2 : Int32)).toNatClampNeg]? = some (.int y2) := own_at hin32 H32 2 rfl rfl
          refine own_step (T' := T31) (f' := (mkF m 78 #[.val (.ref a1), .val (.int (1 : Int32))] [(.int y2)])) (fun t k => X31.baloadBytes hx (j := (2 : Int32)) (v := (.int y2)) (by rw [e31]; exact Ar32.1) (State.isArrayOf_alike hZ.alike Ar32.2.1) Ar32.2.2 hin32 hat32 (g := (mkF m 77 #[.val (.ref a1), .val (.int (1 : Int32))] [(.int (2 : Int32)), (.ref b)])) rfl rfl (hb hby d12_77) _ k) ?_
          refine own_step (T' := T31) (f' := (mkF m 80 #[.val (.ref a1), .val (.int (1 : Int32))] [(.int (32 : Int32)), (.int y2)])) (fun t k => XS.bipush X31.here hx rfl (hb hby d12_78) k) ?_
          by_cases hc80_33 : y2 = (32 : Int32)
          · skip
            refine own_step (T' := T31) (f' := (mkF m 109 #[.val (.ref a1), .val (.int (1 : Int32))] [])) (fun t k => XS.icmpYes X31.here hx rfl (pc0 := 80) (pc' := 109) rfl (hb hby d12_80) rfl (teq hc80_33).1 (by decide) (by decide) k) ?_
            refine own_step (T' := T31) (f' := (mkF m 110 #[.val (.ref a1), .val (.int (1 : Int32))] [(.int (1 : Int32))])) (fun t k => XS.iconst X31.here hx rfl (hb hby d12_109) k) ?_
            refine own_step (T' := T31) (f' := (mkF m 114 #[.val (.ref a1), .val (.int (1 : Int32))] [(.int (1 : Int32))])) (fun t k => XS.goto X31.here hx rfl (pc0 := 110) (pc' := 114) rfl (hb hby d12_110) (by decide) (by decide) k) ?_
            exact own_retN X31 hx hlk (t := .boolean) Bd.returns (by simp) (hb hby d12_114) (by decide) (by decide) ⟨by rw [show own_bs [y0, y1, y2] = (1 : Int32) from (hb1.trans ((own_bs64 hc57_29).trans (own_nx32 hc80_33)))]; rfl, N_2, e31⟩
          · skip
            refine own_step (T' := T31) (f' := (mkF m 83 #[.val (.ref a1), .val (.int (1 : Int32))] [])) (fun t k => XS.icmpNo X31.here hx rfl (hb hby d12_80) rfl (feq hc80_33).1 k) ?_
            refine own_step (T' := T31) (f' := (mkF m 84 #[.val (.ref a1), .val (.int (1 : Int32))] [(.ref a1)])) (fun t k => XS.aloadN X31.here hx rfl (hb hby d12_83) rfl rfl k) ?_
            obtain ⟨T34, X34, e34, st34⟩ := getF X31 hx hZ hown (host := "") (Or.inl (own_w hw 81 rfl)) Via.refl e31 F_ch (g := (mkF m 84 #[.val (.ref a1), .val (.int (1 : Int32))] [(.ref a1)])) rfl rfl (hb hby d12_84)
            refine own_step (T' := T34) (f' := (mkF m 87 #[.val (.ref a1), .val (.int (1 : Int32))] [(.ref b)])) (fun t k => st34 t k) ?_
            refine own_step (T' := T34) (f' := (mkF m 88 #[.val (.ref a1), .val (.int (1 : Int32))] [(.int (1 : Int32)), (.ref b)])) (fun t k => XS.iloadN X34.here hx rfl (hb hby d12_87) rfl k) ?_
            refine own_step (T' := T34) (f' := (mkF m 89 #[.val (.ref a1), .val (.int (1 : Int32))] [(.int (1 : Int32)), (.int (1 : Int32)), (.ref b)])) (fun t k => XS.iconst X34.here hx rfl (hb hby d12_88) k) ?_
            refine own_step (T' := T34) (f' := (mkF m 90 #[.val (.ref a1), .val (.int (1 : Int32))] [(.int (2 : Int32)), (.ref b)])) (fun t k => XS.iadd X34.here hx rfl (hb hby d12_89) rfl k) ?_
            obtain ⟨cl35, Ar35, q35, S35, M35, H35, G35⟩ := id V_b
            have hin35 : ¬ ((2 : Int32) < 0 ∨ cl35.slots.size ≤ ((2 : Int32)).toNatClampNeg) := inb_of S35 ⟨by decide, by decide⟩
            have hat35 : cl35.slots[((2 : Int32)).toNatClampNeg]? = some (.int y2) := own_at hin35 H35 2 rfl rfl
            refine own_step (T' := T34) (f' := (mkF m 91 #[.val (.ref a1), .val (.int (1 : Int32))] [(.int y2)])) (fun t k => X34.baloadBytes hx (j := (2 : Int32)) (v := (.int y2)) (by rw [e34]; exact Ar35.1) (State.isArrayOf_alike hZ.alike Ar35.2.1) Ar35.2.2 hin35 hat35 (g := (mkF m 90 #[.val (.ref a1), .val (.int (1 : Int32))] [(.int (2 : Int32)), (.ref b)])) rfl rfl (hb hby d12_90) _ k) ?_
            refine own_step (T' := T34) (f' := (mkF m 93 #[.val (.ref a1), .val (.int (1 : Int32))] [(.int (9 : Int32)), (.int y2)])) (fun t k => XS.bipush X34.here hx rfl (hb hby d12_91) k) ?_
            by_cases hc93_36 : y2 = (9 : Int32)
            · skip
              refine own_step (T' := T34) (f' := (mkF m 109 #[.val (.ref a1), .val (.int (1 : Int32))] [])) (fun t k => XS.icmpYes X34.here hx rfl (pc0 := 93) (pc' := 109) rfl (hb hby d12_93) rfl (teq hc93_36).1 (by decide) (by decide) k) ?_
              refine own_step (T' := T34) (f' := (mkF m 110 #[.val (.ref a1), .val (.int (1 : Int32))] [(.int (1 : Int32))])) (fun t k => XS.iconst X34.here hx rfl (hb hby d12_109) k) ?_
              refine own_step (T' := T34) (f' := (mkF m 114 #[.val (.ref a1), .val (.int (1 : Int32))] [(.int (1 : Int32))])) (fun t k => XS.goto X34.here hx rfl (pc0 := 110) (pc' := 114) rfl (hb hby d12_110) (by decide) (by decide) k) ?_
              exact own_retN X34 hx hlk (t := .boolean) Bd.returns (by simp) (hb hby d12_114) (by decide) (by decide) ⟨by rw [show own_bs [y0, y1, y2] = (1 : Int32) from (hb1.trans ((own_bs64 hc57_29).trans (own_nx9 hc93_36)))]; rfl, N_2, e34⟩
            · skip
              refine own_step (T' := T34) (f' := (mkF m 96 #[.val (.ref a1), .val (.int (1 : Int32))] [])) (fun t k => XS.icmpNo X34.here hx rfl (hb hby d12_93) rfl (feq hc93_36).1 k) ?_
              refine own_step (T' := T34) (f' := (mkF m 97 #[.val (.ref a1), .val (.int (1 : Int32))] [(.ref a1)])) (fun t k => XS.aloadN X34.here hx rfl (hb hby d12_96) rfl rfl k) ?_
              obtain ⟨T37, X37, e37, st37⟩ := getF X34 hx hZ hown (host := "") (Or.inl (own_w hw 81 rfl)) Via.refl e34 F_ch (g := (mkF m 97 #[.val (.ref a1), .val (.int (1 : Int32))] [(.ref a1)])) rfl rfl (hb hby d12_97)
              refine own_step (T' := T37) (f' := (mkF m 100 #[.val (.ref a1), .val (.int (1 : Int32))] [(.ref b)])) (fun t k => st37 t k) ?_
              refine own_step (T' := T37) (f' := (mkF m 101 #[.val (.ref a1), .val (.int (1 : Int32))] [(.int (1 : Int32)), (.ref b)])) (fun t k => XS.iloadN X37.here hx rfl (hb hby d12_100) rfl k) ?_
              refine own_step (T' := T37) (f' := (mkF m 102 #[.val (.ref a1), .val (.int (1 : Int32))] [(.int (1 : Int32)), (.int (1 : Int32)), (.ref b)])) (fun t k => XS.iconst X37.here hx rfl (hb hby d12_101) k) ?_
              refine own_step (T' := T37) (f' := (mkF m 103 #[.val (.ref a1), .val (.int (1 : Int32))] [(.int (2 : Int32)), (.ref b)])) (fun t k => XS.iadd X37.here hx rfl (hb hby d12_102) rfl k) ?_
              obtain ⟨cl38, Ar38, q38, S38, M38, H38, G38⟩ := id V_b
              have hin38 : ¬ ((2 : Int32) < 0 ∨ cl38.slots.size ≤ ((2 : Int32)).toNatClampNeg) := inb_of S38 ⟨by decide, by decide⟩
              have hat38 : cl38.slots[((2 : Int32)).toNatClampNeg]? = some (.int y2) := own_at hin38 H38 2 rfl rfl
              refine own_step (T' := T37) (f' := (mkF m 104 #[.val (.ref a1), .val (.int (1 : Int32))] [(.int y2)])) (fun t k => X37.baloadBytes hx (j := (2 : Int32)) (v := (.int y2)) (by rw [e37]; exact Ar38.1) (State.isArrayOf_alike hZ.alike Ar38.2.1) Ar38.2.2 hin38 hat38 (g := (mkF m 103 #[.val (.ref a1), .val (.int (1 : Int32))] [(.int (2 : Int32)), (.ref b)])) rfl rfl (hb hby d12_103) _ k) ?_
              refine own_step (T' := T37) (f' := (mkF m 106 #[.val (.ref a1), .val (.int (1 : Int32))] [(.int (42 : Int32)), (.int y2)])) (fun t k => XS.bipush X37.here hx rfl (hb hby d12_104) k) ?_
              by_cases hc106_39 : y2 = (42 : Int32)
              · skip
                refine own_step (T' := T37) (f' := (mkF m 109 #[.val (.ref a1), .val (.int (1 : Int32))] [])) (fun t k => XS.icmpNo X37.here hx rfl (hb hby d12_106) rfl (teq hc106_39).2 k) ?_
                refine own_step (T' := T37) (f' := (mkF m 110 #[.val (.ref a1), .val (.int (1 : Int32))] [(.int (1 : Int32))])) (fun t k => XS.iconst X37.here hx rfl (hb hby d12_109) k) ?_
                refine own_step (T' := T37) (f' := (mkF m 114 #[.val (.ref a1), .val (.int (1 : Int32))] [(.int (1 : Int32))])) (fun t k => XS.goto X37.here hx rfl (pc0 := 110) (pc' := 114) rfl (hb hby d12_110) (by decide) (by decide) k) ?_
                exact own_retN X37 hx hlk (t := .boolean) Bd.returns (by simp) (hb hby d12_114) (by decide) (by decide) ⟨by rw [show own_bs [y0, y1, y2] = (1 : Int32) from (hb1.trans ((own_bs64 hc57_29).trans (own_nx42 hc106_39)))]; rfl, N_2, e37⟩
              · skip
                refine own_step (T' := T37) (f' := (mkF m 113 #[.val (.ref a1), .val (.int (1 : Int32))] [])) (fun t k => XS.icmpYes X37.here hx rfl (pc0 := 106) (pc' := 113) rfl (hb hby d12_106) rfl (feq hc106_39).2 (by decide) (by decide) k) ?_
                refine own_step (T' := T37) (f' := (mkF m 114 #[.val (.ref a1), .val (.int (1 : Int32))] [(.int (0 : Int32))])) (fun t k => XS.iconst X37.here hx rfl (hb hby d12_113) k) ?_
                exact own_retN X37 hx hlk (t := .boolean) Bd.returns (by simp) (hb hby d12_114) (by decide) (by decide) ⟨by rw [show own_bs [y0, y1, y2] = (0 : Int32) from (hb1.trans ((own_bs64 hc57_29).trans (own_nxN hc80_33 hc93_36 hc106_39)))]; rfl, N_2, e37⟩
        · skip
          refine own_step (T' := T27) (f' := (mkF m 113 #[.val (.ref a1), .val (.int (1 : Int32))] [])) (fun t k => XS.icmpYes X27.here hx rfl (pc0 := 57) (pc' := 113) rfl (hb hby d12_57) rfl (feq hc57_29).2 (by decide) (by decide) k) ?_
          refine own_step (T' := T27) (f' := (mkF m 114 #[.val (.ref a1), .val (.int (1 : Int32))] [(.int (0 : Int32))])) (fun t k => XS.iconst X27.here hx rfl (hb hby d12_113) k) ?_
          exact own_retN X27 hx hlk (t := .boolean) Bd.returns (by simp) (hb hby d12_114) (by decide) (by decide) ⟨by rw [show own_bs [y0, y1, y2] = (0 : Int32) from (hb1.trans (own_bsN hc21_22 hc32_25 hc57_29))]; rfl, N_2, e27⟩
  refine own_step (T' := T1) (f' := (mkF m 6 #[.val (.ref a1), .val (.int (0 : Int32))] [(.int (0 : Int32))])) (fun t k => XS.iloadN X1.here hx rfl (hb hby d12_5) rfl k) ?_
  refine own_step (T' := T1) (f' := (mkF m 7 #[.val (.ref a1), .val (.int (0 : Int32))] [(.ref a1), (.int (0 : Int32))])) (fun t k => XS.aloadN X1.here hx rfl (hb hby d12_6) rfl rfl k) ?_
  obtain ⟨T40, X40, e40, st40⟩ := getF X1 hx hZ hown (host := "") (Or.inl (own_w hw 85 rfl)) Via.refl e1 F_e (g := (mkF m 7 #[.val (.ref a1), .val (.int (0 : Int32))] [(.ref a1), (.int (0 : Int32))])) rfl rfl (hb hby d12_7)
  refine own_step (T' := T40) (f' := (mkF m 10 #[.val (.ref a1), .val (.int (0 : Int32))] [(.int (3 : Int32)), (.int (0 : Int32))])) (fun t k => st40 t k) ?_
  refine own_step (T' := T40) (f' := (mkF m 13 #[.val (.ref a1), .val (.int (0 : Int32))] [])) (fun t k => XS.icmpNo X40.here hx rfl (hb hby d12_10) rfl (tlt (by decide : (0 : Int32) < (3 : Int32))).2.1 k) ?_
  refine own_step (T' := T40) (f' := (mkF m 14 #[.val (.ref a1), .val (.int (0 : Int32))] [(.ref a1)])) (fun t k => XS.aloadN X40.here hx rfl (hb hby d12_13) rfl rfl k) ?_
  obtain ⟨T41, X41, e41, st41⟩ := getF X40 hx hZ hown (host := "") (Or.inl (own_w hw 81 rfl)) Via.refl e40 F_ch (g := (mkF m 14 #[.val (.ref a1), .val (.int (0 : Int32))] [(.ref a1)])) rfl rfl (hb hby d12_14)
  refine own_step (T' := T41) (f' := (mkF m 17 #[.val (.ref a1), .val (.int (0 : Int32))] [(.ref b)])) (fun t k => st41 t k) ?_
  refine own_step (T' := T41) (f' := (mkF m 18 #[.val (.ref a1), .val (.int (0 : Int32))] [(.int (0 : Int32)), (.ref b)])) (fun t k => XS.iloadN X41.here hx rfl (hb hby d12_17) rfl k) ?_
  obtain ⟨cl42, Ar42, q42, S42, M42, H42, G42⟩ := id V_b
  have hin42 : ¬ ((0 : Int32) < 0 ∨ cl42.slots.size ≤ ((0 : Int32)).toNatClampNeg) := inb_of S42 ⟨by decide, by decide⟩
  have hat42 : cl42.slots[((0 : Int32)).toNatClampNeg]? = some (.int y0) := own_at hin42 H42 0 rfl rfl
  refine own_step (T' := T41) (f' := (mkF m 19 #[.val (.ref a1), .val (.int (0 : Int32))] [(.int y0)])) (fun t k => X41.baloadBytes hx (j := (0 : Int32)) (v := (.int y0)) (by rw [e41]; exact Ar42.1) (State.isArrayOf_alike hZ.alike Ar42.2.1) Ar42.2.2 hin42 hat42 (g := (mkF m 18 #[.val (.ref a1), .val (.int (0 : Int32))] [(.int (0 : Int32)), (.ref b)])) rfl rfl (hb hby d12_18) _ k) ?_
  refine own_step (T' := T41) (f' := (mkF m 21 #[.val (.ref a1), .val (.int (0 : Int32))] [(.int (32 : Int32)), (.int y0)])) (fun t k => XS.bipush X41.here hx rfl (hb hby d12_19) k) ?_
  by_cases hc21_43 : y0 = (32 : Int32)
  · skip
    refine own_step (T' := T41) (f' := (mkF m 35 #[.val (.ref a1), .val (.int (0 : Int32))] [])) (fun t k => XS.icmpYes X41.here hx rfl (pc0 := 21) (pc' := 35) rfl (hb hby d12_21) rfl (teq hc21_43).1 (by decide) (by decide) k) ?_
    refine own_step (T' := T41) (f' := (mkF m 38 #[.val (.ref a1), .val (.int (1 : Int32))] [])) (fun t k => XS.iinc X41.here hx rfl (hb hby d12_35) rfl (l' := #[.val (.ref a1), .val (.int (1 : Int32))]) rfl k) ?_
    refine own_step (T' := T41) (f' := (mkF m 5 #[.val (.ref a1), .val (.int (1 : Int32))] [])) (fun t k => XS.goto X41.here hx rfl (pc0 := 38) (pc' := 5) rfl (hb hby d12_38) (by decide) (by decide) k) ?_
    exact J5_2 T41 _ X41 e41 N0 (own_bs32 hc21_43)
  · skip
    refine own_step (T' := T41) (f' := (mkF m 24 #[.val (.ref a1), .val (.int (0 : Int32))] [])) (fun t k => XS.icmpNo X41.here hx rfl (hb hby d12_21) rfl (feq hc21_43).1 k) ?_
    refine own_step (T' := T41) (f' := (mkF m 25 #[.val (.ref a1), .val (.int (0 : Int32))] [(.ref a1)])) (fun t k => XS.aloadN X41.here hx rfl (hb hby d12_24) rfl rfl k) ?_
    obtain ⟨T44, X44, e44, st44⟩ := getF X41 hx hZ hown (host := "") (Or.inl (own_w hw 81 rfl)) Via.refl e41 F_ch (g := (mkF m 25 #[.val (.ref a1), .val (.int (0 : Int32))] [(.ref a1)])) rfl rfl (hb hby d12_25)
    refine own_step (T' := T44) (f' := (mkF m 28 #[.val (.ref a1), .val (.int (0 : Int32))] [(.ref b)])) (fun t k => st44 t k) ?_
    refine own_step (T' := T44) (f' := (mkF m 29 #[.val (.ref a1), .val (.int (0 : Int32))] [(.int (0 : Int32)), (.ref b)])) (fun t k => XS.iloadN X44.here hx rfl (hb hby d12_28) rfl k) ?_
    obtain ⟨cl45, Ar45, q45, S45, M45, H45, G45⟩ := id V_b
    have hin45 : ¬ ((0 : Int32) < 0 ∨ cl45.slots.size ≤ ((0 : Int32)).toNatClampNeg) := inb_of S45 ⟨by decide, by decide⟩
    have hat45 : cl45.slots[((0 : Int32)).toNatClampNeg]? = some (.int y0) := own_at hin45 H45 0 rfl rfl
    refine own_step (T' := T44) (f' := (mkF m 30 #[.val (.ref a1), .val (.int (0 : Int32))] [(.int y0)])) (fun t k => X44.baloadBytes hx (j := (0 : Int32)) (v := (.int y0)) (by rw [e44]; exact Ar45.1) (State.isArrayOf_alike hZ.alike Ar45.2.1) Ar45.2.2 hin45 hat45 (g := (mkF m 29 #[.val (.ref a1), .val (.int (0 : Int32))] [(.int (0 : Int32)), (.ref b)])) rfl rfl (hb hby d12_29) _ k) ?_
    refine own_step (T' := T44) (f' := (mkF m 32 #[.val (.ref a1), .val (.int (0 : Int32))] [(.int (9 : Int32)), (.int y0)])) (fun t k => XS.bipush X44.here hx rfl (hb hby d12_30) k) ?_
    by_cases hc32_46 : y0 = (9 : Int32)
    · skip
      refine own_step (T' := T44) (f' := (mkF m 35 #[.val (.ref a1), .val (.int (0 : Int32))] [])) (fun t k => XS.icmpNo X44.here hx rfl (hb hby d12_32) rfl (teq hc32_46).2 k) ?_
      refine own_step (T' := T44) (f' := (mkF m 38 #[.val (.ref a1), .val (.int (1 : Int32))] [])) (fun t k => XS.iinc X44.here hx rfl (hb hby d12_35) rfl (l' := #[.val (.ref a1), .val (.int (1 : Int32))]) rfl k) ?_
      refine own_step (T' := T44) (f' := (mkF m 5 #[.val (.ref a1), .val (.int (1 : Int32))] [])) (fun t k => XS.goto X44.here hx rfl (pc0 := 38) (pc' := 5) rfl (hb hby d12_38) (by decide) (by decide) k) ?_
      exact J5_2 T44 _ X44 e44 N0 (own_bs9 hc32_46)
    · skip
      refine own_step (T' := T44) (f' := (mkF m 41 #[.val (.ref a1), .val (.int (0 : Int32))] [])) (fun t k => XS.icmpYes X44.here hx rfl (pc0 := 32) (pc' := 41) rfl (hb hby d12_32) rfl (feq hc32_46).2 (by decide) (by decide) k) ?_
      refine own_step (T' := T44) (f' := (mkF m 42 #[.val (.ref a1), .val (.int (0 : Int32))] [(.int (0 : Int32))])) (fun t k => XS.iloadN X44.here hx rfl (hb hby d12_41) rfl k) ?_
      refine own_step (T' := T44) (f' := (mkF m 43 #[.val (.ref a1), .val (.int (0 : Int32))] [(.ref a1), (.int (0 : Int32))])) (fun t k => XS.aloadN X44.here hx rfl (hb hby d12_42) rfl rfl k) ?_
      obtain ⟨T47, X47, e47, st47⟩ := getF X44 hx hZ hown (host := "") (Or.inl (own_w hw 85 rfl)) Via.refl e44 F_e (g := (mkF m 43 #[.val (.ref a1), .val (.int (0 : Int32))] [(.ref a1), (.int (0 : Int32))])) rfl rfl (hb hby d12_43)
      refine own_step (T' := T47) (f' := (mkF m 46 #[.val (.ref a1), .val (.int (0 : Int32))] [(.int (3 : Int32)), (.int (0 : Int32))])) (fun t k => st47 t k) ?_
      refine own_step (T' := T47) (f' := (mkF m 49 #[.val (.ref a1), .val (.int (0 : Int32))] [])) (fun t k => XS.icmpNo X47.here hx rfl (hb hby d12_46) rfl (tlt (by decide : (0 : Int32) < (3 : Int32))).2.1 k) ?_
      refine own_step (T' := T47) (f' := (mkF m 50 #[.val (.ref a1), .val (.int (0 : Int32))] [(.ref a1)])) (fun t k => XS.aloadN X47.here hx rfl (hb hby d12_49) rfl rfl k) ?_
      obtain ⟨T48, X48, e48, st48⟩ := getF X47 hx hZ hown (host := "") (Or.inl (own_w hw 81 rfl)) Via.refl e47 F_ch (g := (mkF m 50 #[.val (.ref a1), .val (.int (0 : Int32))] [(.ref a1)])) rfl rfl (hb hby d12_50)
      refine own_step (T' := T48) (f' := (mkF m 53 #[.val (.ref a1), .val (.int (0 : Int32))] [(.ref b)])) (fun t k => st48 t k) ?_
      refine own_step (T' := T48) (f' := (mkF m 54 #[.val (.ref a1), .val (.int (0 : Int32))] [(.int (0 : Int32)), (.ref b)])) (fun t k => XS.iloadN X48.here hx rfl (hb hby d12_53) rfl k) ?_
      obtain ⟨cl49, Ar49, q49, S49, M49, H49, G49⟩ := id V_b
      have hin49 : ¬ ((0 : Int32) < 0 ∨ cl49.slots.size ≤ ((0 : Int32)).toNatClampNeg) := inb_of S49 ⟨by decide, by decide⟩
      have hat49 : cl49.slots[((0 : Int32)).toNatClampNeg]? = some (.int y0) := own_at hin49 H49 0 rfl rfl
      refine own_step (T' := T48) (f' := (mkF m 55 #[.val (.ref a1), .val (.int (0 : Int32))] [(.int y0)])) (fun t k => X48.baloadBytes hx (j := (0 : Int32)) (v := (.int y0)) (by rw [e48]; exact Ar49.1) (State.isArrayOf_alike hZ.alike Ar49.2.1) Ar49.2.2 hin49 hat49 (g := (mkF m 54 #[.val (.ref a1), .val (.int (0 : Int32))] [(.int (0 : Int32)), (.ref b)])) rfl rfl (hb hby d12_54) _ k) ?_
      refine own_step (T' := T48) (f' := (mkF m 57 #[.val (.ref a1), .val (.int (0 : Int32))] [(.int (64 : Int32)), (.int y0)])) (fun t k => XS.bipush X48.here hx rfl (hb hby d12_55) k) ?_
      by_cases hc57_50 : y0 = (64 : Int32)
      · skip
        refine own_step (T' := T48) (f' := (mkF m 60 #[.val (.ref a1), .val (.int (0 : Int32))] [])) (fun t k => XS.icmpNo X48.here hx rfl (hb hby d12_57) rfl (teq hc57_50).2 k) ?_
        refine own_step (T' := T48) (f' := (mkF m 61 #[.val (.ref a1), .val (.int (0 : Int32))] [(.int (0 : Int32))])) (fun t k => XS.iloadN X48.here hx rfl (hb hby d12_60) rfl k) ?_
        refine own_step (T' := T48) (f' := (mkF m 62 #[.val (.ref a1), .val (.int (0 : Int32))] [(.int (1 : Int32)), (.int (0 : Int32))])) (fun t k => XS.iconst X48.here hx rfl (hb hby d12_61) k) ?_
        refine own_step (T' := T48) (f' := (mkF m 63 #[.val (.ref a1), .val (.int (0 : Int32))] [(.int (1 : Int32))])) (fun t k => XS.iadd X48.here hx rfl (hb hby d12_62) rfl k) ?_
        refine own_step (T' := T48) (f' := (mkF m 64 #[.val (.ref a1), .val (.int (0 : Int32))] [(.ref a1), (.int (1 : Int32))])) (fun t k => XS.aloadN X48.here hx rfl (hb hby d12_63) rfl rfl k) ?_
        obtain ⟨T51, X51, e51, st51⟩ := getF X48 hx hZ hown (host := "") (Or.inl (own_w hw 85 rfl)) Via.refl e48 F_e (g := (mkF m 64 #[.val (.ref a1), .val (.int (0 : Int32))] [(.ref a1), (.int (1 : Int32))])) rfl rfl (hb hby d12_64)
        refine own_step (T' := T51) (f' := (mkF m 67 #[.val (.ref a1), .val (.int (0 : Int32))] [(.int (3 : Int32)), (.int (1 : Int32))])) (fun t k => st51 t k) ?_
        refine own_step (T' := T51) (f' := (mkF m 70 #[.val (.ref a1), .val (.int (0 : Int32))] [])) (fun t k => XS.icmpNo X51.here hx rfl (hb hby d12_67) rfl (feq (by decide : ¬ ((1 : Int32) = (3 : Int32)))).1 k) ?_
        refine own_step (T' := T51) (f' := (mkF m 71 #[.val (.ref a1), .val (.int (0 : Int32))] [(.ref a1)])) (fun t k => XS.aloadN X51.here hx rfl (hb hby d12_70) rfl rfl k) ?_
        obtain ⟨T52, X52, e52, st52⟩ := getF X51 hx hZ hown (host := "") (Or.inl (own_w hw 81 rfl)) Via.refl e51 F_ch (g := (mkF m 71 #[.val (.ref a1), .val (.int (0 : Int32))] [(.ref a1)])) rfl rfl (hb hby d12_71)
        refine own_step (T' := T52) (f' := (mkF m 74 #[.val (.ref a1), .val (.int (0 : Int32))] [(.ref b)])) (fun t k => st52 t k) ?_
        refine own_step (T' := T52) (f' := (mkF m 75 #[.val (.ref a1), .val (.int (0 : Int32))] [(.int (0 : Int32)), (.ref b)])) (fun t k => XS.iloadN X52.here hx rfl (hb hby d12_74) rfl k) ?_
        refine own_step (T' := T52) (f' := (mkF m 76 #[.val (.ref a1), .val (.int (0 : Int32))] [(.int (1 : Int32)), (.int (0 : Int32)), (.ref b)])) (fun t k => XS.iconst X52.here hx rfl (hb hby d12_75) k) ?_
        refine own_step (T' := T52) (f' := (mkF m 77 #[.val (.ref a1), .val (.int (0 : Int32))] [(.int (1 : Int32)), (.ref b)])) (fun t k => XS.iadd X52.here hx rfl (hb hby d12_76) rfl k) ?_
        obtain ⟨cl53, Ar53, q53, S53, M53, H53, G53⟩ := id V_b
        have hin53 : ¬ ((1 : Int32) < 0 ∨ cl53.slots.size ≤ ((1 : Int32)).toNatClampNeg) := inb_of S53 ⟨by decide, by decide⟩
        have hat53 : cl53.slots[((1 : Int32)).toNatClampNeg]? = some (.int y1) := own_at hin53 H53 1 rfl rfl
        refine own_step (T' := T52) (f' := (mkF m 78 #[.val (.ref a1), .val (.int (0 : Int32))] [(.int y1)])) (fun t k => X52.baloadBytes hx (j := (1 : Int32)) (v := (.int y1)) (by rw [e52]; exact Ar53.1) (State.isArrayOf_alike hZ.alike Ar53.2.1) Ar53.2.2 hin53 hat53 (g := (mkF m 77 #[.val (.ref a1), .val (.int (0 : Int32))] [(.int (1 : Int32)), (.ref b)])) rfl rfl (hb hby d12_77) _ k) ?_
        refine own_step (T' := T52) (f' := (mkF m 80 #[.val (.ref a1), .val (.int (0 : Int32))] [(.int (32 : Int32)), (.int y1)])) (fun t k => XS.bipush X52.here hx rfl (hb hby d12_78) k) ?_
        by_cases hc80_54 : y1 = (32 : Int32)
        · skip
          refine own_step (T' := T52) (f' := (mkF m 109 #[.val (.ref a1), .val (.int (0 : Int32))] [])) (fun t k => XS.icmpYes X52.here hx rfl (pc0 := 80) (pc' := 109) rfl (hb hby d12_80) rfl (teq hc80_54).1 (by decide) (by decide) k) ?_
          refine own_step (T' := T52) (f' := (mkF m 110 #[.val (.ref a1), .val (.int (0 : Int32))] [(.int (1 : Int32))])) (fun t k => XS.iconst X52.here hx rfl (hb hby d12_109) k) ?_
          refine own_step (T' := T52) (f' := (mkF m 114 #[.val (.ref a1), .val (.int (0 : Int32))] [(.int (1 : Int32))])) (fun t k => XS.goto X52.here hx rfl (pc0 := 110) (pc' := 114) rfl (hb hby d12_110) (by decide) (by decide) k) ?_
          exact own_retN X52 hx hlk (t := .boolean) Bd.returns (by simp) (hb hby d12_114) (by decide) (by decide) ⟨by rw [show own_bs [y0, y1, y2] = (1 : Int32) from ((own_bs64 hc57_50).trans (own_nx32 hc80_54))]; rfl, N0, e52⟩
        · skip
          refine own_step (T' := T52) (f' := (mkF m 83 #[.val (.ref a1), .val (.int (0 : Int32))] [])) (fun t k => XS.icmpNo X52.here hx rfl (hb hby d12_80) rfl (feq hc80_54).1 k) ?_
          refine own_step (T' := T52) (f' := (mkF m 84 #[.val (.ref a1), .val (.int (0 : Int32))] [(.ref a1)])) (fun t k => XS.aloadN X52.here hx rfl (hb hby d12_83) rfl rfl k) ?_
          obtain ⟨T55, X55, e55, st55⟩ := getF X52 hx hZ hown (host := "") (Or.inl (own_w hw 81 rfl)) Via.refl e52 F_ch (g := (mkF m 84 #[.val (.ref a1), .val (.int (0 : Int32))] [(.ref a1)])) rfl rfl (hb hby d12_84)
          refine own_step (T' := T55) (f' := (mkF m 87 #[.val (.ref a1), .val (.int (0 : Int32))] [(.ref b)])) (fun t k => st55 t k) ?_
          refine own_step (T' := T55) (f' := (mkF m 88 #[.val (.ref a1), .val (.int (0 : Int32))] [(.int (0 : Int32)), (.ref b)])) (fun t k => XS.iloadN X55.here hx rfl (hb hby d12_87) rfl k) ?_
          refine own_step (T' := T55) (f' := (mkF m 89 #[.val (.ref a1), .val (.int (0 : Int32))] [(.int (1 : Int32)), (.int (0 : Int32)), (.ref b)])) (fun t k => XS.iconst X55.here hx rfl (hb hby d12_88) k) ?_
          refine own_step (T' := T55) (f' := (mkF m 90 #[.val (.ref a1), .val (.int (0 : Int32))] [(.int (1 : Int32)), (.ref b)])) (fun t k => XS.iadd X55.here hx rfl (hb hby d12_89) rfl k) ?_
          obtain ⟨cl56, Ar56, q56, S56, M56, H56, G56⟩ := id V_b
          have hin56 : ¬ ((1 : Int32) < 0 ∨ cl56.slots.size ≤ ((1 : Int32)).toNatClampNeg) := inb_of S56 ⟨by decide, by decide⟩
          have hat56 : cl56.slots[((1 : Int32)).toNatClampNeg]? = some (.int y1) := own_at hin56 H56 1 rfl rfl
          refine own_step (T' := T55) (f' := (mkF m 91 #[.val (.ref a1), .val (.int (0 : Int32))] [(.int y1)])) (fun t k => X55.baloadBytes hx (j := (1 : Int32)) (v := (.int y1)) (by rw [e55]; exact Ar56.1) (State.isArrayOf_alike hZ.alike Ar56.2.1) Ar56.2.2 hin56 hat56 (g := (mkF m 90 #[.val (.ref a1), .val (.int (0 : Int32))] [(.int (1 : Int32)), (.ref b)])) rfl rfl (hb hby d12_90) _ k) ?_
          refine own_step (T' := T55) (f' := (mkF m 93 #[.val (.ref a1), .val (.int (0 : Int32))] [(.int (9 : Int32)), (.int y1)])) (fun t k => XS.bipush X55.here hx rfl (hb hby d12_91) k) ?_
          by_cases hc93_57 : y1 = (9 : Int32)
          · skip
            refine own_step (T' := T55) (f' := (mkF m 109 #[.val (.ref a1), .val (.int (0 : Int32))] [])) (fun t k => XS.icmpYes X55.here hx rfl (pc0 := 93) (pc' := 109) rfl (hb hby d12_93) rfl (teq hc93_57).1 (by decide) (by decide) k) ?_
            refine own_step (T' := T55) (f' := (mkF m 110 #[.val (.ref a1), .val (.int (0 : Int32))] [(.int (1 : Int32))])) (fun t k => XS.iconst X55.here hx rfl (hb hby d12_109) k) ?_
            refine own_step (T' := T55) (f' := (mkF m 114 #[.val (.ref a1), .val (.int (0 : Int32))] [(.int (1 : Int32))])) (fun t k => XS.goto X55.here hx rfl (pc0 := 110) (pc' := 114) rfl (hb hby d12_110) (by decide) (by decide) k) ?_
            exact own_retN X55 hx hlk (t := .boolean) Bd.returns (by simp) (hb hby d12_114) (by decide) (by decide) ⟨by rw [show own_bs [y0, y1, y2] = (1 : Int32) from ((own_bs64 hc57_50).trans (own_nx9 hc93_57))]; rfl, N0, e55⟩
          · skip
            refine own_step (T' := T55) (f' := (mkF m 96 #[.val (.ref a1), .val (.int (0 : Int32))] [])) (fun t k => XS.icmpNo X55.here hx rfl (hb hby d12_93) rfl (feq hc93_57).1 k) ?_
            refine own_step (T' := T55) (f' := (mkF m 97 #[.val (.ref a1), .val (.int (0 : Int32))] [(.ref a1)])) (fun t k => XS.aloadN X55.here hx rfl (hb hby d12_96) rfl rfl k) ?_
            obtain ⟨T58, X58, e58, st58⟩ := getF X55 hx hZ hown (host := "") (Or.inl (own_w hw 81 rfl)) Via.refl e55 F_ch (g := (mkF m 97 #[.val (.ref a1), .val (.int (0 : Int32))] [(.ref a1)])) rfl rfl (hb hby d12_97)
            refine own_step (T' := T58) (f' := (mkF m 100 #[.val (.ref a1), .val (.int (0 : Int32))] [(.ref b)])) (fun t k => st58 t k) ?_
            refine own_step (T' := T58) (f' := (mkF m 101 #[.val (.ref a1), .val (.int (0 : Int32))] [(.int (0 : Int32)), (.ref b)])) (fun t k => XS.iloadN X58.here hx rfl (hb hby d12_100) rfl k) ?_
            refine own_step (T' := T58) (f' := (mkF m 102 #[.val (.ref a1), .val (.int (0 : Int32))] [(.int (1 : Int32)), (.int (0 : Int32)), (.ref b)])) (fun t k => XS.iconst X58.here hx rfl (hb hby d12_101) k) ?_
            refine own_step (T' := T58) (f' := (mkF m 103 #[.val (.ref a1), .val (.int (0 : Int32))] [(.int (1 : Int32)), (.ref b)])) (fun t k => XS.iadd X58.here hx rfl (hb hby d12_102) rfl k) ?_
            obtain ⟨cl59, Ar59, q59, S59, M59, H59, G59⟩ := id V_b
            have hin59 : ¬ ((1 : Int32) < 0 ∨ cl59.slots.size ≤ ((1 : Int32)).toNatClampNeg) := inb_of S59 ⟨by decide, by decide⟩
            have hat59 : cl59.slots[((1 : Int32)).toNatClampNeg]? = some (.int y1) := own_at hin59 H59 1 rfl rfl
            refine own_step (T' := T58) (f' := (mkF m 104 #[.val (.ref a1), .val (.int (0 : Int32))] [(.int y1)])) (fun t k => X58.baloadBytes hx (j := (1 : Int32)) (v := (.int y1)) (by rw [e58]; exact Ar59.1) (State.isArrayOf_alike hZ.alike Ar59.2.1) Ar59.2.2 hin59 hat59 (g := (mkF m 103 #[.val (.ref a1), .val (.int (0 : Int32))] [(.int (1 : Int32)), (.ref b)])) rfl rfl (hb hby d12_103) _ k) ?_
            refine own_step (T' := T58) (f' := (mkF m 106 #[.val (.ref a1), .val (.int (0 : Int32))] [(.int (42 : Int32)), (.int y1)])) (fun t k => XS.bipush X58.here hx rfl (hb hby d12_104) k) ?_
            by_cases hc106_60 : y1 = (42 : Int32)
            · skip
              refine own_step (T' := T58) (f' := (mkF m 109 #[.val (.ref a1), .val (.int (0 : Int32))] [])) (fun t k => XS.icmpNo X58.here hx rfl (hb hby d12_106) rfl (teq hc106_60).2 k) ?_
              refine own_step (T' := T58) (f' := (mkF m 110 #[.val (.ref a1), .val (.int (0 : Int32))] [(.int (1 : Int32))])) (fun t k => XS.iconst X58.here hx rfl (hb hby d12_109) k) ?_
              refine own_step (T' := T58) (f' := (mkF m 114 #[.val (.ref a1), .val (.int (0 : Int32))] [(.int (1 : Int32))])) (fun t k => XS.goto X58.here hx rfl (pc0 := 110) (pc' := 114) rfl (hb hby d12_110) (by decide) (by decide) k) ?_
              exact own_retN X58 hx hlk (t := .boolean) Bd.returns (by simp) (hb hby d12_114) (by decide) (by decide) ⟨by rw [show own_bs [y0, y1, y2] = (1 : Int32) from ((own_bs64 hc57_50).trans (own_nx42 hc106_60))]; rfl, N0, e58⟩
            · skip
              refine own_step (T' := T58) (f' := (mkF m 113 #[.val (.ref a1), .val (.int (0 : Int32))] [])) (fun t k => XS.icmpYes X58.here hx rfl (pc0 := 106) (pc' := 113) rfl (hb hby d12_106) rfl (feq hc106_60).2 (by decide) (by decide) k) ?_
              refine own_step (T' := T58) (f' := (mkF m 114 #[.val (.ref a1), .val (.int (0 : Int32))] [(.int (0 : Int32))])) (fun t k => XS.iconst X58.here hx rfl (hb hby d12_113) k) ?_
              exact own_retN X58 hx hlk (t := .boolean) Bd.returns (by simp) (hb hby d12_114) (by decide) (by decide) ⟨by rw [show own_bs [y0, y1, y2] = (0 : Int32) from ((own_bs64 hc57_50).trans (own_nxN hc80_54 hc93_57 hc106_60))]; rfl, N0, e58⟩
      · skip
        refine own_step (T' := T48) (f' := (mkF m 113 #[.val (.ref a1), .val (.int (0 : Int32))] [])) (fun t k => XS.icmpYes X48.here hx rfl (pc0 := 57) (pc' := 113) rfl (hb hby d12_57) rfl (feq hc57_50).2 (by decide) (by decide) k) ?_
        refine own_step (T' := T48) (f' := (mkF m 114 #[.val (.ref a1), .val (.int (0 : Int32))] [(.int (0 : Int32))])) (fun t k => XS.iconst X48.here hx rfl (hb hby d12_113) k) ?_
        exact own_retN X48 hx hlk (t := .boolean) Bd.returns (by simp) (hb hby d12_114) (by decide) (by decide) ⟨by rw [show own_bs [y0, y1, y2] = (0 : Int32) from (own_bsN hc21_43 hc32_46 hc57_50)]; rfl, N0, e48⟩

def Q3_3 (Z : State) (a1 : Addr) (c0 c1 c2 : Int32) (h0 : Heap) (n0 : Nat) (v : Option Value) (h : Heap) (L : List Loc) : Prop := v = none ∧ Fr n0 L ∧ Keep h0 h [a1] ∧ ∃ (b : Addr) (k : ClassId), OwnStr Z h a1 b k 3 [(.int (own_sb c0)), (.int (own_sb c1)), (.int (own_sb c2))]
def Q14_3 (Z : State) (a3 : Addr) (kb : ClassId) (c0 c1 c2 : Int32) (h0 : Heap) (n0 : Nat) (v : Option Value) (h : Heap) (L : List Loc) : Prop := v = some (.int 3) ∧ Fr n0 L ∧ Keep h0 h [a3] ∧ Arv Z h a3 kb .byte (3 : Int32) [(.int (own_sb c0)), (.int (own_sb c1)), (.int (own_sb c2))] (.int (0 : Int32))
theorem ef_rm14_3 (m : MethodId) (x0 : Addr) (x1 : Int32) (x2 : Addr) (x3 : Int32) (x4 : Int32) : entryFrame m #[(.ref x0), (.int x1), (.ref x2), (.int x3), (.int x4)] 7 = mkF m 0 #[.val (.ref x0), .val (.int x1), .val (.ref x2), .val (.int x3), .val (.int x4), .unset, .unset] [] := by first | (simp [entryFrame, mkF, argsToLocals, Value.category]; done) | rfl
set_option maxRecDepth 65536 in
set_option maxHeartbeats 40000000 in
theorem rm14_3 (l : Launch) (Z : State) (a0 : Array Value) (hw : ∀ d ∈ tables_1, d.before a0 Z = true) (ws : List Jvm.Cond) (a1 : Addr) (a3 : Addr) (h0 : Heap) (n0 : Nat) (Z0 : n0 ≤ h0.size) (kc kb : ClassId) (c0 c1 c2 : Int32) (hC0 : OwnC c0) (hC1 : OwnC c1) (hC2 : OwnC c2) (V_a1 : Arv Z h0 a1 kc .char (3 : Int32) [(.int c0), (.int c1), (.int c2)] (.int (0 : Int32))) (V_a3 : Arv Z h0 a3 kb .byte (3 : Int32) [(.int (0 : Int32)), (.int (0 : Int32)), (.int (0 : Int32))] (.int (0 : Int32))) (ne13 : a1 ≠ a3) (g_a3 : n0 ≤ a3) :
    MetFree l (⟨"java/lang/StringUTF16", "compress", "([CI[BII)I"⟩ : MethodName) (head1 (Jvm.Cond.code (⟨"java/lang/StringUTF16", "compress", "([CI[BII)I"⟩ : MethodName) jdk_52_method_21_code 7 (some .int) :: ws) ({ frames := 0, cells := 0, slots := 0, locals := 0 } : Room)) (fun a U => a = #[(.ref a1), (.int (0 : Int32)), (.ref a3), (.int (0 : Int32)), (.int (3 : Int32))] ∧ Z.Warmed39 U.vm ∧ U.heap = h0) (fun _ _ _ _ _ => True) (fun _ U o U' => ∃ v L, o = .returned v ∧ Q14_3 Z a3 kb c0 c1 c2 h0 n0 v U'.heap L ∧ FrameEnd U o U' L ({ frames := 0, cells := 0, slots := 0, locals := 0 } : Room).cells ({ frames := 0, cells := 0, slots := 0, locals := 0 } : Room).slots) := by
  refine MetFree.of_bodySF (plainFor_of_name pn_14) hisR ?_
  intro p e s m args below meth c s₁ Bd hml0 hP hK
  obtain ⟨rfl, hZ, hh⟩ := hP
  have hx := Bd.exec
  have hby := Bd.bytes
  have hlk : meth.locks = false := BodyLoose.notSynchronized Bd
  have hml : c.maxLocals = 7 := hml0
  have hown : s.vm.findClass "java/lang/StringUTF16" = some m.cls := findClass_of_methodNamed Bd.named
  have hnm := (name_of_methodNamed Bd.named Bd.method).1
  have X0 : Stand p l e ({ frames := 0, cells := 0, slots := 0, locals := 0 } : Room) s m #[(.ref a1), (.int (0 : Int32)), (.ref a3), (.int (0 : Int32)), (.int (3 : Int32))] below meth c s₁ [] 0 0 := Stand.of_body Bd
  have e0 : s₁.heap = h0 := by rw [← hh, Bd.state]; rfl
  have N0 := Fr.nil n0
  have Zz := Z0
  have Kp : Keep h0 h0 [a3] := Keep.refl _ _
  show OwnEnds p e below s (Q14_3 Z a3 kb c0 c1 c2 h0 n0) ({ frames := 0, cells := 0, slots := 0, locals := 0 } : Room).cells ({ frames := 0, cells := 0, slots := 0, locals := 0 } : Room).slots s₁ (entryFrame m #[(.ref a1), (.int (0 : Int32)), (.ref a3), (.int (0 : Int32)), (.int (3 : Int32))] 7)
  refine own_step (T' := s₁) (f' := (mkF m 0 #[.val (.ref a1), .val (.int (0 : Int32)), .val (.ref a3), .val (.int (0 : Int32)), .val (.int (3 : Int32)), .unset, .unset] [])) (fun t k => castTop (ef_rm14_3 m a1 (0 : Int32) a3 (0 : Int32) (3 : Int32)) k) ?_
  let F1 : Nat → List Value → JFrame := fun a b => mkF m a #[.val (.ref a1), .val (.int (0 : Int32)), .val (.ref a3), .val (.int (0 : Int32)), .val (.int (3 : Int32)), .unset, .unset] b
  refine own_step (T' := s₁) (f' := (F1 1 [(.int (0 : Int32))])) (fun t k => XS.iconst X0.here hx rfl (hb hby d14_0) k) ?_
  let F2 : Nat → List Value → JFrame := fun a b => mkF m a #[.val (.ref a1), .val (.int (0 : Int32)), .val (.ref a3), .val (.int (0 : Int32)), .val (.int (3 : Int32)), .val (.int (0 : Int32)), .unset] b
  refine own_step (T' := s₁) (f' := (F2 3 [])) (fun t k => XS.istore X0.here hx rfl (hb hby d14_1) rfl (l' := #[.val (.ref a1), .val (.int (0 : Int32)), .val (.ref a3), .val (.int (0 : Int32)), .val (.int (3 : Int32)), .val (.int (0 : Int32)), .unset]) rfl k) ?_
  refine own_step (T' := s₁) (f' := (F2 5 [(.int (0 : Int32))])) (fun t k => XS.iload X0.here hx rfl (hb hby d14_3) rfl k) ?_
  refine own_step (T' := s₁) (f' := (F2 7 [(.int (3 : Int32)), (.int (0 : Int32))])) (fun t k => XS.iload X0.here hx rfl (hb hby d14_5) rfl k) ?_
  refine own_step (T' := s₁) (f' := (F2 10 [])) (fun t k => XS.icmpNo X0.here hx rfl (hb hby d14_7) rfl (tlt (by decide : (0 : Int32) < (3 : Int32))).2.1 k) ?_
  refine own_step (T' := s₁) (f' := (F2 11 [(.ref a1)])) (fun t k => XS.aloadN X0.here hx rfl (hb hby d14_10) rfl rfl k) ?_
  refine own_step (T' := s₁) (f' := (F2 12 [(.int (0 : Int32)), (.ref a1)])) (fun t k => XS.iloadN X0.here hx rfl (hb hby d14_11) rfl k) ?_
  obtain ⟨cl3, Ar3, q3, S3, M3, H3, G3⟩ := id V_a1
  have hin3 : ¬ ((0 : Int32) < 0 ∨ cl3.slots.size ≤ ((0 : Int32)).toNatClampNeg) := inb_of S3 ⟨by decide, by decide⟩
  have hat3 : cl3.slots[((0 : Int32)).toNatClampNeg]? = some (.int c0) := own_at hin3 H3 0 rfl rfl
  refine own_step (T' := s₁) (f' := (F2 13 [(.int c0)])) (fun t k => X0.caload hx (j := (0 : Int32)) (v := (.int c0)) (by rw [e0]; exact Ar3.1) (State.isArrayOf_alike hZ.alike Ar3.2.1) Ar3.2.2 hin3 hat3 (g := (F2 12 [(.int (0 : Int32)), (.ref a1)])) rfl rfl (hb hby d14_12) _ k) ?_
  let F4 : Nat → List Value → JFrame := fun a b => mkF m a #[.val (.ref a1), .val (.int (0 : Int32)), .val (.ref a3), .val (.int (0 : Int32)), .val (.int (3 : Int32)), .val (.int (0 : Int32)), .val (.int c0)] b
  refine own_step (T' := s₁) (f' := (F4 15 [])) (fun t k => XS.istore X0.here hx rfl (hb hby d14_13) rfl (l' := #[.val (.ref a1), .val (.int (0 : Int32)), .val (.ref a3), .val (.int (0 : Int32)), .val (.int (3 : Int32)), .val (.int (0 : Int32)), .val (.int c0)]) rfl k) ?_
  refine own_step (T' := s₁) (f' := (F4 17 [(.int c0)])) (fun t k => XS.iload X0.here hx rfl (hb hby d14_15) rfl k) ?_
  refine own_step (T' := s₁) (f' := (F4 20 [(.int (255 : Int32)), (.int c0)])) (fun t k => XS.sipush X0.here hx rfl (hb hby d14_17) k) ?_
  refine own_step (T' := s₁) (f' := (F4 26 [])) (fun t k => XS.icmpYes X0.here hx rfl (pc0 := 20) (pc' := 26) rfl (hb hby d14_20) rfl (flt (own_c255 hC0)).2.2.2 (by decide) (by decide) k) ?_
  refine own_step (T' := s₁) (f' := (F4 27 [(.ref a3)])) (fun t k => XS.aloadN X0.here hx rfl (hb hby d14_26) rfl rfl k) ?_
  refine own_step (T' := s₁) (f' := (F4 28 [(.int (0 : Int32)), (.ref a3)])) (fun t k => XS.iloadN X0.here hx rfl (hb hby d14_27) rfl k) ?_
  refine own_step (T' := s₁) (f' := (F4 30 [(.int c0), (.int (0 : Int32)), (.ref a3)])) (fun t k => XS.iload X0.here hx rfl (hb hby d14_28) rfl k) ?_
  refine own_step (T' := s₁) (f' := (F4 31 [(.int (c0.toInt8.toInt32)), (.int (0 : Int32)), (.ref a3)])) (fun t k => XS.i2b X0.here hx rfl (hb hby d14_30) rfl k) ?_
  obtain ⟨cl5, Ar5, q5, S5, M5, H5, G5⟩ := V_a3
  have hin5 : ¬ ((0 : Int32) < 0 ∨ cl5.slots.size ≤ ((0 : Int32)).toNatClampNeg) := inb_of S5 ⟨by decide, by decide⟩
  obtain ⟨T5, h5, X5, e5, W5, st5⟩ := stB X0 hx hZ e0 Ar5 (j := (0 : Int32)) hin5 (g := (F4 31 [(.int (c0.toInt8.toInt32)), (.int (0 : Int32)), (.ref a3)])) rfl rfl (hb hby d14_31)
  have V_a3 : Arv Z h5 a3 kb .byte (3 : Int32) [(.int (own_sb c0)), (.int (0 : Int32)), (.int (0 : Int32))] (.int (0 : Int32)) := Arv.set Ar5 q5 S5 M5 H5 G5 (fits_nar_byte _) W5 0 rfl (Nat.le_of_ble_eq_true rfl)
  replace V_a1 := V_a1.other W5 ne13
  replace Zz := Nat.le_trans Zz (Keep.of_wr W5).1
  replace Kp := Kp.wr W5 (Or.inl (List.mem_of_getElem? (i := 0) rfl))
  have N5 := Fr.snoc X5 N0 g_a3
  refine own_step (T' := T5) (f' := (F4 32 [])) (fun t k => st5 t k) ?_
  let F6 : Nat → List Value → JFrame := fun a b => mkF m a #[.val (.ref a1), .val (.int (1 : Int32)), .val (.ref a3), .val (.int (0 : Int32)), .val (.int (3 : Int32)), .val (.int (0 : Int32)), .val (.int c0)] b
  refine own_step (T' := T5) (f' := (F6 35 [])) (fun t k => XS.iinc X5.here hx rfl (hb hby d14_32) rfl (l' := #[.val (.ref a1), .val (.int (1 : Int32)), .val (.ref a3), .val (.int (0 : Int32)), .val (.int (3 : Int32)), .val (.int (0 : Int32)), .val (.int c0)]) rfl k) ?_
  let F7 : Nat → List Value → JFrame := fun a b => mkF m a #[.val (.ref a1), .val (.int (1 : Int32)), .val (.ref a3), .val (.int (1 : Int32)), .val (.int (3 : Int32)), .val (.int (0 : Int32)), .val (.int c0)] b
  refine own_step (T' := T5) (f' := (F7 38 [])) (fun t k => XS.iinc X5.here hx rfl (hb hby d14_35) rfl (l' := #[.val (.ref a1), .val (.int (1 : Int32)), .val (.ref a3), .val (.int (1 : Int32)), .val (.int (3 : Int32)), .val (.int (0 : Int32)), .val (.int c0)]) rfl k) ?_
  let F8 : Nat → List Value → JFrame := fun a b => mkF m a #[.val (.ref a1), .val (.int (1 : Int32)), .val (.ref a3), .val (.int (1 : Int32)), .val (.int (3 : Int32)), .val (.int (1 : Int32)), .val (.int c0)] b
  refine own_step (T' := T5) (f' := (F8 41 [])) (fun t k => XS.iinc X5.here hx rfl (hb hby d14_38) rfl (l' := #[.val (.ref a1), .val (.int (1 : Int32)), .val (.ref a3), .val (.int (1 : Int32)), .val (.int (3 : Int32)), .val (.int (1 : Int32)), .val (.int c0)]) rfl k) ?_
  refine own_step (T' := T5) (f' := (F8 3 [])) (fun t k => XS.goto X5.here hx rfl (pc0 := 41) (pc' := 3) rfl (hb hby d14_41) (by decide) (by decide) k) ?_
  refine own_step (T' := T5) (f' := (F8 5 [(.int (1 : Int32))])) (fun t k => XS.iload X5.here hx rfl (hb hby d14_3) rfl k) ?_
  refine own_step (T' := T5) (f' := (F8 7 [(.int (3 : Int32)), (.int (1 : Int32))])) (fun t k => XS.iload X5.here hx rfl (hb hby d14_5) rfl k) ?_
  refine own_step (T' := T5) (f' := (F8 10 [])) (fun t k => XS.icmpNo X5.here hx rfl (hb hby d14_7) rfl (tlt (by decide : (1 : Int32) < (3 : Int32))).2.1 k) ?_
  refine own_step (T' := T5) (f' := (F8 11 [(.ref a1)])) (fun t k => XS.aloadN X5.here hx rfl (hb hby d14_10) rfl rfl k) ?_
  refine own_step (T' := T5) (f' := (F8 12 [(.int (1 : Int32)), (.ref a1)])) (fun t k => XS.iloadN X5.here hx rfl (hb hby d14_11) rfl k) ?_
  obtain ⟨cl9, Ar9, q9, S9, M9, H9, G9⟩ := id V_a1
  have hin9 : ¬ ((1 : Int32) < 0 ∨ cl9.slots.size ≤ ((1 : Int32)).toNatClampNeg) := inb_of S9 ⟨by decide, by decide⟩
  have hat9 : cl9.slots[((1 : Int32)).toNatClampNeg]? = some (.int c1) := own_at hin9 H9 1 rfl rfl
  refine own_step (T' := T5) (f' := (F8 13 [(.int c1)])) (fun t k => X5.caload hx (j := (1 : Int32)) (v := (.int c1)) (by rw [e5]; exact Ar9.1) (State.isArrayOf_alike hZ.alike Ar9.2.1) Ar9.2.2 hin9 hat9 (g := (F8 12 [(.int (1 : Int32)), (.ref a1)])) rfl rfl (hb hby d14_12) _ k) ?_
  let F10 : Nat → List Value → JFrame := fun a b => mkF m a #[.val (.ref a1), .val (.int (1 : Int32)), .val (.ref a3), .val (.int (1 : Int32)), .val (.int (3 : Int32)), .val (.int (1 : Int32)), .val (.int c1)] b
  refine own_step (T' := T5) (f' := (F10 15 [])) (fun t k => XS.istore X5.here hx rfl (hb hby d14_13) rfl (l' := #[.val (.ref a1), .val (.int (1 : Int32)), .val (.ref a3), .val (.int (1 : Int32)), .val (.int (3 : Int32)), .val (.int (1 : Int32)), .val (.int c1)]) rfl k) ?_
  refine own_step (T' := T5) (f' := (F10 17 [(.int c1)])) (fun t k => XS.iload X5.here hx rfl (hb hby d14_15) rfl k) ?_
  refine own_step (T' := T5) (f' := (F10 20 [(.int (255 : Int32)), (.int c1)])) (fun t k => XS.sipush X5.here hx rfl (hb hby d14_17) k) ?_
  refine own_step (T' := T5) (f' := (F10 26 [])) (fun t k => XS.icmpYes X5.here hx rfl (pc0 := 20) (pc' := 26) rfl (hb hby d14_20) rfl (flt (own_c255 hC1)).2.2.2 (by decide) (by decide) k) ?_
  refine own_step (T' := T5) (f' := (F10 27 [(.ref a3)])) (fun t k => XS.aloadN X5.here hx rfl (hb hby d14_26) rfl rfl k) ?_
  refine own_step (T' := T5) (f' := (F10 28 [(.int (1 : Int32)), (.ref a3)])) (fun t k => XS.iloadN X5.here hx rfl (hb hby d14_27) rfl k) ?_
  refine own_step (T' := T5) (f' := (F10 30 [(.int c1), (.int (1 : Int32)), (.ref a3)])) (fun t k => XS.iload X5.here hx rfl (hb hby d14_28) rfl k) ?_
  refine own_step (T' := T5) (f' := (F10 31 [(.int (c1.toInt8.toInt32)), (.int (1 : Int32)), (.ref a3)])) (fun t k => XS.i2b X5.here hx rfl (hb hby d14_30) rfl k) ?_
  obtain ⟨cl11, Ar11, q11, S11, M11, H11, G11⟩ := V_a3
  have hin11 : ¬ ((1 : Int32) < 0 ∨ cl11.slots.size ≤ ((1 : Int32)).toNatClampNeg) := inb_of S11 ⟨by decide, by decide⟩
  obtain ⟨T11, h11, X11, e11, W11, st11⟩ := stB X5 hx hZ e5 Ar11 (j := (1 : Int32)) hin11 (g := (F10 31 [(.int (c1.toInt8.toInt32)), (.int (1 : Int32)), (.ref a3)])) rfl rfl (hb hby d14_31)
  have V_a3 : Arv Z h11 a3 kb .byte (3 : Int32) [(.int (own_sb c0)), (.int (own_sb c1)), (.int (0 : Int32))] (.int (0 : Int32)) := Arv.set Ar11 q11 S11 M11 H11 G11 (fits_nar_byte _) W11 1 rfl (Nat.le_of_ble_eq_true rfl)
  replace V_a1 := V_a1.other W11 ne13
  replace Zz := Nat.le_trans Zz (Keep.of_wr W11).1
  replace Kp := Kp.wr W11 (Or.inl (List.mem_of_getElem? (i := 0) rfl))
  have N11 := Fr.snoc X11 N5 g_a3
  refine own_step (T' := T11) (f' := (F10 32 [])) (fun t k => st11 t k) ?_
  let F12 : Nat → List Value → JFrame := fun a b => mkF m a #[.val (.ref a1), .val (.int (2 : Int32)), .val (.ref a3), .val (.int (1 : Int32)), .val (.int (3 : Int32)), .val (.int (1 : Int32)), .val (.int c1)] b
  refine own_step (T' := T11) (f' := (F12 35 [])) (fun t k => XS.iinc X11.here hx rfl (hb hby d14_32) rfl (l' := #[.val (.ref a1), .val (.int (2 : Int32)), .val (.ref a3), .val (.int (1 : Int32)), .val (.int (3 : Int32)), .val (.int (1 : Int32)), .val (.int c1)]) rfl k) ?_
  let F13 : Nat → List Value → JFrame := fun a b => mkF m a #[.val (.ref a1), .val (.int (2 : Int32)), .val (.ref a3), .val (.int (2 : Int32)), .val (.int (3 : Int32)), .val (.int (1 : Int32)), .val (.int c1)] b
  refine own_step (T' := T11) (f' := (F13 38 [])) (fun t k => XS.iinc X11.here hx rfl (hb hby d14_35) rfl (l' := #[.val (.ref a1), .val (.int (2 : Int32)), .val (.ref a3), .val (.int (2 : Int32)), .val (.int (3 : Int32)), .val (.int (1 : Int32)), .val (.int c1)]) rfl k) ?_
  let F14 : Nat → List Value → JFrame := fun a b => mkF m a #[.val (.ref a1), .val (.int (2 : Int32)), .val (.ref a3), .val (.int (2 : Int32)), .val (.int (3 : Int32)), .val (.int (2 : Int32)), .val (.int c1)] b
  refine own_step (T' := T11) (f' := (F14 41 [])) (fun t k => XS.iinc X11.here hx rfl (hb hby d14_38) rfl (l' := #[.val (.ref a1), .val (.int (2 : Int32)), .val (.ref a3), .val (.int (2 : Int32)), .val (.int (3 : Int32)), .val (.int (2 : Int32)), .val (.int c1)]) rfl k) ?_
  refine own_step (T' := T11) (f' := (F14 3 [])) (fun t k => XS.goto X11.here hx rfl (pc0 := 41) (pc' := 3) rfl (hb hby d14_41) (by decide) (by decide) k) ?_
  refine own_step (T' := T11) (f' := (F14 5 [(.int (2 : Int32))])) (fun t k => XS.iload X11.here hx rfl (hb hby d14_3) rfl k) ?_
  refine own_step (T' := T11) (f' := (F14 7 [(.int (3 : Int32)), (.int (2 : Int32))])) (fun t k => XS.iload X11.here hx rfl (hb hby d14_5) rfl k) ?_
  refine own_step (T' := T11) (f' := (F14 10 [])) (fun t k => XS.icmpNo X11.here hx rfl (hb hby d14_7) rfl (tlt (by decide : (2 : Int32) < (3 : Int32))).2.1 k) ?_
  refine own_step (T' := T11) (f' := (F14 11 [(.ref a1)])) (fun t k => XS.aloadN X11.here hx rfl (hb hby d14_10) rfl rfl k) ?_
  refine own_step (T' := T11) (f' := (F14 12 [(.int (2 : Int32)), (.ref a1)])) (fun t k => XS.iloadN X11.here hx rfl (hb hby d14_11) rfl k) ?_
  obtain ⟨cl15, Ar15, q15, S15, M15, H15, G15⟩ := id V_a1
  have hin15 : ¬ ((2 : Int32) < 0 ∨ cl15.slots.size ≤ ((2 : Int32)).toNatClampNeg) := inb_of S15 ⟨by decide, by decide⟩
  have hat15 : cl15.slots[((2 : Int32)).toNatClampNeg]? = some (.int c2) := own_at hin15 H15 2 rfl rfl
  refine own_step (T' := T11) (f' := (F14 13 [(.int c2)])) (fun t k => X11.caload hx (j := (2 : Int32)) (v := (.int c2)) (by rw [e11]; exact Ar15.1) (State.isArrayOf_alike hZ.alike Ar15.2.1) Ar15.2.2 hin15 hat15 (g := (F14 12 [(.int (2 : Int32)), (.ref a1)])) rfl rfl (hb hby d14_12) _ k) ?_
  let F16 : Nat → List Value → JFrame := fun a b => mkF m a #[.val (.ref a1), .val (.int (2 : Int32)), .val (.ref a3), .val (.int (2 : Int32)), .val (.int (3 : Int32)), .val (.int (2 : Int32)), .val (.int c2)] b
  refine own_step (T' := T11) (f' := (F16 15 [])) (fun t k => XS.istore X11.here hx rfl (hb hby d14_13) rfl (l' := #[.val (.ref a1), .val (.int (2 : Int32)), .val (.ref a3), .val (.int (2 : Int32)), .val (.int (3 : Int32)), .val (.int (2 : Int32)), .val (.int c2)]) rfl k) ?_
  refine own_step (T' := T11) (f' := (F16 17 [(.int c2)])) (fun t k => XS.iload X11.here hx rfl (hb hby d14_15) rfl k) ?_
  refine own_step (T' := T11) (f' := (F16 20 [(.int (255 : Int32)), (.int c2)])) (fun t k => XS.sipush X11.here hx rfl (hb hby d14_17) k) ?_
  refine own_step (T' := T11) (f' := (F16 26 [])) (fun t k => XS.icmpYes X11.here hx rfl (pc0 := 20) (pc' := 26) rfl (hb hby d14_20) rfl (flt (own_c255 hC2)).2.2.2 (by decide) (by decide) k) ?_
  refine own_step (T' := T11) (f' := (F16 27 [(.ref a3)])) (fun t k => XS.aloadN X11.here hx rfl (hb hby d14_26) rfl rfl k) ?_
  refine own_step (T' := T11) (f' := (F16 28 [(.int (2 : Int32)), (.ref a3)])) (fun t k => XS.iloadN X11.here hx rfl (hb hby d14_27) rfl k) ?_
  refine own_step (T' := T11) (f' := (F16 30 [(.int c2), (.int (2 : Int32)), (.ref a3)])) (fun t k => XS.iload X11.here hx rfl (hb hby d14_28) rfl k) ?_
  refine own_step (T' := T11) (f' := (F16 31 [(.int (c2.toInt8.toInt32)), (.int (2 : Int32)), (.ref a3)])) (fun t k => XS.i2b X11.here hx rfl (hb hby d14_30) rfl k) ?_
  obtain ⟨cl17, Ar17, q17, S17, M17, H17, G17⟩ := V_a3
  have hin17 : ¬ ((2 : Int32) < 0 ∨ cl17.slots.size ≤ ((2 : Int32)).toNatClampNeg) := inb_of S17 ⟨by decide, by decide⟩
  obtain ⟨T17, h17, X17, e17, W17, st17⟩ := stB X11 hx hZ e11 Ar17 (j := (2 : Int32)) hin17 (g := (F16 31 [(.int (c2.toInt8.toInt32)), (.int (2 : Int32)), (.ref a3)])) rfl rfl (hb hby d14_31)
  have V_a3 : Arv Z h17 a3 kb .byte (3 : Int32) [(.int (own_sb c0)), (.int (own_sb c1)), (.int (own_sb c2))] (.int (0 : Int32)) := Arv.set Ar17 q17 S17 M17 H17 G17 (fits_nar_byte _) W17 2 rfl (Nat.le_of_ble_eq_true rfl)
  replace V_a1 := V_a1.other W17 ne13
  replace Zz := Nat.le_trans Zz (Keep.of_wr W17).1
  replace Kp := Kp.wr W17 (Or.inl (List.mem_of_getElem? (i := 0) rfl))
  have N17 := Fr.snoc X17 N11 g_a3
  refine own_step (T' := T17) (f' := (F16 32 [])) (fun t k => st17 t k) ?_
  let F18 : Nat → List Value → JFrame := fun a b => mkF m a #[.val (.ref a1), .val (.int (3 : Int32)), .val (.ref a3), .val (.int (2 : Int32)), .val (.int (3 : Int32)), .val (.int (2 : Int32)), .val (.int c2)] b
  refine own_step (T' := T17) (f' := (F18 35 [])) (fun t k => XS.iinc X17.here hx rfl (hb hby d14_32) rfl (l' := #[.val (.ref a1), .val (.int (3 : Int32)), .val (.ref a3), .val (.int (2 : Int32)), .val (.int (3 : Int32)), .val (.int (2 : Int32)), .val (.int c2)]) rfl k) ?_
  let F19 : Nat → List Value → JFrame := fun a b => mkF m a #[.val (.ref a1), .val (.int (3 : Int32)), .val (.ref a3), .val (.int (3 : Int32)), .val (.int (3 : Int32)), .val (.int (2 : Int32)), .val (.int c2)] b
  refine own_step (T' := T17) (f' := (F19 38 [])) (fun t k => XS.iinc X17.here hx rfl (hb hby d14_35) rfl (l' := #[.val (.ref a1), .val (.int (3 : Int32)), .val (.ref a3), .val (.int (3 : Int32)), .val (.int (3 : Int32)), .val (.int (2 : Int32)), .val (.int c2)]) rfl k) ?_
  let F20 : Nat → List Value → JFrame := fun a b => mkF m a #[.val (.ref a1), .val (.int (3 : Int32)), .val (.ref a3), .val (.int (3 : Int32)), .val (.int (3 : Int32)), .val (.int (3 : Int32)), .val (.int c2)] b
  refine own_step (T' := T17) (f' := (F20 41 [])) (fun t k => XS.iinc X17.here hx rfl (hb hby d14_38) rfl (l' := #[.val (.ref a1), .val (.int (3 : Int32)), .val (.ref a3), .val (.int (3 : Int32)), .val (.int (3 : Int32)), .val (.int (3 : Int32)), .val (.int c2)]) rfl k) ?_
  refine own_step (T' := T17) (f' := (F20 3 [])) (fun t k => XS.goto X17.here hx rfl (pc0 := 41) (pc' := 3) rfl (hb hby d14_41) (by decide) (by decide) k) ?_
  refine own_step (T' := T17) (f' := (F20 5 [(.int (3 : Int32))])) (fun t k => XS.iload X17.here hx rfl (hb hby d14_3) rfl k) ?_
  refine own_step (T' := T17) (f' := (F20 7 [(.int (3 : Int32)), (.int (3 : Int32))])) (fun t k => XS.iload X17.here hx rfl (hb hby d14_5) rfl k) ?_
  refine own_step (T' := T17) (f' := (F20 44 [])) (fun t k => XS.icmpYes X17.here hx rfl (pc0 := 7) (pc' := 44) rfl (hb hby d14_7) rfl (flt (by decide : ¬ ((3 : Int32) < (3 : Int32)))).2.1 (by decide) (by decide) k) ?_
  refine own_step (T' := T17) (f' := (F20 46 [(.int (3 : Int32))])) (fun t k => XS.iload X17.here hx rfl (hb hby d14_44) rfl k) ?_
  exact own_retO X17 hx hlk Bd.returns rfl (Or.inl ⟨rfl, Or.inl rfl, _, rfl⟩) (hb hby d14_46) (by decide) (by decide) (by rw [e17]; exact ⟨rfl, N17, Kp, V_a3⟩)

def Q13_3 (Z : State) (c0 c1 c2 : Int32) (h0 : Heap) (n0 : Nat) (v : Option Value) (h : Heap) (L : List Loc) : Prop := ∃ (b : Addr) (k : ClassId), v = some (.ref b) ∧ Fr n0 L ∧ Keep h0 h [] ∧ h0.size ≤ b ∧ Arv Z h b k .byte (3 : Int32) [(.int (own_sb c0)), (.int (own_sb c1)), (.int (own_sb c2))] (.int (0 : Int32)) ∧ Exa Z h b "[B"
theorem ef_rm13_3 (m : MethodId) (x0 : Addr) (x1 : Int32) (x2 : Int32) : entryFrame m #[(.ref x0), (.int x1), (.int x2)] 6 = mkF m 0 #[.val (.ref x0), .val (.int x1), .val (.int x2), .unset, .unset, .unset] [] := by first | (simp [entryFrame, mkF, argsToLocals, Value.category]; done) | rfl
set_option maxRecDepth 65536 in
set_option maxHeartbeats 40000000 in
theorem rm13_3 (l : Launch) (Z : State) (a0 : Array Value) (hw : ∀ d ∈ tables_1, d.before a0 Z = true) (ws : List Jvm.Cond) (a1 : Addr) (h0 : Heap) (n0 : Nat) (Z0 : n0 ≤ h0.size) (kc : ClassId) (c0 c1 c2 : Int32) (hC0 : OwnC c0) (hC1 : OwnC c1) (hC2 : OwnC c2) (V_a1 : Arv Z h0 a1 kc .char (3 : Int32) [(.int c0), (.int c1), (.int c2)] (.int (0 : Int32))) :
    MetFree l (⟨"java/lang/StringUTF16", "compress", "([CII)[B"⟩ : MethodName) (head1 (Jvm.Cond.code (⟨"java/lang/StringUTF16", "compress", "([CII)[B"⟩ : MethodName) jdk_52_method_16_code 6 (some (.array .byte)) :: ws) ({ frames := 1, cells := 1, slots := 3, locals := 18 } : Room)) (fun a U => a = #[(.ref a1), (.int (0 : Int32)), (.int (3 : Int32))] ∧ Z.Warmed39 U.vm ∧ U.heap = h0) (fun _ _ _ _ _ => True) (fun _ U o U' => ∃ v L, o = .returned v ∧ Q13_3 Z c0 c1 c2 h0 n0 v U'.heap L ∧ FrameEnd U o U' L ({ frames := 1, cells := 1, slots := 3, locals := 18 } : Room).cells ({ frames := 1, cells := 1, slots := 3, locals := 18 } : Room).slots) := by
  refine MetFree.of_bodySF (plainFor_of_name pn_13) hisR ?_
  intro p e s m args below meth c s₁ Bd hml0 hP hK
  obtain ⟨rfl, hZ, hh⟩ := hP
  have hx := Bd.exec
  have hby := Bd.bytes
  have hlk : meth.locks = false := BodyLoose.notSynchronized Bd
  have hml : c.maxLocals = 6 := hml0
  have hown : s.vm.findClass "java/lang/StringUTF16" = some m.cls := findClass_of_methodNamed Bd.named
  have hnm := (name_of_methodNamed Bd.named Bd.method).1
  have X0 : Stand p l e ({ frames := 1, cells := 1, slots := 3, locals := 18 } : Room) s m #[(.ref a1), (.int (0 : Int32)), (.int (3 : Int32))] below meth c s₁ [] 0 0 := Stand.of_body Bd
  have e0 : s₁.heap = h0 := by rw [← hh, Bd.state]; rfl
  have N0 := Fr.nil n0
  have Zz := Z0
  have Kp : Keep h0 h0 [] := Keep.refl _ _
  show OwnEnds p e below s (Q13_3 Z c0 c1 c2 h0 n0) ({ frames := 1, cells := 1, slots := 3, locals := 18 } : Room).cells ({ frames := 1, cells := 1, slots := 3, locals := 18 } : Room).slots s₁ (entryFrame m #[(.ref a1), (.int (0 : Int32)), (.int (3 : Int32))] 6)
  refine own_step (T' := s₁) (f' := (mkF m 0 #[.val (.ref a1), .val (.int (0 : Int32)), .val (.int (3 : Int32)), .unset, .unset, .unset] [])) (fun t k => castTop (ef_rm13_3 m a1 (0 : Int32) (3 : Int32)) k) ?_
  refine own_step (T' := s₁) (f' := (mkF m 1 #[.val (.ref a1), .val (.int (0 : Int32)), .val (.int (3 : Int32)), .unset, .unset, .unset] [(.int (3 : Int32))])) (fun t k => XS.iloadN X0.here hx rfl (hb hby d13_0) rfl k) ?_
  obtain ⟨T1, h1, k1, X1, e1, E1, A1, EX1, st1⟩ := newPE X0 hx hZ (own_w hw 23 rfl) e0 (g := (mkF m 1 #[.val (.ref a1), .val (.int (0 : Int32)), .val (.int (3 : Int32)), .unset, .unset, .unset] [(.int (3 : Int32))])) rfl (hb hby d13_1) rfl (by decide) (cap := 3) (by decide) (by decide) (by decide) (by decide) (ad := "[B") rfl
  obtain ⟨b1, g1⟩ : ∃ z, z = h0.size := ⟨_, rfl⟩
  rw [← g1] at A1 EX1 st1
  have ne_a1_b1 : a1 ≠ b1 := Nat.ne_of_lt (Nat.lt_of_lt_of_le V_a1.lt (Nat.le_of_eq g1.symm))
  have g_b1 : n0 ≤ b1 := Nat.le_trans Zz (Nat.le_of_eq g1.symm)
  have sz_b1 : h0.size ≤ b1 := Nat.le_trans Kp.1 (Nat.le_of_eq g1.symm)
  replace V_a1 := V_a1.ext E1
  replace Zz := Nat.le_trans Zz E1.1
  replace Kp := Kp.ext E1
  have V_b1 : Arv Z h1 b1 k1 .byte (3 : Int32) [(.int (0 : Int32)), (.int (0 : Int32)), (.int (0 : Int32))] (.int (0 : Int32)) := (Arv.new A1 (by decide)).pad (pad_rep [] (.int (0 : Int32)) 3)
  have EX_b1 := EX1
  refine own_step (T' := T1) (f' := (mkF m 3 #[.val (.ref a1), .val (.int (0 : Int32)), .val (.int (3 : Int32)), .unset, .unset, .unset] [(.ref b1)])) (fun t k => st1 t k) ?_
  refine own_step (T' := T1) (f' := (mkF m 4 #[.val (.ref a1), .val (.int (0 : Int32)), .val (.int (3 : Int32)), .val (.ref b1), .unset, .unset] [])) (fun t k => XS.astoreN X1.here hx rfl (hb hby d13_3) rfl rfl (l' := #[.val (.ref a1), .val (.int (0 : Int32)), .val (.int (3 : Int32)), .val (.ref b1), .unset, .unset]) rfl k) ?_
  refine own_step (T' := T1) (f' := (mkF m 5 #[.val (.ref a1), .val (.int (0 : Int32)), .val (.int (3 : Int32)), .val (.ref b1), .unset, .unset] [(.ref a1)])) (fun t k => XS.aloadN X1.here hx rfl (hb hby d13_4) rfl rfl k) ?_
  refine own_step (T' := T1) (f' := (mkF m 6 #[.val (.ref a1), .val (.int (0 : Int32)), .val (.int (3 : Int32)), .val (.ref b1), .unset, .unset] [(.int (0 : Int32)), (.ref a1)])) (fun t k => XS.iloadN X1.here hx rfl (hb hby d13_5) rfl k) ?_
  refine own_step (T' := T1) (f' := (mkF m 7 #[.val (.ref a1), .val (.int (0 : Int32)), .val (.int (3 : Int32)), .val (.ref b1), .unset, .unset] [(.ref b1), (.int (0 : Int32)), (.ref a1)])) (fun t k => XS.aloadN X1.here hx rfl (hb hby d13_6) rfl rfl k) ?_
  refine own_step (T' := T1) (f' := (mkF m 8 #[.val (.ref a1), .val (.int (0 : Int32)), .val (.int (3 : Int32)), .val (.ref b1), .unset, .unset] [(.int (0 : Int32)), (.ref b1), (.int (0 : Int32)), (.ref a1)])) (fun t k => XS.iconst X1.here hx rfl (hb hby d13_7) k) ?_
  refine own_step (T' := T1) (f' := (mkF m 9 #[.val (.ref a1), .val (.int (0 : Int32)), .val (.int (3 : Int32)), .val (.ref b1), .unset, .unset] [(.int (3 : Int32)), (.int (0 : Int32)), (.ref b1), (.int (0 : Int32)), (.ref a1)])) (fun t k => XS.iloadN X1.here hx rfl (hb hby d13_8) rfl k) ?_
  obtain ⟨_, _, ⟨T2, L2, k2, n2⟩, -, X2, ⟨Lc2, hQ2, l2, y2, z2⟩, st2⟩ := Jvm.LawKit.callS X1 hx (y := (⟨"java/lang/StringUTF16", "compress", "([CI[BII)I"⟩ : MethodName)) hown (mvT hZ (own_w hw 102 rfl)) (mvT hZ (own_w hw 103 rfl)) (mvT hZ (own_w hw 100 rfl)) (mvT hZ (own_w hw 104 rfl)) (by decide) (backOf (W := 0) (rm14_3 l Z a0 hw [] a1 b1 h1 n0 Zz kc k1 c0 c1 c2 hC0 hC1 hC2 V_a1 V_b1 ne_a1_b1 g_b1) hZ (own_w hw 104 rfl) (own_w hw 100 rfl) (by decide) (by decide)) (g := (mkF m 9 #[.val (.ref a1), .val (.int (0 : Int32)), .val (.int (3 : Int32)), .val (.ref b1), .unset, .unset] [(.int (3 : Int32)), (.int (0 : Int32)), (.ref b1), (.int (0 : Int32)), (.ref a1)])) rfl (by rw [hml]; rfl) (argsL := [(.ref a1), (.int (0 : Int32)), (.ref b1), (.int (0 : Int32)), (.int (3 : Int32))]) (rest := []) (lenOf pd_13_0 rfl) rfl (by show 2 * 0 + _ ≤ _; exact Nat.le_of_eq rfl) (hb hby d13_9) (fun _ _ => ⟨rfl, e1, (by decide : 1 + 0 ≤ _), (by decide : 3 + 0 ≤ _)⟩)
  dsimp only [Pt.U, Pt.locs, Pt.cells, Pt.slots] at X2 l2 y2 z2 st2 hQ2
  subst l2 y2 z2
  obtain ⟨rfl, N2q, K2, Vr2⟩ := hQ2
  have N2 := Fr.app N0 N2q
  replace V_a1 := V_a1.keep K2 (ninS ne_a1_b1 nin0)
  replace EX_b1 := EX_b1.keep K2
  replace Zz := Nat.le_trans Zz K2.1
  replace Kp := Kp.trans K2 (allS (Or.inr sz_b1) all0)
  refine own_step (T' := T2) (f' := (mkF m 12 #[.val (.ref a1), .val (.int (0 : Int32)), .val (.int (3 : Int32)), .val (.ref b1), .unset, .unset] [(.int (3 : Int32))])) (fun t k => st2 t k) ?_
  refine own_step (T' := T2) (f' := (mkF m 14 #[.val (.ref a1), .val (.int (0 : Int32)), .val (.int (3 : Int32)), .val (.ref b1), .val (.int (3 : Int32)), .unset] [])) (fun t k => XS.istore X2.here hx rfl (hb hby d13_12) rfl (l' := #[.val (.ref a1), .val (.int (0 : Int32)), .val (.int (3 : Int32)), .val (.ref b1), .val (.int (3 : Int32)), .unset]) rfl k) ?_
  refine own_step (T' := T2) (f' := (mkF m 16 #[.val (.ref a1), .val (.int (0 : Int32)), .val (.int (3 : Int32)), .val (.ref b1), .val (.int (3 : Int32)), .unset] [(.int (3 : Int32))])) (fun t k => XS.iload X2.here hx rfl (hb hby d13_14) rfl k) ?_
  refine own_step (T' := T2) (f' := (mkF m 17 #[.val (.ref a1), .val (.int (0 : Int32)), .val (.int (3 : Int32)), .val (.ref b1), .val (.int (3 : Int32)), .unset] [(.int (3 : Int32)), (.int (3 : Int32))])) (fun t k => XS.iloadN X2.here hx rfl (hb hby d13_16) rfl k) ?_
  refine own_step (T' := T2) (f' := (mkF m 57 #[.val (.ref a1), .val (.int (0 : Int32)), .val (.int (3 : Int32)), .val (.ref b1), .val (.int (3 : Int32)), .unset] [])) (fun t k => XS.icmpYes X2.here hx rfl (pc0 := 17) (pc' := 57) rfl (hb hby d13_17) rfl (teq (by decide : (3 : Int32) = (3 : Int32))).1 (by decide) (by decide) k) ?_
  refine own_step (T' := T2) (f' := (mkF m 58 #[.val (.ref a1), .val (.int (0 : Int32)), .val (.int (3 : Int32)), .val (.ref b1), .val (.int (3 : Int32)), .unset] [(.ref b1)])) (fun t k => XS.aloadN X2.here hx rfl (hb hby d13_57) rfl rfl k) ?_
  exact own_retO X2 hx hlk Bd.returns rfl (Or.inr (Or.inr (Or.inr (Or.inr ⟨rfl, rfl, rfl⟩)))) (hb hby d13_58) (by decide) (by decide) ⟨b1, k1, rfl, N2, Kp, sz_b1, Vr2, EX_b1⟩

theorem ef_rm15_3 (m : MethodId) (x0 : Addr) (x1 : Int32) : entryFrame m #[(.ref x0), (.int x1)] 2 = mkF m 0 #[.val (.ref x0), .val (.int x1)] [] := by first | (simp [entryFrame, mkF, argsToLocals, Value.category]; done) | rfl
set_option maxRecDepth 65536 in
set_option maxHeartbeats 40000000 in
theorem rm15_3 (l : Launch) (Z : State) (a0 : Array Value) (hw : ∀ d ∈ tables_1, d.before a0 Z = true) (ws : List Jvm.Cond) (a1 : Addr) (h0 : Heap) (n0 : Nat) (Z0 : n0 ≤ h0.size) (kb : ClassId) (c0 c1 c2 : Int32) (V_a1 : Arv Z h0 a1 kb .byte (3 : Int32) [(.int (own_sb c0)), (.int (own_sb c1)), (.int (own_sb c2))] (.int (0 : Int32))) :
    MetFree l (⟨"java/lang/StringUTF16", "coderFromArrayLen", "([BI)B"⟩ : MethodName) (head1 (Jvm.Cond.code (⟨"java/lang/StringUTF16", "coderFromArrayLen", "([BI)B"⟩ : MethodName) jdk_52_method_15_code 2 (some .byte) :: ws) ({ frames := 0, cells := 0, slots := 0, locals := 0 } : Room)) (fun a U => a = #[(.ref a1), (.int (3 : Int32))] ∧ Z.Warmed39 U.vm ∧ U.heap = h0) (fun _ _ _ _ _ => True) (fun _ U o U' => ∃ v L, o = .returned v ∧ QI 0 h0 n0 v U'.heap L ∧ FrameEnd U o U' L ({ frames := 0, cells := 0, slots := 0, locals := 0 } : Room).cells ({ frames := 0, cells := 0, slots := 0, locals := 0 } : Room).slots) := by
  refine MetFree.of_bodySF (plainFor_of_name pn_15) hisR ?_
  intro p e s m args below meth c s₁ Bd hml0 hP hK
  obtain ⟨rfl, hZ, hh⟩ := hP
  have hx := Bd.exec
  have hby := Bd.bytes
  have hlk : meth.locks = false := BodyLoose.notSynchronized Bd
  have hml : c.maxLocals = 2 := hml0
  have hown : s.vm.findClass "java/lang/StringUTF16" = some m.cls := findClass_of_methodNamed Bd.named
  have hnm := (name_of_methodNamed Bd.named Bd.method).1
  have X0 : Stand p l e ({ frames := 0, cells := 0, slots := 0, locals := 0 } : Room) s m #[(.ref a1), (.int (3 : Int32))] below meth c s₁ [] 0 0 := Stand.of_body Bd
  have e0 : s₁.heap = h0 := by rw [← hh, Bd.state]; rfl
  have N0 := Fr.nil n0
  have Zz := Z0
  have Kp : Keep h0 h0 [] := Keep.refl _ _
  show OwnEnds p e below s (QI 0 h0 n0) ({ frames := 0, cells := 0, slots := 0, locals := 0 } : Room).cells ({ frames := 0, cells := 0, slots := 0, locals := 0 } : Room).slots s₁ (entryFrame m #[(.ref a1), (.int (3 : Int32))] 2)
  refine own_step (T' := s₁) (f' := (mkF m 0 #[.val (.ref a1), .val (.int (3 : Int32))] [])) (fun t k => castTop (ef_rm15_3 m a1 (3 : Int32)) k) ?_
  refine own_step (T' := s₁) (f' := (mkF m 1 #[.val (.ref a1), .val (.int (3 : Int32))] [(.int (3 : Int32))])) (fun t k => XS.iloadN X0.here hx rfl (hb hby d15_0) rfl k) ?_
  refine own_step (T' := s₁) (f' := (mkF m 2 #[.val (.ref a1), .val (.int (3 : Int32))] [(.ref a1), (.int (3 : Int32))])) (fun t k => XS.aloadN X0.here hx rfl (hb hby d15_1) rfl rfl k) ?_
  obtain ⟨cl1, Ar1, q1, S1, M1, H1, G1⟩ := id V_a1
  refine own_step (T' := s₁) (f' := (mkF m 3 #[.val (.ref a1), .val (.int (3 : Int32))] [(.int (3 : Int32)), (.int (3 : Int32))])) (fun t k => X0.arraylength hx (by rw [e0]; exact Ar1.1) (State.isArrayOf_alike hZ.alike Ar1.2.1) (g := (mkF m 2 #[.val (.ref a1), .val (.int (3 : Int32))] [(.ref a1), (.int (3 : Int32))])) rfl rfl (hb hby d15_2) _ (by rw [len_of S1 M1]; exact k)) ?_
  refine own_step (T' := s₁) (f' := (mkF m 4 #[.val (.ref a1), .val (.int (3 : Int32))] [(.int (0 : Int32))])) (fun t k => XS.isub X0.here hx rfl (hb hby d15_3) rfl k) ?_
  refine own_step (T' := s₁) (f' := (mkF m 6 #[.val (.ref a1), .val (.int (3 : Int32))] [(.int (31 : Int32)), (.int (0 : Int32))])) (fun t k => XS.bipush X0.here hx rfl (hb hby d15_4) k) ?_
  refine own_step (T' := s₁) (f' := (mkF m 7 #[.val (.ref a1), .val (.int (3 : Int32))] [(.int (((0 : Int32).toUInt32 >>> ((31 : Int32) &&& 31).toUInt32).toInt32))])) (fun t k => XS.iushr X0.here hx rfl (hb hby d15_6) rfl k) ?_
  refine own_step (T' := s₁) (f' := (mkF m 8 #[.val (.ref a1), .val (.int (3 : Int32))] [(.int ((((0 : Int32).toUInt32 >>> ((31 : Int32) &&& 31).toUInt32).toInt32).toInt8.toInt32))])) (fun t k => XS.i2b X0.here hx rfl (hb hby d15_7) rfl k) ?_
  exact own_retN X0 hx hlk (t := .byte) Bd.returns (by simp) (hb hby d15_8) (by decide) (by decide) ⟨by decide, N0, e0⟩

theorem ef_rm3_3 (m : MethodId) (x0 : Addr) (x1 : Addr) (x2 : Int32) (x3 : Int32) : entryFrame m #[(.ref x0), (.ref x1), (.int x2), (.int x3), .null] 6 = mkF m 0 #[.val (.ref x0), .val (.ref x1), .val (.int x2), .val (.int x3), .val .null, .unset] [] := by first | (simp [entryFrame, mkF, argsToLocals, Value.category]; done) | rfl
set_option maxRecDepth 65536 in
set_option maxHeartbeats 40000000 in
theorem rm3_3 (l : Launch) (Z : State) (a0 : Array Value) (hw : ∀ d ∈ tables_1, d.before a0 Z = true) (ws : List Jvm.Cond) (a1 : Addr) (a2 : Addr) (h0 : Heap) (n0 : Nat) (Z0 : n0 ≤ h0.size) (E_a1 : Exa Z h0 a1 "java/lang/String") (F_value_a1 : Fld Z h0 a1 "java/lang/String" "value" "[B" .null) (F_coder_a1 : Fld Z h0 a1 "java/lang/String" "coder" "B" (.int (0 : Int32))) (g_a1 : n0 ≤ a1) (kc : ClassId) (c0 c1 c2 : Int32) (hC0 : OwnC c0) (hC1 : OwnC c1) (hC2 : OwnC c2) (V_a2 : Arv Z h0 a2 kc .char (3 : Int32) [(.int c0), (.int c1), (.int c2)] (.int (0 : Int32))) (cs : Int32) (S_CS : Sta Z h0 "java/lang/String" "COMPACT_STRINGS" "Z" (.int cs)) (hcs : ¬ cs = (0 : Int32)) (n12 : a1 ≠ a2) :
    MetFree l (⟨"java/lang/String", "<init>", "([CIILjava/lang/Void;)V"⟩ : MethodName) (head1 (Jvm.Cond.code (⟨"java/lang/String", "<init>", "([CIILjava/lang/Void;)V"⟩ : MethodName) jdk_42_method_149_code 6 none :: ws) ({ frames := 2, cells := 1, slots := 3, locals := 36 } : Room)) (fun a U => a = #[(.ref a1), (.ref a2), (.int (0 : Int32)), (.int (3 : Int32)), .null] ∧ Z.Warmed39 U.vm ∧ U.heap = h0) (fun _ _ _ _ _ => True) (fun _ U o U' => ∃ v L, o = .returned v ∧ Q3_3 Z a1 c0 c1 c2 h0 n0 v U'.heap L ∧ FrameEnd U o U' L ({ frames := 2, cells := 1, slots := 3, locals := 36 } : Room).cells ({ frames := 2, cells := 1, slots := 3, locals := 36 } : Room).slots) := by
  refine MetFree.of_bodySF (plainFor_of_name pn_3) hisR ?_
  intro p e s m args below meth c s₁ Bd hml0 hP hK
  obtain ⟨rfl, hZ, hh⟩ := hP
  have hx := Bd.exec
  have hby := Bd.bytes
  have hlk : meth.locks = false := BodyLoose.notSynchronized Bd
  have hml : c.maxLocals = 6 := hml0
  have hown : s.vm.findClass "java/lang/String" = some m.cls := findClass_of_methodNamed Bd.named
  have hnm := (name_of_methodNamed Bd.named Bd.method).1
  have X0 : Stand p l e ({ frames := 2, cells := 1, slots := 3, locals := 36 } : Room) s m #[(.ref a1), (.ref a2), (.int (0 : Int32)), (.int (3 : Int32)), .null] below meth c s₁ [] 0 0 := Stand.of_body Bd
  have e0 : s₁.heap = h0 := by rw [← hh, Bd.state]; rfl
  have N0 := Fr.nil n0
  have Zz := Z0
  have Kp : Keep h0 h0 [a1] := Keep.refl _ _
  show OwnEnds p e below s (Q3_3 Z a1 c0 c1 c2 h0 n0) ({ frames := 2, cells := 1, slots := 3, locals := 36 } : Room).cells ({ frames := 2, cells := 1, slots := 3, locals := 36 } : Room).slots s₁ (entryFrame m #[(.ref a1), (.ref a2), (.int (0 : Int32)), (.int (3 : Int32)), .null] 6)
  refine own_step (T' := s₁) (f' := (mkF m 0 #[.val (.ref a1), .val (.ref a2), .val (.int (0 : Int32)), .val (.int (3 : Int32)), .val .null, .unset] [])) (fun t k => castTop (ef_rm3_3 m a1 a2 (0 : Int32) (3 : Int32)) k) ?_
  refine own_step (T' := s₁) (f' := (mkF m 1 #[.val (.ref a1), .val (.ref a2), .val (.int (0 : Int32)), .val (.int (3 : Int32)), .val .null, .unset] [(.ref a1)])) (fun t k => XS.aloadN X0.here hx rfl (hb hby d3_0) rfl rfl k) ?_
  obtain ⟨T1, X1, e1, st1⟩ := initO X0 hx hZ hown (own_w hw 19 rfl) (own_w hw 20 rfl) (own_w hw 21 rfl) e0 (g := (mkF m 1 #[.val (.ref a1), .val (.ref a2), .val (.int (0 : Int32)), .val (.int (3 : Int32)), .val .null, .unset] [(.ref a1)])) rfl (by rw [hml]; rfl) rfl (hb hby d3_1) (by decide) (W := 0) (by show 2 * 0 + _ ≤ _; exact Nat.le_of_eq rfl) (by decide)
  refine own_step (T' := T1) (f' := (mkF m 4 #[.val (.ref a1), .val (.ref a2), .val (.int (0 : Int32)), .val (.int (3 : Int32)), .val .null, .unset] [])) (fun t k => st1 t k) ?_
  refine own_step (T' := T1) (f' := (mkF m 5 #[.val (.ref a1), .val (.ref a2), .val (.int (0 : Int32)), .val (.int (3 : Int32)), .val .null, .unset] [(.int (3 : Int32))])) (fun t k => XS.iloadN X1.here hx rfl (hb hby d3_4) rfl k) ?_
  refine own_step (T' := T1) (f' := (mkF m 27 #[.val (.ref a1), .val (.ref a2), .val (.int (0 : Int32)), .val (.int (3 : Int32)), .val .null, .unset] [])) (fun t k => XS.ifYes X1.here hx rfl (pc0 := 5) (pc' := 27) rfl (hb hby d3_5) rfl ((if0 _ _).trans (feq (by decide : ¬ ((3 : Int32) = (0 : Int32)))).2) (by decide) (by decide) k) ?_
  obtain ⟨T2, X2, e2, st2⟩ := getS2 X1 hx hZ hown (host := "") (Or.inl (own_w hw 58 rfl)) Via.refl e1 S_CS (g := (mkF m 27 #[.val (.ref a1), .val (.ref a2), .val (.int (0 : Int32)), .val (.int (3 : Int32)), .val .null, .unset] [])) rfl (hb hby d3_27)
  refine own_step (T' := T2) (f' := (mkF m 30 #[.val (.ref a1), .val (.ref a2), .val (.int (0 : Int32)), .val (.int (3 : Int32)), .val .null, .unset] [(.int cs)])) (fun t k => st2 t k) ?_
  refine own_step (T' := T2) (f' := (mkF m 33 #[.val (.ref a1), .val (.ref a2), .val (.int (0 : Int32)), .val (.int (3 : Int32)), .val .null, .unset] [])) (fun t k => XS.ifNo X2.here hx rfl (hb hby d3_30) rfl ((if0 _ _).trans (feq hcs).1) k) ?_
  refine own_step (T' := T2) (f' := (mkF m 34 #[.val (.ref a1), .val (.ref a2), .val (.int (0 : Int32)), .val (.int (3 : Int32)), .val .null, .unset] [(.ref a2)])) (fun t k => XS.aloadN X2.here hx rfl (hb hby d3_33) rfl rfl k) ?_
  refine own_step (T' := T2) (f' := (mkF m 35 #[.val (.ref a1), .val (.ref a2), .val (.int (0 : Int32)), .val (.int (3 : Int32)), .val .null, .unset] [(.int (0 : Int32)), (.ref a2)])) (fun t k => XS.iloadN X2.here hx rfl (hb hby d3_34) rfl k) ?_
  refine own_step (T' := T2) (f' := (mkF m 36 #[.val (.ref a1), .val (.ref a2), .val (.int (0 : Int32)), .val (.int (3 : Int32)), .val .null, .unset] [(.int (3 : Int32)), (.int (0 : Int32)), (.ref a2)])) (fun t k => XS.iloadN X2.here hx rfl (hb hby d3_35) rfl k) ?_
  obtain ⟨_, _, ⟨T3, L3, k3, n3⟩, -, X3, ⟨Lc3, hQ3, l3, y3, z3⟩, st3⟩ := Jvm.LawKit.callS X2 hx (y := (⟨"java/lang/StringUTF16", "compress", "([CII)[B"⟩ : MethodName)) hown (mvT hZ (own_w hw 98 rfl)) (mvT hZ (own_w hw 99 rfl)) (mvT hZ (own_w hw 100 rfl)) (mvT hZ (own_w hw 101 rfl)) (by decide) (backOf (W := 0) (rm13_3 l Z a0 hw [] a2 h0 n0 Zz kc c0 c1 c2 hC0 hC1 hC2 V_a2) hZ (own_w hw 101 rfl) (own_w hw 100 rfl) (by decide) (by decide)) (g := (mkF m 36 #[.val (.ref a1), .val (.ref a2), .val (.int (0 : Int32)), .val (.int (3 : Int32)), .val .null, .unset] [(.int (3 : Int32)), (.int (0 : Int32)), (.ref a2)])) rfl (by rw [hml]; rfl) (argsL := [(.ref a2), (.int (0 : Int32)), (.int (3 : Int32))]) (rest := []) (lenOf pd_3_0 rfl) rfl (by show 2 * 0 + _ ≤ _; exact Nat.le_of_eq rfl) (hb hby d3_36) (fun _ _ => ⟨rfl, e2, (by decide : 0 + 1 ≤ _), (by decide : 0 + 3 ≤ _)⟩)
  dsimp only [Pt.U, Pt.locs, Pt.cells, Pt.slots] at X3 l3 y3 z3 st3 hQ3
  subst l3 y3 z3
  obtain ⟨rb3, rk3, rfl, N3q, K3, zz3, Vr3, Er3⟩ := hQ3
  have N3 := Fr.app N0 N3q
  have ne_a1_rb3 : a1 ≠ rb3 := Nat.ne_of_lt (Nat.lt_of_lt_of_le E_a1.lt zz3)
  have ne_a2_rb3 : a2 ≠ rb3 := Nat.ne_of_lt (Nat.lt_of_lt_of_le V_a2.lt zz3)
  replace S_CS := own_sta_keep S_CS K3 all0
  replace E_a1 := E_a1.keep K3
  replace F_value_a1 := F_value_a1.keep K3 nin0
  replace F_coder_a1 := F_coder_a1.keep K3 nin0
  replace V_a2 := V_a2.keep K3 nin0
  replace Zz := Nat.le_trans Zz K3.1
  replace Kp := Kp.trans K3 all0
  refine own_step (T' := T3) (f' := (mkF m 39 #[.val (.ref a1), .val (.ref a2), .val (.int (0 : Int32)), .val (.int (3 : Int32)), .val .null, .unset] [(.ref rb3)])) (fun t k => st3 t k) ?_
  refine own_step (T' := T3) (f' := (mkF m 41 #[.val (.ref a1), .val (.ref a2), .val (.int (0 : Int32)), .val (.int (3 : Int32)), .val .null, .val (.ref rb3)] [])) (fun t k => XS.astore X3.here hx rfl (hb hby d3_39) rfl rfl (l' := #[.val (.ref a1), .val (.ref a2), .val (.int (0 : Int32)), .val (.int (3 : Int32)), .val .null, .val (.ref rb3)]) rfl k) ?_
  refine own_step (T' := T3) (f' := (mkF m 42 #[.val (.ref a1), .val (.ref a2), .val (.int (0 : Int32)), .val (.int (3 : Int32)), .val .null, .val (.ref rb3)] [(.ref a1)])) (fun t k => XS.aloadN X3.here hx rfl (hb hby d3_41) rfl rfl k) ?_
  refine own_step (T' := T3) (f' := (mkF m 44 #[.val (.ref a1), .val (.ref a2), .val (.int (0 : Int32)), .val (.int (3 : Int32)), .val .null, .val (.ref rb3)] [(.ref rb3), (.ref a1)])) (fun t k => XS.aload X3.here hx rfl (hb hby d3_42) rfl rfl k) ?_
  refine own_step (T' := T3) (f' := (mkF m 45 #[.val (.ref a1), .val (.ref a2), .val (.int (0 : Int32)), .val (.int (3 : Int32)), .val .null, .val (.ref rb3)] [(.int (3 : Int32)), (.ref rb3), (.ref a1)])) (fun t k => XS.iloadN X3.here hx rfl (hb hby d3_44) rfl k) ?_
  obtain ⟨_, _, ⟨T4, L4, k4, n4⟩, -, X4, ⟨Lc4, hQ4, l4, y4, z4⟩, st4⟩ := Jvm.LawKit.callS X3 hx (y := (⟨"java/lang/StringUTF16", "coderFromArrayLen", "([BI)B"⟩ : MethodName)) hown (mvT hZ (own_w hw 105 rfl)) (mvT hZ (own_w hw 106 rfl)) (mvT hZ (own_w hw 100 rfl)) (mvT hZ (own_w hw 107 rfl)) (by decide) (backOf (W := 1) (rm15_3 l Z a0 hw [] rb3 T3.heap n0 Zz rk3 c0 c1 c2 Vr3) hZ (own_w hw 107 rfl) (own_w hw 100 rfl) (by decide) (by decide)) (g := (mkF m 45 #[.val (.ref a1), .val (.ref a2), .val (.int (0 : Int32)), .val (.int (3 : Int32)), .val .null, .val (.ref rb3)] [(.int (3 : Int32)), (.ref rb3), (.ref a1)])) rfl (by rw [hml]; rfl) (argsL := [(.ref rb3), (.int (3 : Int32))]) (rest := [(.ref a1)]) (lenOf pd_3_1 rfl) rfl (by show 2 * 0 + _ ≤ _; exact Nat.le_of_eq rfl) (hb hby d3_45) (fun _ _ => ⟨rfl, rfl, (by decide : 1 + 0 ≤ _), (by decide : 3 + 0 ≤ _)⟩)
  dsimp only [Pt.U, Pt.locs, Pt.cells, Pt.slots] at X4 l4 y4 z4 st4 hQ4
  subst l4 y4 z4
  obtain ⟨rfl, N4q, E4⟩ := hQ4
  have N4 := Fr.app N3 N4q
  refine own_step (T' := T4) (f' := (mkF m 48 #[.val (.ref a1), .val (.ref a2), .val (.int (0 : Int32)), .val (.int (3 : Int32)), .val .null, .val (.ref rb3)] [(.int (0 : Int32)), (.ref a1)])) (fun t k => st4 t k) ?_
  obtain ⟨T5, h5, X5, e5, W5, st5⟩ := putFN X4 hx hZ hown (own_w hw 29 rfl) Via.refl E4 F_coder_a1 E_a1 (Or.inr ⟨(own_w hw 25 rfl), rfl, hnm⟩) (own_w hw 10 rfl) (ty := .byte) (v' := (.int (0 : Int32))) (by decide) rfl (by decide) (g := (mkF m 48 #[.val (.ref a1), .val (.ref a2), .val (.int (0 : Int32)), .val (.int (3 : Int32)), .val .null, .val (.ref rb3)] [(.int (0 : Int32)), (.ref a1)])) rfl rfl (hb hby d3_48)
  replace E_a1 := E_a1.wr W5
  replace F_value_a1 := F_value_a1.other W5 (Or.inr (Jvm.RoadKit.slot_ne (Or.inr (own_w hw 24 rfl)) (Or.inr (own_w hw 25 rfl)) (by decide) (t := (.array .byte)) (t' := .byte) (by decide) (by decide)))
  replace F_coder_a1 := F_coder_a1.same W5
  replace V_a2 := V_a2.other W5 (Ne.symm n12)
  replace S_CS := S_CS.wr W5
  replace Vr3 := Vr3.other W5 (Ne.symm ne_a1_rb3)
  replace Er3 := Er3.wr W5
  replace Zz := Nat.le_trans Zz (Keep.of_wr W5).1
  replace Kp := Kp.wr W5 (Or.inl (List.mem_of_getElem? (i := 0) rfl))
  have N5 := Fr.snoc X5 N4 g_a1
  refine own_step (T' := T5) (f' := (mkF m 51 #[.val (.ref a1), .val (.ref a2), .val (.int (0 : Int32)), .val (.int (3 : Int32)), .val .null, .val (.ref rb3)] [])) (fun t k => st5 t k) ?_
  refine own_step (T' := T5) (f' := (mkF m 52 #[.val (.ref a1), .val (.ref a2), .val (.int (0 : Int32)), .val (.int (3 : Int32)), .val .null, .val (.ref rb3)] [(.ref a1)])) (fun t k => XS.aloadN X5.here hx rfl (hb hby d3_51) rfl rfl k) ?_
  refine own_step (T' := T5) (f' := (mkF m 54 #[.val (.ref a1), .val (.ref a2), .val (.int (0 : Int32)), .val (.int (3 : Int32)), .val .null, .val (.ref rb3)] [(.ref rb3), (.ref a1)])) (fun t k => XS.aload X5.here hx rfl (hb hby d3_52) rfl rfl k) ?_
  obtain ⟨T6, h6, X6, e6, W6, st6⟩ := putF X5 hx hZ hown (host := "") (Or.inl (own_w hw 28 rfl)) Via.refl e5 F_value_a1 E_a1 (Or.inr ⟨(own_w hw 24 rfl), rfl, hnm⟩) (own_w hw 10 rfl) (ty := (.array .byte)) (by decide) rfl rfl (g := (mkF m 54 #[.val (.ref a1), .val (.ref a2), .val (.int (0 : Int32)), .val (.int (3 : Int32)), .val .null, .val (.ref rb3)] [(.ref rb3), (.ref a1)])) rfl rfl (hb hby d3_54)
  replace E_a1 := E_a1.wr W6
  replace F_value_a1 := F_value_a1.same W6
  replace F_coder_a1 := F_coder_a1.other W6 (Or.inr (Jvm.RoadKit.slot_ne (Or.inr (own_w hw 25 rfl)) (Or.inr (own_w hw 24 rfl)) (by decide) (t := .byte) (t' := (.array .byte)) (by decide) (by decide)))
  replace V_a2 := V_a2.other W6 (Ne.symm n12)
  replace S_CS := S_CS.wr W6
  replace Vr3 := Vr3.other W6 (Ne.symm ne_a1_rb3)
  replace Er3 := Er3.wr W6
  replace Zz := Nat.le_trans Zz (Keep.of_wr W6).1
  replace Kp := Kp.wr W6 (Or.inl (List.mem_of_getElem? (i := 0) rfl))
  have N6 := Fr.snoc X6 N5 g_a1
  refine own_step (T' := T6) (f' := (mkF m 57 #[.val (.ref a1), .val (.ref a2), .val (.int (0 : Int32)), .val (.int (3 : Int32)), .val .null, .val (.ref rb3)] [])) (fun t k => st6 t k) ?_
  exact own_retV X6 hx hlk Bd.returns (hb hby d3_57) (by decide) (by decide) (by rw [e6]; exact ⟨rfl, N6, Kp, rb3, rk3, E_a1, F_coder_a1, F_value_a1, Vr3, Er3⟩)

theorem ef_rm2_3 (m : MethodId) (x0 : Addr) (x1 : Addr) : entryFrame m #[(.ref x0), (.ref x1)] 2 = mkF m 0 #[.val (.ref x0), .val (.ref x1)] [] := by first | (simp [entryFrame, mkF, argsToLocals, Value.category]; done) | rfl
set_option maxRecDepth 65536 in
set_option maxHeartbeats 40000000 in
theorem rm2_3 (l : Launch) (Z : State) (a0 : Array Value) (hw : ∀ d ∈ tables_1, d.before a0 Z = true) (ws : List Jvm.Cond) (a1 : Addr) (a2 : Addr) (h0 : Heap) (n0 : Nat) (Z0 : n0 ≤ h0.size) (E_a1 : Exa Z h0 a1 "java/lang/String") (F_value_a1 : Fld Z h0 a1 "java/lang/String" "value" "[B" .null) (F_coder_a1 : Fld Z h0 a1 "java/lang/String" "coder" "B" (.int (0 : Int32))) (g_a1 : n0 ≤ a1) (kc : ClassId) (c0 c1 c2 : Int32) (hC0 : OwnC c0) (hC1 : OwnC c1) (hC2 : OwnC c2) (V_a2 : Arv Z h0 a2 kc .char (3 : Int32) [(.int c0), (.int c1), (.int c2)] (.int (0 : Int32))) (cs : Int32) (S_CS : Sta Z h0 "java/lang/String" "COMPACT_STRINGS" "Z" (.int cs)) (hcs : ¬ cs = (0 : Int32)) (n12 : a1 ≠ a2) :
    MetFree l (⟨"java/lang/String", "<init>", "([C)V"⟩ : MethodName) (head1 (Jvm.Cond.code (⟨"java/lang/String", "<init>", "([C)V"⟩ : MethodName) jdk_42_method_3_code 2 none :: ws) ({ frames := 3, cells := 1, slots := 3, locals := 54 } : Room)) (fun a U => a = #[(.ref a1), (.ref a2)] ∧ Z.Warmed39 U.vm ∧ U.heap = h0) (fun _ _ _ _ _ => True) (fun _ U o U' => ∃ v L, o = .returned v ∧ Q3_3 Z a1 c0 c1 c2 h0 n0 v U'.heap L ∧ FrameEnd U o U' L ({ frames := 3, cells := 1, slots := 3, locals := 54 } : Room).cells ({ frames := 3, cells := 1, slots := 3, locals := 54 } : Room).slots) := by
  refine MetFree.of_bodySF (plainFor_of_name pn_2) hisR ?_
  intro p e s m args below meth c s₁ Bd hml0 hP hK
  obtain ⟨rfl, hZ, hh⟩ := hP
  have hx := Bd.exec
  have hby := Bd.bytes
  have hlk : meth.locks = false := BodyLoose.notSynchronized Bd
  have hml : c.maxLocals = 2 := hml0
  have hown : s.vm.findClass "java/lang/String" = some m.cls := findClass_of_methodNamed Bd.named
  have hnm := (name_of_methodNamed Bd.named Bd.method).1
  have X0 : Stand p l e ({ frames := 3, cells := 1, slots := 3, locals := 54 } : Room) s m #[(.ref a1), (.ref a2)] below meth c s₁ [] 0 0 := Stand.of_body Bd
  have e0 : s₁.heap = h0 := by rw [← hh, Bd.state]; rfl
  have N0 := Fr.nil n0
  have Zz := Z0
  have Kp : Keep h0 h0 [] := Keep.refl _ _
  show OwnEnds p e below s (Q3_3 Z a1 c0 c1 c2 h0 n0) ({ frames := 3, cells := 1, slots := 3, locals := 54 } : Room).cells ({ frames := 3, cells := 1, slots := 3, locals := 54 } : Room).slots s₁ (entryFrame m #[(.ref a1), (.ref a2)] 2)
  refine own_step (T' := s₁) (f' := (mkF m 0 #[.val (.ref a1), .val (.ref a2)] [])) (fun t k => castTop (ef_rm2_3 m a1 a2) k) ?_
  refine own_step (T' := s₁) (f' := (mkF m 1 #[.val (.ref a1), .val (.ref a2)] [(.ref a1)])) (fun t k => XS.aloadN X0.here hx rfl (hb hby d2_0) rfl rfl k) ?_
  refine own_step (T' := s₁) (f' := (mkF m 2 #[.val (.ref a1), .val (.ref a2)] [(.ref a2), (.ref a1)])) (fun t k => XS.aloadN X0.here hx rfl (hb hby d2_1) rfl rfl k) ?_
  refine own_step (T' := s₁) (f' := (mkF m 3 #[.val (.ref a1), .val (.ref a2)] [(.int (0 : Int32)), (.ref a2), (.ref a1)])) (fun t k => XS.iconst X0.here hx rfl (hb hby d2_2) k) ?_
  refine own_step (T' := s₁) (f' := (mkF m 4 #[.val (.ref a1), .val (.ref a2)] [(.ref a2), (.int (0 : Int32)), (.ref a2), (.ref a1)])) (fun t k => XS.aloadN X0.here hx rfl (hb hby d2_3) rfl rfl k) ?_
  obtain ⟨cl1, Ar1, q1, S1, M1, H1, G1⟩ := id V_a2
  refine own_step (T' := s₁) (f' := (mkF m 5 #[.val (.ref a1), .val (.ref a2)] [(.int (3 : Int32)), (.int (0 : Int32)), (.ref a2), (.ref a1)])) (fun t k => X0.arraylength hx (by rw [e0]; exact Ar1.1) (State.isArrayOf_alike hZ.alike Ar1.2.1) (g := (mkF m 4 #[.val (.ref a1), .val (.ref a2)] [(.ref a2), (.int (0 : Int32)), (.ref a2), (.ref a1)])) rfl rfl (hb hby d2_4) _ (by rw [len_of S1 M1]; exact k)) ?_
  refine own_step (T' := s₁) (f' := (mkF m 6 #[.val (.ref a1), .val (.ref a2)] [.null, (.int (3 : Int32)), (.int (0 : Int32)), (.ref a2), (.ref a1)])) (fun t k => XS.aconstNull X0.here hx rfl (hb hby d2_5) k) ?_
  obtain ⟨_, _, ⟨T2, L2, k2, n2⟩, -, X2, ⟨Lc2, hQ2, l2, y2, z2⟩, st2⟩ := X0.specialBack hx (y := (⟨"java/lang/String", "<init>", "([CIILjava/lang/Void;)V"⟩ : MethodName)) rfl hown (mvT hZ (own_w hw 15 rfl)) (mvT hZ (own_w hw 16 rfl)) (mvT hZ (own_w hw 18 rfl)) (by decide) (backOf (W := 0) (rm3_3 l Z a0 hw [] a1 a2 h0 n0 Zz E_a1 F_value_a1 F_coder_a1 g_a1 kc c0 c1 c2 hC0 hC1 hC2 V_a2 cs S_CS hcs n12) hZ (own_w hw 18 rfl) (own_w hw 11 rfl) (by decide) (by decide)) (g := (mkF m 6 #[.val (.ref a1), .val (.ref a2)] [.null, (.int (3 : Int32)), (.int (0 : Int32)), (.ref a2), (.ref a1)])) rfl (by rw [hml]; rfl) (Steps.refl _) (a := a1) (argsL := [(.ref a2), (.int (0 : Int32)), (.int (3 : Int32)), .null]) (rest := []) (lenOf pd_2_0 rfl) rfl (by show 2 * 0 + _ ≤ _; exact Nat.le_of_eq rfl) (hb hby d2_6) (fun _ _ => ⟨rfl, e0, (by decide : 0 + 1 ≤ _), (by decide : 0 + 3 ≤ _)⟩)
  dsimp only [Pt.U, Pt.locs, Pt.cells, Pt.slots] at X2 l2 y2 z2 st2 hQ2
  subst l2 y2 z2
  obtain ⟨rfl, N2q, K2, Ow2⟩ := hQ2
  have N2 := Fr.app N0 N2q
  refine own_step (T' := T2) (f' := (mkF m 9 #[.val (.ref a1), .val (.ref a2)] [])) (fun t k => st2.trans k) ?_
  exact own_retV X2 hx hlk Bd.returns (hb hby d2_9) (by decide) (by decide) ⟨rfl, N2, K2, Ow2⟩

theorem ef_rm12_4 (m : MethodId) (x0 : Addr) : entryFrame m #[(.ref x0)] 2 = mkF m 0 #[.val (.ref x0), .unset] [] := by first | (simp [entryFrame, mkF, argsToLocals, Value.category]; done) | rfl
set_option maxRecDepth 65536 in
set_option maxHeartbeats 40000000 in
theorem rm12_4 (l : Launch) (Z : State) (a0 : Array Value) (hw : ∀ d ∈ tables_1, d.before a0 Z = true) (ws : List Jvm.Cond) (a1 : Addr) (h0 : Heap) (n0 : Nat) (Z0 : n0 ≤ h0.size) (y0 y1 y2 y3 : Int32) (b : Addr) (kb : ClassId) (F_s : Fld Z h0 a1 "com/example/lit2/lit2/input/Line" "start" "I" (.int (0 : Int32))) (F_e : Fld Z h0 a1 "com/example/lit2/lit2/input/Line" "end" "I" (.int (4 : Int32))) (F_ch : Fld Z h0 a1 "com/example/lit2/lit2/input/Line" "characters" "[B" (.ref b)) (V_b : Arv Z h0 b kb .byte (4 : Int32) [(.int y0), (.int y1), (.int y2), (.int y3)] (.int (0 : Int32))) :
    MetFree l (⟨"com/example/lit2/lit2/input/Line", "beginsSection", "()Z"⟩ : MethodName) (head1 (Jvm.Cond.code (⟨"com/example/lit2/lit2/input/Line", "beginsSection", "()Z"⟩ : MethodName) prog_18_method_9_code 2 (some .boolean) :: ws) ({ frames := 0, cells := 0, slots := 0, locals := 0 } : Room)) (fun a U => a = #[(.ref a1)] ∧ Z.Warmed39 U.vm ∧ U.heap = h0) (fun _ _ _ _ _ => True) (fun _ U o U' => ∃ v L, o = .returned v ∧ QI (own_bs [y0, y1, y2, y3]) h0 n0 v U'.heap L ∧ FrameEnd U o U' L ({ frames := 0, cells := 0, slots := 0, locals := 0 } : Room).cells ({ frames := 0, cells := 0, slots := 0, locals := 0 } : Room).slots) := by
  refine MetFree.of_bodySF (plainFor_of_name pn_12) hisR ?_
  intro p e s m args below meth c s₁ Bd hml0 hP hK
  obtain ⟨rfl, hZ, hh⟩ := hP
  have hx := Bd.exec
  have hby := Bd.bytes
  have hlk : meth.locks = false := BodyLoose.notSynchronized Bd
  have hml : c.maxLocals = 2 := hml0
  have hown : s.vm.findClass "com/example/lit2/lit2/input/Line" = some m.cls := findClass_of_methodNamed Bd.named
  have hnm := (name_of_methodNamed Bd.named Bd.method).1
  have X0 : Stand p l e ({ frames := 0, cells := 0, slots := 0, locals := 0 } : Room) s m #[(.ref a1)] below meth c s₁ [] 0 0 := Stand.of_body Bd
  have e0 : s₁.heap = h0 := by rw [← hh, Bd.state]; rfl
  have N0 := Fr.nil n0
  have Zz := Z0
  have Kp : Keep h0 h0 [] := Keep.refl _ _
  show OwnEnds p e below s (QI (own_bs [y0, y1, y2, y3]) h0 n0) ({ frames := 0, cells := 0, slots := 0, locals := 0 } : Room).cells ({ frames := 0, cells := 0, slots := 0, locals := 0 } : Room).slots s₁ (entryFrame m #[(.ref a1)] 2)
  refine own_step (T' := s₁) (f' := (mkF m 0 #[.val (.ref a1), .unset] [])) (fun t k => castTop (ef_rm12_4 m a1) k) ?_
  refine own_step (T' := s₁) (f' := (mkF m 1 #[.val (.ref a1), .unset] [(.ref a1)])) (fun t k => XS.aloadN X0.here hx rfl (hb hby d12_0) rfl rfl k) ?_
  obtain ⟨T1, X1, e1, st1⟩ := getF X0 hx hZ hown (host := "") (Or.inl (own_w hw 83 rfl)) Via.refl e0 F_s (g := (mkF m 1 #[.val (.ref a1), .unset] [(.ref a1)])) rfl rfl (hb hby d12_1)
  refine own_step (T' := T1) (f' := (mkF m 4 #[.val (.ref a1), .unset] [(.int (0 : Int32))])) (fun t k => st1 t k) ?_
  refine own_step (T' := T1) (f' := (mkF m 5 #[.val (.ref a1), .val (.int (0 : Int32))] [])) (fun t k => XS.istoreN X1.here hx rfl (hb hby d12_4) rfl (l' := #[.val (.ref a1), .val (.int (0 : Int32))]) rfl k) ?_
  have J5_2 : ∀ (T_2 : State) (l_2 : List Loc) (X_2 : Stand p l e ({ frames := 0, cells := 0, slots := 0, locals := 0 } : Room) s m #[(.ref a1)] below meth c T_2 l_2 0 0) (e_2 : T_2.heap = h0) (N_2 : Fr n0 l_2) (hb1 : own_bs [y0, y1, y2, y3] = own_bs [y1, y2, y3]), OwnEnds p e below s (QI (own_bs [y0, y1, y2, y3]) h0 n0) ({ frames := 0, cells := 0, slots := 0, locals := 0 } : Room).cells ({ frames := 0, cells := 0, slots := 0, locals := 0 } : Room).slots T_2 (mkF m 5 #[.val (.ref a1), .val (.int (1 : Int32))] []) := by
    intro T_2 l_2 X_2 e_2 N_2 hb1
    have J5_3 : ∀ (T_3 : State) (l_3 : List Loc) (X_3 : Stand p l e ({ frames := 0, cells := 0, slots := 0, locals := 0 } : Room) s m #[(.ref a1)] below meth c T_3 l_3 0 0) (e_3 : T_3.heap = h0) (N_3 : Fr n0 l_3) (hb2 : own_bs [y0, y1, y2, y3] = own_bs [y2, y3]), OwnEnds p e below s (QI (own_bs [y0, y1, y2, y3]) h0 n0) ({ frames := 0, cells := 0, slots := 0, locals := 0 } : Room).cells ({ frames := 0, cells := 0, slots := 0, locals := 0 } : Room).slots T_3 (mkF m 5 #[.val (.ref a1), .val (.int (2 : Int32))] []) := by
      intro T_3 l_3 X_3 e_3 N_3 hb2
      have J5_4 : ∀ (T_4 : State) (l_4 : List Loc) (X_4 : Stand p l e ({ frames := 0, cells := 0, slots := 0, locals := 0 } : Room) s m #[(.ref a1)] below meth c T_4 l_4 0 0) (e_4 : T_4.heap = h0) (N_4 : Fr n0 l_4) (hb3 : own_bs [y0, y1, y2, y3] = own_bs [y3]), OwnEnds p e below s (QI (own_bs [y0, y1, y2, y3]) h0 n0) ({ frames := 0, cells := 0, slots := 0, locals := 0 } : Room).cells ({ frames := 0, cells := 0, slots := 0, locals := 0 } : Room).slots T_4 (mkF m 5 #[.val (.ref a1), .val (.int (3 : Int32))] []) := by
        intro T_4 l_4 X_4 e_4 N_4 hb3
        have J5_5 : ∀ (T_5 : State) (l_5 : List Loc) (X_5 : Stand p l e ({ frames := 0, cells := 0, slots := 0, locals := 0 } : Room) s m #[(.ref a1)] below meth c T_5 l_5 0 0) (e_5 : T_5.heap = h0) (N_5 : Fr n0 l_5) (hb4 : own_bs [y0, y1, y2, y3] = own_bs []), OwnEnds p e below s (QI (own_bs [y0, y1, y2, y3]) h0 n0) ({ frames := 0, cells := 0, slots := 0, locals := 0 } : Room).cells ({ frames := 0, cells := 0, slots := 0, locals := 0 } : Room).slots T_5 (mkF m 5 #[.val (.ref a1), .val (.int (4 : Int32))] []) := by
          intro T_5 l_5 X_5 e_5 N_5 hb4
          refine own_step (T' := T_5) (f' := (mkF m 6 #[.val (.ref a1), .val (.int (4 : Int32))] [(.int (4 : Int32))])) (fun t k => XS.iloadN X_5.here hx rfl (hb hby d12_5) rfl k) ?_
          refine own_step (T' := T_5) (f' := (mkF m 7 #[.val (.ref a1), .val (.int (4 : Int32))] [(.ref a1), (.int (4 : Int32))])) (fun t k => XS.aloadN X_5.here hx rfl (hb hby d12_6) rfl rfl k) ?_
          obtain ⟨T6, X6, e6, st6⟩ := getF X_5 hx hZ hown (host := "") (Or.inl (own_w hw 85 rfl)) Via.refl e_5 F_e (g := (mkF m 7 #[.val (.ref a1), .val (.int (4 : Int32))] [(.ref a1), (.int (4 : Int32))])) rfl rfl (hb hby d12_7)
          refine own_step (T' := T6) (f' := (mkF m 10 #[.val (.ref a1), .val (.int (4 : Int32))] [(.int (4 : Int32)), (.int (4 : Int32))])) (fun t k => st6 t k) ?_
          refine own_step (T' := T6) (f' := (mkF m 41 #[.val (.ref a1), .val (.int (4 : Int32))] [])) (fun t k => XS.icmpYes X6.here hx rfl (pc0 := 10) (pc' := 41) rfl (hb hby d12_10) rfl (flt (by decide : ¬ ((4 : Int32) < (4 : Int32)))).2.1 (by decide) (by decide) k) ?_
          refine own_step (T' := T6) (f' := (mkF m 42 #[.val (.ref a1), .val (.int (4 : Int32))] [(.int (4 : Int32))])) (fun t k => XS.iloadN X6.here hx rfl (hb hby d12_41) rfl k) ?_
          refine own_step (T' := T6) (f' := (mkF m 43 #[.val (.ref a1), .val (.int (4 : Int32))] [(.ref a1), (.int (4 : Int32))])) (fun t k => XS.aloadN X6.here hx rfl (hb hby d12_42) rfl rfl k) ?_
          obtain ⟨T7, X7, e7, st7⟩ := getF X6 hx hZ hown (host := "") (Or.inl (own_w hw 85 rfl)) Via.refl e6 F_e (g := (mkF m 43 #[.val (.ref a1), .val (.int (4 : Int32))] [(.ref a1), (.int (4 : Int32))])) rfl rfl (hb hby d12_43)
          refine own_step (T' := T7) (f' := (mkF m 46 #[.val (.ref a1), .val (.int (4 : Int32))] [(.int (4 : Int32)), (.int (4 : Int32))])) (fun t k => st7 t k) ?_
          refine own_step (T' := T7) (f' := (mkF m 113 #[.val (.ref a1), .val (.int (4 : Int32))] [])) (fun t k => XS.icmpYes X7.here hx rfl (pc0 := 46) (pc' := 113) rfl (hb hby d12_46) rfl (flt (by decide : ¬ ((4 : Int32) < (4 : Int32)))).2.1 (by decide) (by decide) k) ?_
          refine own_step (T' := T7) (f' := (mkF m 114 #[.val (.ref a1), .val (.int (4 : Int32))] [(.int (0 : Int32))])) (fun t k => XS.iconst X7.here hx rfl (hb hby d12_113) k) ?_
          exact own_retN X7 hx hlk (t := .boolean) Bd.returns (by simp) (hb hby d12_114) (by decide) (by decide) ⟨by rw [show own_bs [y0, y1, y2, y3] = (0 : Int32) from hb4]; rfl, N_5, e7⟩
        refine own_step (T' := T_4) (f' := (mkF m 6 #[.val (.ref a1), .val (.int (3 : Int32))] [(.int (3 : Int32))])) (fun t k => XS.iloadN X_4.here hx rfl (hb hby d12_5) rfl k) ?_
        refine own_step (T' := T_4) (f' := (mkF m 7 #[.val (.ref a1), .val (.int (3 : Int32))] [(.ref a1), (.int (3 : Int32))])) (fun t k => XS.aloadN X_4.here hx rfl (hb hby d12_6) rfl rfl k) ?_
        obtain ⟨T8, X8, e8, st8⟩ := getF X_4 hx hZ hown (host := "") (Or.inl (own_w hw 85 rfl)) Via.refl e_4 F_e (g := (mkF m 7 #[.val (.ref a1), .val (.int (3 : Int32))] [(.ref a1), (.int (3 : Int32))])) rfl rfl (hb hby d12_7)
        refine own_step (T' := T8) (f' := (mkF m 10 #[.val (.ref a1), .val (.int (3 : Int32))] [(.int (4 : Int32)), (.int (3 : Int32))])) (fun t k => st8 t k) ?_
        refine own_step (T' := T8) (f' := (mkF m 13 #[.val (.ref a1), .val (.int (3 : Int32))] [])) (fun t k => XS.icmpNo X8.here hx rfl (hb hby d12_10) rfl (tlt (by decide : (3 : Int32) < (4 : Int32))).2.1 k) ?_
        refine own_step (T' := T8) (f' := (mkF m 14 #[.val (.ref a1), .val (.int (3 : Int32))] [(.ref a1)])) (fun t k => XS.aloadN X8.here hx rfl (hb hby d12_13) rfl rfl k) ?_
        obtain ⟨T9, X9, e9, st9⟩ := getF X8 hx hZ hown (host := "") (Or.inl (own_w hw 81 rfl)) Via.refl e8 F_ch (g := (mkF m 14 #[.val (.ref a1), .val (.int (3 : Int32))] [(.ref a1)])) rfl rfl (hb hby d12_14)
        refine own_step (T' := T9) (f' := (mkF m 17 #[.val (.ref a1), .val (.int (3 : Int32))] [(.ref b)])) (fun t k => st9 t k) ?_
        refine own_step (T' := T9) (f' := (mkF m 18 #[.val (.ref a1), .val (.int (3 : Int32))] [(.int (3 : Int32)), (.ref b)])) (fun t k => XS.iloadN X9.here hx rfl (hb hby d12_17) rfl k) ?_
        obtain ⟨cl10, Ar10, q10, S10, M10, H10, G10⟩ := id V_b
        have hin10 : ¬ ((3 : Int32) < 0 ∨ cl10.slots.size ≤ ((3 : Int32)).toNatClampNeg) := inb_of S10 ⟨by decide, by decide⟩
        have hat10 : cl10.slots[((3 : Int32)).toNatClampNeg]? = some (.int y3) := own_at hin10 H10 3 rfl rfl
        refine own_step (T' := T9) (f' := (mkF m 19 #[.val (.ref a1), .val (.int (3 : Int32))] [(.int y3)])) (fun t k => X9.baloadBytes hx (j := (3 : Int32)) (v := (.int y3)) (by rw [e9]; exact Ar10.1) (State.isArrayOf_alike hZ.alike Ar10.2.1) Ar10.2.2 hin10 hat10 (g := (mkF m 18 #[.val (.ref a1), .val (.int (3 : Int32))] [(.int (3 : Int32)), (.ref b)])) rfl rfl (hb hby d12_18) _ k) ?_
        refine own_step (T' := T9) (f' := (mkF m 21 #[.val (.ref a1), .val (.int (3 : Int32))] [(.int (32 : Int32)), (.int y3)])) (fun t k => XS.bipush X9.here hx rfl (hb hby d12_19) k) ?_
        by_cases hc21_11 : y3 = (32 : Int32)
        · skip
          refine own_step (T' := T9) (f' := (mkF m 35 #[.val (.ref a1), .val (.int (3 : Int32))] [])) (fun t k => XS.icmpYes X9.here hx rfl (pc0 := 21) (pc' := 35) rfl (hb hby d12_21) rfl (teq hc21_11).1 (by decide) (by decide) k) ?_
          refine own_step (T' := T9) (f' := (mkF m 38 #[.val (.ref a1), .val (.int (4 : Int32))] [])) (fun t k => XS.iinc X9.here hx rfl (hb hby d12_35) rfl (l' := #[.val (.ref a1), .val (.int (4 : Int32))]) rfl k) ?_
          refine own_step (T' := T9) (f' := (mkF m 5 #[.val (.ref a1), .val (.int (4 : Int32))] [])) (fun t k => XS.goto X9.here hx rfl (pc0 := 38) (pc' := 5) rfl (hb hby d12_38) (by decide) (by decide) k) ?_
          exact J5_5 T9 _ X9 e9 N_4 (hb3.trans (own_bs32 hc21_11))
        · skip
          refine own_step (T' := T9) (f' := (mkF m 24 #[.val (.ref a1), .val (.int (3 : Int32))] [])) (fun t k => XS.icmpNo X9.here hx rfl (hb hby d12_21) rfl (feq hc21_11).1 k) ?_
          refine own_step (T' := T9) (f' := (mkF m 25 #[.val (.ref a1), .val (.int (3 : Int32))] [(.ref a1)])) (fun t k => XS.aloadN X9.here hx rfl (hb hby d12_24) rfl rfl k) ?_
          obtain ⟨T12, X12, e12, st12⟩ := getF X9 hx hZ hown (host := "") (Or.inl (own_w hw 81 rfl)) Via.refl e9 F_ch (g := (mkF m 25 #[.val (.ref a1), .val (.int (3 : Int32))] [(.ref a1)])) rfl rfl (hb hby d12_25)
          refine own_step (T' := T12) (f' := (mkF m 28 #[.val (.ref a1), .val (.int (3 : Int32))] [(.ref b)])) (fun t k => st12 t k) ?_
          refine own_step (T' := T12) (f' := (mkF m 29 #[.val (.ref a1), .val (.int (3 : Int32))] [(.int (3 : Int32)), (.ref b)])) (fun t k => XS.iloadN X12.here hx rfl (hb hby d12_28) rfl k) ?_
          obtain ⟨cl13, Ar13, q13, S13, M13, H13, G13⟩ := id V_b
          have hin13 : ¬ ((3 : Int32) < 0 ∨ cl13.slots.size ≤ ((3 : Int32)).toNatClampNeg) := inb_of S13 ⟨by decide, by decide⟩
          have hat13 : cl13.slots[((3 : Int32)).toNatClampNeg]? = some (.int y3) := own_at hin13 H13 3 rfl rfl
          refine own_step (T' := T12) (f' := (mkF m 30 #[.val (.ref a1), .val (.int (3 : Int32))] [(.int y3)])) (fun t k => X12.baloadBytes hx (j := (3 : Int32)) (v := (.int y3)) (by rw [e12]; exact Ar13.1) (State.isArrayOf_alike hZ.alike Ar13.2.1) Ar13.2.2 hin13 hat13 (g := (mkF m 29 #[.val (.ref a1), .val (.int (3 : Int32))] [(.int (3 : Int32)), (.ref b)])) rfl rfl (hb hby d12_29) _ k) ?_
          refine own_step (T' := T12) (f' := (mkF m 32 #[.val (.ref a1), .val (.int (3 : Int32))] [(.int (9 : Int32)), (.int y3)])) (fun t k => XS.bipush X12.here hx rfl (hb hby d12_30) k) ?_
          by_cases hc32_14 : y3 = (9 : Int32)
          · skip
            refine own_step (T' := T12) (f' := (mkF m 35 #[.val (.ref a1), .val (.int (3 : Int32))] [])) (fun t k => XS.icmpNo X12.here hx rfl (hb hby d12_32) rfl (teq hc32_14).2 k) ?_
            refine own_step (T' := T12) (f' := (mkF m 38 #[.val (.ref a1), .val (.int (4 : Int32))] [])) (fun t k => XS.iinc X12.here hx rfl (hb hby d12_35) rfl (l' := #[.val (.ref a1), .val (.int (4 : Int32))]) rfl k) ?_
            refine own_step (T' := T12) (f' := (mkF m 5 #[.val (.ref a1), .val (.int (4 : Int32))] [])) (fun t k => XS.goto X12.here hx rfl (pc0 := 38) (pc' := 5) rfl (hb hby d12_38) (by decide) (by decide) k) ?_
            exact J5_5 T12 _ X12 e12 N_4 (hb3.trans (own_bs9 hc32_14))
          · skip
            refine own_step (T' := T12) (f' := (mkF m 41 #[.val (.ref a1), .val (.int (3 : Int32))] [])) (fun t k => XS.icmpYes X12.here hx rfl (pc0 := 32) (pc' := 41) rfl (hb hby d12_32) rfl (feq hc32_14).2 (by decide) (by decide) k) ?_
            refine own_step (T' := T12) (f' := (mkF m 42 #[.val (.ref a1), .val (.int (3 : Int32))] [(.int (3 : Int32))])) (fun t k => XS.iloadN X12.here hx rfl (hb hby d12_41) rfl k) ?_
            refine own_step (T' := T12) (f' := (mkF m 43 #[.val (.ref a1), .val (.int (3 : Int32))] [(.ref a1), (.int (3 : Int32))])) (fun t k => XS.aloadN X12.here hx rfl (hb hby d12_42) rfl rfl k) ?_
            obtain ⟨T15, X15, e15, st15⟩ := getF X12 hx hZ hown (host := "") (Or.inl (own_w hw 85 rfl)) Via.refl e12 F_e (g := (mkF m 43 #[.val (.ref a1), .val (.int (3 : Int32))] [(.ref a1), (.int (3 : Int32))])) rfl rfl (hb hby d12_43)
            refine own_step (T' := T15) (f' := (mkF m 46 #[.val (.ref a1), .val (.int (3 : Int32))] [(.int (4 : Int32)), (.int (3 : Int32))])) (fun t k => st15 t k) ?_
            refine own_step (T' := T15) (f' := (mkF m 49 #[.val (.ref a1), .val (.int (3 : Int32))] [])) (fun t k => XS.icmpNo X15.here hx rfl (hb hby d12_46) rfl (tlt (by decide : (3 : Int32) < (4 : Int32))).2.1 k) ?_
            refine own_step (T' := T15) (f' := (mkF m 50 #[.val (.ref a1), .val (.int (3 : Int32))] [(.ref a1)])) (fun t k => XS.aloadN X15.here hx rfl (hb hby d12_49) rfl rfl k) ?_
            obtain ⟨T16, X16, e16, st16⟩ := getF X15 hx hZ hown (host := "") (Or.inl (own_w hw 81 rfl)) Via.refl e15 F_ch (g := (mkF m 50 #[.val (.ref a1), .val (.int (3 : Int32))] [(.ref a1)])) rfl rfl (hb hby d12_50)
            refine own_step (T' := T16) (f' := (mkF m 53 #[.val (.ref a1), .val (.int (3 : Int32))] [(.ref b)])) (fun t k => st16 t k) ?_
            refine own_step (T' := T16) (f' := (mkF m 54 #[.val (.ref a1), .val (.int (3 : Int32))] [(.int (3 : Int32)), (.ref b)])) (fun t k => XS.iloadN X16.here hx rfl (hb hby d12_53) rfl k) ?_
            obtain ⟨cl17, Ar17, q17, S17, M17, H17, G17⟩ := id V_b
            have hin17 : ¬ ((3 : Int32) < 0 ∨ cl17.slots.size ≤ ((3 : Int32)).toNatClampNeg) := inb_of S17 ⟨by decide, by decide⟩
            have hat17 : cl17.slots[((3 : Int32)).toNatClampNeg]? = some (.int y3) := own_at hin17 H17 3 rfl rfl
            refine own_step (T' := T16) (f' := (mkF m 55 #[.val (.ref a1), .val (.int (3 : Int32))] [(.int y3)])) (fun t k => X16.baloadBytes hx (j := (3 : Int32)) (v := (.int y3)) (by rw [e16]; exact Ar17.1) (State.isArrayOf_alike hZ.alike Ar17.2.1) Ar17.2.2 hin17 hat17 (g := (mkF m 54 #[.val (.ref a1), .val (.int (3 : Int32))] [(.int (3 : Int32)), (.ref b)])) rfl rfl (hb hby d12_54) _ k) ?_
            refine own_step (T' := T16) (f' := (mkF m 57 #[.val (.ref a1), .val (.int (3 : Int32))] [(.int (64 : Int32)), (.int y3)])) (fun t k => XS.bipush X16.here hx rfl (hb hby d12_55) k) ?_
            by_cases hc57_18 : y3 = (64 : Int32)
            · skip
              refine own_step (T' := T16) (f' := (mkF m 60 #[.val (.ref a1), .val (.int (3 : Int32))] [])) (fun t k => XS.icmpNo X16.here hx rfl (hb hby d12_57) rfl (teq hc57_18).2 k) ?_
              refine own_step (T' := T16) (f' := (mkF m 61 #[.val (.ref a1), .val (.int (3 : Int32))] [(.int (3 : Int32))])) (fun t k => XS.iloadN X16.here hx rfl (hb hby d12_60) rfl k) ?_
              refine own_step (T' := T16) (f' := (mkF m 62 #[.val (.ref a1), .val (.int (3 : Int32))] [(.int (1 : Int32)), (.int (3 : Int32))])) (fun t k => XS.iconst X16.here hx rfl (hb hby d12_61) k) ?_
              refine own_step (T' := T16) (f' := (mkF m 63 #[.val (.ref a1), .val (.int (3 : Int32))] [(.int (4 : Int32))])) (fun t k => XS.iadd X16.here hx rfl (hb hby d12_62) rfl k) ?_
              refine own_step (T' := T16) (f' := (mkF m 64 #[.val (.ref a1), .val (.int (3 : Int32))] [(.ref a1), (.int (4 : Int32))])) (fun t k => XS.aloadN X16.here hx rfl (hb hby d12_63) rfl rfl k) ?_
              obtain ⟨T19, X19, e19, st19⟩ := getF X16 hx hZ hown (host := "") (Or.inl (own_w hw 85 rfl)) Via.refl e16 F_e (g := (mkF m 64 #[.val (.ref a1), .val (.int (3 : Int32))] [(.ref a1), (.int (4 : Int32))])) rfl rfl (hb hby d12_64)
              refine own_step (T' := T19) (f' := (mkF m 67 #[.val (.ref a1), .val (.int (3 : Int32))] [(.int (4 : Int32)), (.int (4 : Int32))])) (fun t k => st19 t k) ?_
              refine own_step (T' := T19) (f' := (mkF m 109 #[.val (.ref a1), .val (.int (3 : Int32))] [])) (fun t k => XS.icmpYes X19.here hx rfl (pc0 := 67) (pc' := 109) rfl (hb hby d12_67) rfl (teq (by decide : (4 : Int32) = (4 : Int32))).1 (by decide) (by decide) k) ?_
              refine own_step (T' := T19) (f' := (mkF m 110 #[.val (.ref a1), .val (.int (3 : Int32))] [(.int (1 : Int32))])) (fun t k => XS.iconst X19.here hx rfl (hb hby d12_109) k) ?_
              refine own_step (T' := T19) (f' := (mkF m 114 #[.val (.ref a1), .val (.int (3 : Int32))] [(.int (1 : Int32))])) (fun t k => XS.goto X19.here hx rfl (pc0 := 110) (pc' := 114) rfl (hb hby d12_110) (by decide) (by decide) k) ?_
              exact own_retN X19 hx hlk (t := .boolean) Bd.returns (by simp) (hb hby d12_114) (by decide) (by decide) ⟨by rw [show own_bs [y0, y1, y2, y3] = (1 : Int32) from (hb3.trans (own_bs64 hc57_18))]; rfl, N_4, e19⟩
            · skip
              refine own_step (T' := T16) (f' := (mkF m 113 #[.val (.ref a1), .val (.int (3 : Int32))] [])) (fun t k => XS.icmpYes X16.here hx rfl (pc0 := 57) (pc' := 113) rfl (hb hby d12_57) rfl (feq hc57_18).2 (by decide) (by decide) k) ?_
              refine own_step (T' := T16) (f' := (mkF m 114 #[.val (.ref a1), .val (.int (3 : Int32))] [(.int (0 : Int32))])) (fun t k => XS.iconst X16.here hx rfl (hb hby d12_113) k) ?_
              exact own_retN X16 hx hlk (t := .boolean) Bd.returns (by simp) (hb hby d12_114) (by decide) (by decide) ⟨by rw [show own_bs [y0, y1, y2, y3] = (0 : Int32) from (hb3.trans (own_bsN hc21_11 hc32_14 hc57_18))]; rfl, N_4, e16⟩
      refine own_step (T' := T_3) (f' := (mkF m 6 #[.val (.ref a1), .val (.int (2 : Int32))] [(.int (2 : Int32))])) (fun t k => XS.iloadN X_3.here hx rfl (hb hby d12_5) rfl k) ?_
      refine own_step (T' := T_3) (f' := (mkF m 7 #[.val (.ref a1), .val (.int (2 : Int32))] [(.ref a1), (.int (2 : Int32))])) (fun t k => XS.aloadN X_3.here hx rfl (hb hby d12_6) rfl rfl k) ?_
      obtain ⟨T20, X20, e20, st20⟩ := getF X_3 hx hZ hown (host := "") (Or.inl (own_w hw 85 rfl)) Via.refl e_3 F_e (g := (mkF m 7 #[.val (.ref a1), .val (.int (2 : Int32))] [(.ref a1), (.int (2 : Int32))])) rfl rfl (hb hby d12_7)
      refine own_step (T' := T20) (f' := (mkF m 10 #[.val (.ref a1), .val (.int (2 : Int32))] [(.int (4 : Int32)), (.int (2 : Int32))])) (fun t k => st20 t k) ?_
      refine own_step (T' := T20) (f' := (mkF m 13 #[.val (.ref a1), .val (.int (2 : Int32))] [])) (fun t k => XS.icmpNo X20.here hx rfl (hb hby d12_10) rfl (tlt (by decide : (2 : Int32) < (4 : Int32))).2.1 k) ?_
      refine own_step (T' := T20) (f' := (mkF m 14 #[.val (.ref a1), .val (.int (2 : Int32))] [(.ref a1)])) (fun t k => XS.aloadN X20.here hx rfl (hb hby d12_13) rfl rfl k) ?_
      obtain ⟨T21, X21, e21, st21⟩ := getF X20 hx hZ hown (host := "") (Or.inl (own_w hw 81 rfl)) Via.refl e20 F_ch (g := (mkF m 14 #[.val (.ref a1), .val (.int (2 : Int32))] [(.ref a1)])) rfl rfl (hb hby d12_14)
      refine own_step (T' := T21) (f' := (mkF m 17 #[.val (.ref a1), .val (.int (2 : Int32))] [(.ref b)])) (fun t k => st21 t k) ?_
      refine own_step (T' := T21) (f' := (mkF m 18 #[.val (.ref a1), .val (.int (2 : Int32))] [(.int (2 : Int32)), (.ref b)])) (fun t k => XS.iloadN X21.here hx rfl (hb hby d12_17) rfl k) ?_
      obtain ⟨cl22, Ar22, q22, S22, M22, H22, G22⟩ := id V_b
      have hin22 : ¬ ((2 : Int32) < 0 ∨ cl22.slots.size ≤ ((2 : Int32)).toNatClampNeg) := inb_of S22 ⟨by decide, by decide⟩
      have hat22 : cl22.slots[((2 : Int32)).toNatClampNeg]? = some (.int y2) := own_at hin22 H22 2 rfl rfl
      refine own_step (T' := T21) (f' := (mkF m 19 #[.val (.ref a1), .val (.int (2 : Int32))] [(.int y2)])) (fun t k => X21.baloadBytes hx (j := (2 : Int32)) (v := (.int y2)) (by rw [e21]; exact Ar22.1) (State.isArrayOf_alike hZ.alike Ar22.2.1) Ar22.2.2 hin22 hat22 (g := (mkF m 18 #[.val (.ref a1), .val (.int (2 : Int32))] [(.int (2 : Int32)), (.ref b)])) rfl rfl (hb hby d12_18) _ k) ?_
      refine own_step (T' := T21) (f' := (mkF m 21 #[.val (.ref a1), .val (.int (2 : Int32))] [(.int (32 : Int32)), (.int y2)])) (fun t k => XS.bipush X21.here hx rfl (hb hby d12_19) k) ?_
      by_cases hc21_23 : y2 = (32 : Int32)
      · skip
        refine own_step (T' := T21) (f' := (mkF m 35 #[.val (.ref a1), .val (.int (2 : Int32))] [])) (fun t k => XS.icmpYes X21.here hx rfl (pc0 := 21) (pc' := 35) rfl (hb hby d12_21) rfl (teq hc21_23).1 (by decide) (by decide) k) ?_
        refine own_step (T' := T21) (f' := (mkF m 38 #[.val (.ref a1), .val (.int (3 : Int32))] [])) (fun t k => XS.iinc X21.here hx rfl (hb hby d12_35) rfl (l' := #[.val (.ref a1), .val (.int (3 : Int32))]) rfl k) ?_
        refine own_step (T' := T21) (f' := (mkF m 5 #[.val (.ref a1), .val (.int (3 : Int32))] [])) (fun t k => XS.goto X21.here hx rfl (pc0 := 38) (pc' := 5) rfl (hb hby d12_38) (by decide) (by decide) k) ?_
        exact J5_4 T21 _ X21 e21 N_3 (hb2.trans (own_bs32 hc21_23))
      · skip
        refine own_step (T' := T21) (f' := (mkF m 24 #[.val (.ref a1), .val (.int (2 : Int32))] [])) (fun t k => XS.icmpNo X21.here hx rfl (hb hby d12_21) rfl (feq hc21_23).1 k) ?_
        refine own_step (T' := T21) (f' := (mkF m 25 #[.val (.ref a1), .val (.int (2 : Int32))] [(.ref a1)])) (fun t k => XS.aloadN X21.here hx rfl (hb hby d12_24) rfl rfl k) ?_
        obtain ⟨T24, X24, e24, st24⟩ := getF X21 hx hZ hown (host := "") (Or.inl (own_w hw 81 rfl)) Via.refl e21 F_ch (g := (mkF m 25 #[.val (.ref a1), .val (.int (2 : Int32))] [(.ref a1)])) rfl rfl (hb hby d12_25)
        refine own_step (T' := T24) (f' := (mkF m 28 #[.val (.ref a1), .val (.int (2 : Int32))] [(.ref b)])) (fun t k => st24 t k) ?_
        refine own_step (T' := T24) (f' := (mkF m 29 #[.val (.ref a1), .val (.int (2 : Int32))] [(.int (2 : Int32)), (.ref b)])) (fun t k => XS.iloadN X24.here hx rfl (hb hby d12_28) rfl k) ?_
        obtain ⟨cl25, Ar25, q25, S25, M25, H25, G25⟩ := id V_b
        have hin25 : ¬ ((2 : Int32) < 0 ∨ cl25.slots.size ≤ ((2 : Int32)).toNatClampNeg) := inb_of S25 ⟨by decide, by decide⟩
        have hat25 : cl25.slots[((2 : Int32)).toNatClampNeg]? = some (.int y2) := own_at hin25 H25 2 rfl rfl
        refine own_step (T' := T24) (f' := (mkF m 30 #[.val (.ref a1), .val (.int (2 : Int32))] [(.int y2)])) (fun t k => X24.baloadBytes hx (j := (2 : Int32)) (v := (.int y2)) (by rw [e24]; exact Ar25.1) (State.isArrayOf_alike hZ.alike Ar25.2.1) Ar25.2.2 hin25 hat25 (g := (mkF m 29 #[.val (.ref a1), .val (.int (2 : Int32))] [(.int (2 : Int32)), (.ref b)])) rfl rfl (hb hby d12_29) _ k) ?_
        refine own_step (T' := T24) (f' := (mkF m 32 #[.val (.ref a1), .val (.int (2 : Int32))] [(.int (9 : Int32)), (.int y2)])) (fun t k => XS.bipush X24.here hx rfl (hb hby d12_30) k) ?_
        by_cases hc32_26 : y2 = (9 : Int32)
        · skip
          refine own_step (T' := T24) (f' := (mkF m 35 #[.val (.ref a1), .val (.int (2 : Int32))] [])) (fun t k => XS.icmpNo X24.here hx rfl (hb hby d12_32) rfl (teq hc32_26).2 k) ?_
          refine own_step (T' := T24) (f' := (mkF m 38 #[.val (.ref a1), .val (.int (3 : Int32))] [])) (fun t k => XS.iinc X24.here hx rfl (hb hby d12_35) rfl (l' := #[.val (.ref a1), .val (.int (3 : Int32))]) rfl k) ?_
          refine own_step (T' := T24) (f' := (mkF m 5 #[.val (.ref a1), .val (.int (3 : Int32))] [])) (fun t k => XS.goto X24.here hx rfl (pc0 := 38) (pc' := 5) rfl (hb hby d12_38) (by decide) (by decide) k) ?_
          exact J5_4 T24 _ X24 e24 N_3 (hb2.trans (own_bs9 hc32_26))
        · skip
          refine own_step (T' := T24) (f' := (mkF m 41 #[.val (.ref a1), .val (.int (2 : Int32))] [])) (fun t k => XS.icmpYes X24.here hx rfl (pc0 := 32) (pc' := 41) rfl (hb hby d12_32) rfl (feq hc32_26).2 (by decide) (by decide) k) ?_
          refine own_step (T' := T24) (f' := (mkF m 42 #[.val (.ref a1), .val (.int (2 : Int32))] [(.int (2 : Int32))])) (fun t k => XS.iloadN X24.here hx rfl (hb hby d12_41) rfl k) ?_
          refine own_step (T' := T24) (f' := (mkF m 43 #[.val (.ref a1), .val (.int (2 : Int32))] [(.ref a1), (.int (2 : Int32))])) (fun t k => XS.aloadN X24.here hx rfl (hb hby d12_42) rfl rfl k) ?_
          obtain ⟨T27, X27, e27, st27⟩ := getF X24 hx hZ hown (host := "") (Or.inl (own_w hw 85 rfl)) Via.refl e24 F_e (g := (mkF m 43 #[.val (.ref a1), .val (.int (2 : Int32))] [(.ref a1), (.int (2 : Int32))])) rfl rfl (hb hby d12_43)
          refine own_step (T' := T27) (f' := (mkF m 46 #[.val (.ref a1), .val (.int (2 : Int32))] [(.int (4 : Int32)), (.int (2 : Int32))])) (fun t k => st27 t k) ?_
          refine own_step (T' := T27) (f' := (mkF m 49 #[.val (.ref a1), .val (.int (2 : Int32))] [])) (fun t k => XS.icmpNo X27.here hx rfl (hb hby d12_46) rfl (tlt (by decide : (2 : Int32) < (4 : Int32))).2.1 k) ?_
          refine own_step (T' := T27) (f' := (mkF m 50 #[.val (.ref a1), .val (.int (2 : Int32))] [(.ref a1)])) (fun t k => XS.aloadN X27.here hx rfl (hb hby d12_49) rfl rfl k) ?_
          obtain ⟨T28, X28, e28, st28⟩ := getF X27 hx hZ hown (host := "") (Or.inl (own_w hw 81 rfl)) Via.refl e27 F_ch (g := (mkF m 50 #[.val (.ref a1), .val (.int (2 : Int32))] [(.ref a1)])) rfl rfl (hb hby d12_50)
          refine own_step (T' := T28) (f' := (mkF m 53 #[.val (.ref a1), .val (.int (2 : Int32))] [(.ref b)])) (fun t k => st28 t k) ?_
          refine own_step (T' := T28) (f' := (mkF m 54 #[.val (.ref a1), .val (.int (2 : Int32))] [(.int (2 : Int32)), (.ref b)])) (fun t k => XS.iloadN X28.here hx rfl (hb hby d12_53) rfl k) ?_
          obtain ⟨cl29, Ar29, q29, S29, M29, H29, G29⟩ := id V_b
          have hin29 : ¬ ((2 : Int32) < 0 ∨ cl29.slots.size ≤ ((2 : Int32)).toNatClampNeg) := inb_of S29 ⟨by decide, by decide⟩
          have hat29 : cl29.slots[((2 : Int32)).toNatClampNeg]? = some (.int y2) := own_at hin29 H29 2 rfl rfl
          refine own_step (T' := T28) (f' := (mkF m 55 #[.val (.ref a1), .val (.int (2 : Int32))] [(.int y2)])) (fun t k => X28.baloadBytes hx (j := (2 : Int32)) (v := (.int y2)) (by rw [e28]; exact Ar29.1) (State.isArrayOf_alike hZ.alike Ar29.2.1) Ar29.2.2 hin29 hat29 (g := (mkF m 54 #[.val (.ref a1), .val (.int (2 : Int32))] [(.int (2 : Int32)), (.ref b)])) rfl rfl (hb hby d12_54) _ k) ?_
          refine own_step (T' := T28) (f' := (mkF m 57 #[.val (.ref a1), .val (.int (2 : Int32))] [(.int (64 : Int32)), (.int y2)])) (fun t k => XS.bipush X28.here hx rfl (hb hby d12_55) k) ?_
          by_cases hc57_30 : y2 = (64 : Int32)
          · skip
            refine own_step (T' := T28) (f' := (mkF m 60 #[.val (.ref a1), .val (.int (2 : Int32))] [])) (fun t k => XS.icmpNo X28.here hx rfl (hb hby d12_57) rfl (teq hc57_30).2 k) ?_
            refine own_step (T' := T28) (f' := (mkF m 61 #[.val (.ref a1), .val (.int (2 : Int32))] [(.int (2 : Int32))])) (fun t k => XS.iloadN X28.here hx rfl (hb hby d12_60) rfl k) ?_
            refine own_step (T' := T28) (f' := (mkF m 62 #[.val (.ref a1), .val (.int (2 : Int32))] [(.int (1 : Int32)), (.int (2 : Int32))])) (fun t k => XS.iconst X28.here hx rfl (hb hby d12_61) k) ?_
            refine own_step (T' := T28) (f' := (mkF m 63 #[.val (.ref a1), .val (.int (2 : Int32))] [(.int (3 : Int32))])) (fun t k => XS.iadd X28.here hx rfl (hb hby d12_62) rfl k) ?_
            refine own_step (T' := T28) (f' := (mkF m 64 #[.val (.ref a1), .val (.int (2 : Int32))] [(.ref a1), (.int (3 : Int32))])) (fun t k => XS.aloadN X28.here hx rfl (hb hby d12_63) rfl rfl k) ?_
            obtain ⟨T31, X31, e31, st31⟩ := getF X28 hx hZ hown (host := "") (Or.inl (own_w hw 85 rfl)) Via.refl e28 F_e (g := (mkF m 64 #[.val (.ref a1), .val (.int (2 : Int32))] [(.ref a1), (.int (3 : Int32))])) rfl rfl (hb hby d12_64)
            refine own_step (T' := T31) (f' := (mkF m 67 #[.val (.ref a1), .val (.int (2 : Int32))] [(.int (4 : Int32)), (.int (3 : Int32))])) (fun t k => st31 t k) ?_
            refine own_step (T' := T31) (f' := (mkF m 70 #[.val (.ref a1), .val (.int (2 : Int32))] [])) (fun t k => XS.icmpNo X31.here hx rfl (hb hby d12_67) rfl (feq (by decide : ¬ ((3 : Int32) = (4 : Int32)))).1 k) ?_
            refine own_step (T' := T31) (f' := (mkF m 71 #[.val (.ref a1), .val (.int (2 : Int32))] [(.ref a1)])) (fun t k => XS.aloadN X31.here hx rfl (hb hby d12_70) rfl rfl k) ?_
            obtain ⟨T32, X32, e32, st32⟩ := getF X31 hx hZ hown (host := "") (Or.inl (own_w hw 81 rfl)) Via.refl e31 F_ch (g := (mkF m 71 #[.val (.ref a1), .val (.int (2 : Int32))] [(.ref a1)])) rfl rfl (hb hby d12_71)
            refine own_step (T' := T32) (f' := (mkF m 74 #[.val (.ref a1), .val (.int (2 : Int32))] [(.ref b)])) (fun t k => st32 t k) ?_
            refine own_step (T' := T32) (f' := (mkF m 75 #[.val (.ref a1), .val (.int (2 : Int32))] [(.int (2 : Int32)), (.ref b)])) (fun t k => XS.iloadN X32.here hx rfl (hb hby d12_74) rfl k) ?_
            refine own_step (T' := T32) (f' := (mkF m 76 #[.val (.ref a1), .val (.int (2 : Int32))] [(.int (1 : Int32)), (.int (2 : Int32)), (.ref b)])) (fun t k => XS.iconst X32.here hx rfl (hb hby d12_75) k) ?_
            refine own_step (T' := T32) (f' := (mkF m 77 #[.val (.ref a1), .val (.int (2 : Int32))] [(.int (3 : Int32)), (.ref b)])) (fun t k => XS.iadd X32.here hx rfl (hb hby d12_76) rfl k) ?_
            obtain ⟨cl33, Ar33, q33, S33, M33, H33, G33⟩ := id V_b
            have hin33 : ¬ ((3 : Int32) < 0 ∨ cl33.slots.size ≤ ((3 : Int32)).toNatClampNeg) := inb_of S33 ⟨by decide, by decide⟩
            have hat33 : cl33.slots[((3 : Int32)).toNatClampNeg]? = some (.int y3) := own_at hin33 H33 3 rfl rfl
            refine own_step (T' := T32) (f' := (mkF m 78 #[.val (.ref a1), .val (.int (2 : Int32))] [(.int y3)])) (fun t k => X32.baloadBytes hx (j := (3 : Int32)) (v := (.int y3)) (by rw [e32]; exact Ar33.1) (State.isArrayOf_alike hZ.alike Ar33.2.1) Ar33.2.2 hin33 hat33 (g := (mkF m 77 #[.val (.ref a1), .val (.int (2 : Int32))] [(.int (3 : Int32)), (.ref b)])) rfl rfl (hb hby d12_77) _ k) ?_
            refine own_step (T' := T32) (f' := (mkF m 80 #[.val (.ref a1), .val (.int (2 : Int32))] [(.int (32 : Int32)), (.int y3)])) (fun t k => XS.bipush X32.here hx rfl (hb hby d12_78) k) ?_
            by_cases hc80_34 : y3 = (32 : Int32)
            · skip
              refine own_step (T' := T32) (f' := (mkF m 109 #[.val (.ref a1), .val (.int (2 : Int32))] [])) (fun t k => XS.icmpYes X32.here hx rfl (pc0 := 80) (pc' := 109) rfl (hb hby d12_80) rfl (teq hc80_34).1 (by decide) (by decide) k) ?_
              refine own_step (T' := T32) (f' := (mkF m 110 #[.val (.ref a1), .val (.int (2 : Int32))] [(.int (1 : Int32))])) (fun t k => XS.iconst X32.here hx rfl (hb hby d12_109) k) ?_
              refine own_step (T' := T32) (f' := (mkF m 114 #[.val (.ref a1), .val (.int (2 : Int32))] [(.int (1 : Int32))])) (fun t k => XS.goto X32.here hx rfl (pc0 := 110) (pc' := 114) rfl (hb hby d12_110) (by decide) (by decide) k) ?_
              exact own_retN X32 hx hlk (t := .boolean) Bd.returns (by simp) (hb hby d12_114) (by decide) (by decide) ⟨by rw [show own_bs [y0, y1, y2, y3] = (1 : Int32) from (hb2.trans ((own_bs64 hc57_30).trans (own_nx32 hc80_34)))]; rfl, N_3, e32⟩
            · skip
              refine own_step (T' := T32) (f' := (mkF m 83 #[.val (.ref a1), .val (.int (2 : Int32))] [])) (fun t k => XS.icmpNo X32.here hx rfl (hb hby d12_80) rfl (feq hc80_34).1 k) ?_
              refine own_step (T' := T32) (f' := (mkF m 84 #[.val (.ref a1), .val (.int (2 : Int32))] [(.ref a1)])) (fun t k => XS.aloadN X32.here hx rfl (hb hby d12_83) rfl rfl k) ?_
              obtain ⟨T35, X35, e35, st35⟩ := getF X32 hx hZ hown (host := "") (Or.inl (own_w hw 81 rfl)) Via.refl e32 F_ch (g := (mkF m 84 #[.val (.ref a1), .val (.int (2 : Int32))] [(.ref a1)])) rfl rfl (hb hby d12_84)
              refine own_step (T' := T35) (f' := (mkF m 87 #[.val (.ref a1), .val (.int (2 : Int32))] [(.ref b)])) (fun t k => st35 t k) ?_
              refine own_step (T' := T35) (f' := (mkF m 88 #[.val (.ref a1), .val (.int (2 : Int32))] [(.int (2 : Int32)), (.ref b)])) (fun t k => XS.iloadN X35.here hx rfl (hb hby d12_87) rfl k) ?_
              refine own_step (T' := T35) (f' := (mkF m 89 #[.val (.ref a1), .val (.int (2 : Int32))] [(.int (1 : Int32)), (.int (2 : Int32)), (.ref b)])) (fun t k => XS.iconst X35.here hx rfl (hb hby d12_88) k) ?_
              refine own_step (T' := T35) (f' := (mkF m 90 #[.val (.ref a1), .val (.int (2 : Int32))] [(.int (3 : Int32)), (.ref b)])) (fun t k => XS.iadd X35.here hx rfl (hb hby d12_89) rfl k) ?_
              obtain ⟨cl36, Ar36, q36, S36, M36, H36, G36⟩ := id V_b
              have hin36 : ¬ ((3 : Int32) < 0 ∨ cl36.slots.size ≤ ((3 : Int32)).toNatClampNeg) := inb_of S36 ⟨by decide, by decide⟩
              have hat36 : cl36.slots[((3 : Int32)).toNatClampNeg]? = some (.int y3) := own_at hin36 H36 3 rfl rfl
              refine own_step (T' := T35) (f' := (mkF m 91 #[.val (.ref a1), .val (.int (2 : Int32))] [(.int y3)])) (fun t k => X35.baloadBytes hx (j := (3 : Int32)) (v := (.int y3)) (by rw [e35]; exact Ar36.1) (State.isArrayOf_alike hZ.alike Ar36.2.1) Ar36.2.2 hin36 hat36 (g := (mkF m 90 #[.val (.ref a1), .val (.int (2 : Int32))] [(.int (3 : Int32)), (.ref b)])) rfl rfl (hb hby d12_90) _ k) ?_
              refine own_step (T' := T35) (f' := (mkF m 93 #[.val (.ref a1), .val (.int (2 : Int32))] [(.int (9 : Int32)), (.int y3)])) (fun t k => XS.bipush X35.here hx rfl (hb hby d12_91) k) ?_
              by_cases hc93_37 : y3 = (9 : Int32)
              · skip
                refine own_step (T' := T35) (f' := (mkF m 109 #[.val (.ref a1), .val (.int (2 : Int32))] [])) (fun t k => XS.icmpYes X35.here hx rfl (pc0 := 93) (pc' := 109) rfl (hb hby d12_93) rfl (teq hc93_37).1 (by decide) (by decide) k) ?_
                refine own_step (T' := T35) (f' := (mkF m 110 #[.val (.ref a1), .val (.int (2 : Int32))] [(.int (1 : Int32))])) (fun t k => XS.iconst X35.here hx rfl (hb hby d12_109) k) ?_
                refine own_step (T' := T35) (f' := (mkF m 114 #[.val (.ref a1), .val (.int (2 : Int32))] [(.int (1 : Int32))])) (fun t k => XS.goto X35.here hx rfl (pc0 := 110) (pc' := 114) rfl (hb hby d12_110) (by decide) (by decide) k) ?_
                exact own_retN X35 hx hlk (t := .boolean) Bd.returns (by simp) (hb hby d12_114) (by decide) (by decide) ⟨by rw [show own_bs [y0, y1, y2, y3] = (1 : Int32) from (hb2.trans ((own_bs64 hc57_30).trans (own_nx9 hc93_37)))]; rfl, N_3, e35⟩
              · skip
                refine own_step (T' := T35) (f' := (mkF m 96 #[.val (.ref a1), .val (.int (2 : Int32))] [])) (fun t k => XS.icmpNo X35.here hx rfl (hb hby d12_93) rfl (feq hc93_37).1 k) ?_
                refine own_step (T' := T35) (f' := (mkF m 97 #[.val (.ref a1), .val (.int (2 : Int32))] [(.ref a1)])) (fun t k => XS.aloadN X35.here hx rfl (hb hby d12_96) rfl rfl k) ?_
                obtain ⟨T38, X38, e38, st38⟩ := getF X35 hx hZ hown (host := "") (Or.inl (own_w hw 81 rfl)) Via.refl e35 F_ch (g := (mkF m 97 #[.val (.ref a1), .val (.int (2 : Int32))] [(.ref a1)])) rfl rfl (hb hby d12_97)
                refine own_step (T' := T38) (f' := (mkF m 100 #[.val (.ref a1), .val (.int (2 : Int32))] [(.ref b)])) (fun t k => st38 t k) ?_
                refine own_step (T' := T38) (f' := (mkF m 101 #[.val (.ref a1), .val (.int (2 : Int32))] [(.int (2 : Int32)), (.ref b)])) (fun t k => XS.iloadN X38.here hx rfl (hb hby d12_100) rfl k) ?_
                refine own_step (T' := T38) (f' := (mkF m 102 #[.val (.ref a1), .val (.int (2 : Int32))] [(.int (1 : Int32)), (.int (2 : Int32)), (.ref b)])) (fun t k => XS.iconst X38.here hx rfl (hb hby d12_101) k) ?_
                refine own_step (T' := T38) (f' := (mkF m 103 #[.val (.ref a1), .val (.int (2 : Int32))] [(.int (3 : Int32)), (.ref b)])) (fun t k => XS.iadd X38.here hx rfl (hb hby d12_102) rfl k) ?_
                obtain ⟨cl39, Ar39, q39, S39, M39, H39, G39⟩ := id V_b
                have hin39 : ¬ ((3 : Int32) < 0 ∨ cl39.slots.size ≤ ((3 : Int32)).toNatClampNeg) := inb_of S39 ⟨by decide, by decide⟩
                have hat39 : cl39.slots[((3 : Int32)).toNatClampNeg]? = some (.int y3) := own_at hin39 H39 3 rfl rfl
                refine own_step (T' := T38) (f' := (mkF m 104 #[.val (.ref a1), .val (.int (2 : Int32))] [(.int y3)])) (fun t k => X38.baloadBytes hx (j := (3 : Int32)) (v := (.int y3)) (by rw [e38]; exact Ar39.1) (State.isArrayOf_alike hZ.alike Ar39.2.1) Ar39.2.2 hin39 hat39 (g := (mkF m 103 #[.val (.ref a1), .val (.int (2 : Int32))] [(.int (3 : Int32)), (.ref b)])) rfl rfl (hb hby d12_103) _ k) ?_
                refine own_step (T' := T38) (f' := (mkF m 106 #[.val (.ref a1), .val (.int (2 : Int32))] [(.int (42 : Int32)), (.int y3)])) (fun t k => XS.bipush X38.here hx rfl (hb hby d12_104) k) ?_
                by_cases hc106_40 : y3 = (42 : Int32)
                · skip
                  refine own_step (T' := T38) (f' := (mkF m 109 #[.val (.ref a1), .val (.int (2 : Int32))] [])) (fun t k => XS.icmpNo X38.here hx rfl (hb hby d12_106) rfl (teq hc106_40).2 k) ?_
                  refine own_step (T' := T38) (f' := (mkF m 110 #[.val (.ref a1), .val (.int (2 : Int32))] [(.int (1 : Int32))])) (fun t k => XS.iconst X38.here hx rfl (hb hby d12_109) k) ?_
                  refine own_step (T' := T38) (f' := (mkF m 114 #[.val (.ref a1), .val (.int (2 : Int32))] [(.int (1 : Int32))])) (fun t k => XS.goto X38.here hx rfl (pc0 := 110) (pc' := 114) rfl (hb hby d12_110) (by decide) (by decide) k) ?_
                  exact own_retN X38 hx hlk (t := .boolean) Bd.returns (by simp) (hb hby d12_114) (by decide) (by decide) ⟨by rw [show own_bs [y0, y1, y2, y3] = (1 : Int32) from (hb2.trans ((own_bs64 hc57_30).trans (own_nx42 hc106_40)))]; rfl, N_3, e38⟩
                · skip
                  refine own_step (T' := T38) (f' := (mkF m 113 #[.val (.ref a1), .val (.int (2 : Int32))] [])) (fun t k => XS.icmpYes X38.here hx rfl (pc0 := 106) (pc' := 113) rfl (hb hby d12_106) rfl (feq hc106_40).2 (by decide) (by decide) k) ?_
                  refine own_step (T' := T38) (f' := (mkF m 114 #[.val (.ref a1), .val (.int (2 : Int32))] [(.int (0 : Int32))])) (fun t k => XS.iconst X38.here hx rfl (hb hby d12_113) k) ?_
                  exact own_retN X38 hx hlk (t := .boolean) Bd.returns (by simp) (hb hby d12_114) (by decide) (by decide) ⟨by rw [show own_bs [y0, y1, y2, y3] = (0 : Int32) from (hb2.trans ((own_bs64 hc57_30).trans (own_nxN hc80_34 hc93_37 hc106_40)))]; rfl, N_3, e38⟩
          · skip
            refine own_step (T' := T28) (f' := (mkF m 113 #[.val (.ref a1), .val (.int (2 : Int32))] [])) (fun t k => XS.icmpYes X28.here hx rfl (pc0 := 57) (pc' := 113) rfl (hb hby d12_57) rfl (feq hc57_30).2 (by decide) (by decide) k) ?_
            refine own_step (T' := T28) (f' := (mkF m 114 #[.val (.ref a1), .val (.int (2 : Int32))] [(.int (0 : Int32))])) (fun t k => XS.iconst X28.here hx rfl (hb hby d12_113) k) ?_
            exact own_retN X28 hx hlk (t := .boolean) Bd.returns (by simp) (hb hby d12_114) (by decide) (by decide) ⟨by rw [show own_bs [y0, y1, y2, y3] = (0 : Int32) from (hb2.trans (own_bsN hc21_23 hc32_26 hc57_30))]; rfl, N_3, e28⟩
    refine own_step (T' := T_2) (f' := (mkF m 6 #[.val (.ref a1), .val (.int (1 : Int32))] [(.int (1 : Int32))])) (fun t k => XS.iloadN X_2.here hx rfl (hb hby d12_5) rfl k) ?_
    refine own_step (T' := T_2) (f' := (mkF m 7 #[.val (.ref a1), .val (.int (1 : Int32))] [(.ref a1), (.int (1 : Int32))])) (fun t k => XS.aloadN X_2.here hx rfl (hb hby d12_6) rfl rfl k) ?_
    obtain ⟨T41, X41, e41, st41⟩ := getF X_2 hx hZ hown (host := "") (Or.inl (own_w hw 85 rfl)) Via.refl e_2 F_e (g := (mkF m 7 #[.val (.ref a1), .val (.int (1 : Int32))] [(.ref a1), (.int (1 : Int32))])) rfl rfl (hb hby d12_7)
    refine own_step (T' := T41) (f' := (mkF m 10 #[.val (.ref a1), .val (.int (1 : Int32))] [(.int (4 : Int32)), (.int (1 : Int32))])) (fun t k => st41 t k) ?_
    refine own_step (T' := T41) (f' := (mkF m 13 #[.val (.ref a1), .val (.int (1 : Int32))] [])) (fun t k => XS.icmpNo X41.here hx rfl (hb hby d12_10) rfl (tlt (by decide : (1 : Int32) < (4 : Int32))).2.1 k) ?_
    refine own_step (T' := T41) (f' := (mkF m 14 #[.val (.ref a1), .val (.int (1 : Int32))] [(.ref a1)])) (fun t k => XS.aloadN X41.here hx rfl (hb hby d12_13) rfl rfl k) ?_
    obtain ⟨T42, X42, e42, st42⟩ := getF X41 hx hZ hown (host := "") (Or.inl (own_w hw 81 rfl)) Via.refl e41 F_ch (g := (mkF m 14 #[.val (.ref a1), .val (.int (1 : Int32))] [(.ref a1)])) rfl rfl (hb hby d12_14)
    refine own_step (T' := T42) (f' := (mkF m 17 #[.val (.ref a1), .val (.int (1 : Int32))] [(.ref b)])) (fun t k => st42 t k) ?_
    refine own_step (T' := T42) (f' := (mkF m 18 #[.val (.ref a1), .val (.int (1 : Int32))] [(.int (1 : Int32)), (.ref b)])) (fun t k => XS.iloadN X42.here hx rfl (hb hby d12_17) rfl k) ?_
    obtain ⟨cl43, Ar43, q43, S43, M43, H43, G43⟩ := id V_b
    have hin43 : ¬ ((1 : Int32) < 0 ∨ cl43.slots.size ≤ ((1 : Int32)).toNatClampNeg) := inb_of S43 ⟨by decide, by decide⟩
    have hat43 : cl43.slots[((1 : Int32)).toNatClampNeg]? = some (.int y1) := own_at hin43 H43 1 rfl rfl
    refine own_step (T' := T42) (f' := (mkF m 19 #[.val (.ref a1), .val (.int (1 : Int32))] [(.int y1)])) (fun t k => X42.baloadBytes hx (j := (1 : Int32)) (v := (.int y1)) (by rw [e42]; exact Ar43.1) (State.isArrayOf_alike hZ.alike Ar43.2.1) Ar43.2.2 hin43 hat43 (g := (mkF m 18 #[.val (.ref a1), .val (.int (1 : Int32))] [(.int (1 : Int32)), (.ref b)])) rfl rfl (hb hby d12_18) _ k) ?_
    refine own_step (T' := T42) (f' := (mkF m 21 #[.val (.ref a1), .val (.int (1 : Int32))] [(.int (32 : Int32)), (.int y1)])) (fun t k => XS.bipush X42.here hx rfl (hb hby d12_19) k) ?_
    by_cases hc21_44 : y1 = (32 : Int32)
    · skip
      refine own_step (T' := T42) (f' := (mkF m 35 #[.val (.ref a1), .val (.int (1 : Int32))] [])) (fun t k => XS.icmpYes X42.here hx rfl (pc0 := 21) (pc' := 35) rfl (hb hby d12_21) rfl (teq hc21_44).1 (by decide) (by decide) k) ?_
      refine own_step (T' := T42) (f' := (mkF m 38 #[.val (.ref a1), .val (.int (2 : Int32))] [])) (fun t k => XS.iinc X42.here hx rfl (hb hby d12_35) rfl (l' := #[.val (.ref a1), .val (.int (2 : Int32))]) rfl k) ?_
      refine own_step (T' := T42) (f' := (mkF m 5 #[.val (.ref a1), .val (.int (2 : Int32))] [])) (fun t k => XS.goto X42.here hx rfl (pc0 := 38) (pc' := 5) rfl (hb hby d12_38) (by decide) (by decide) k) ?_
      exact J5_3 T42 _ X42 e42 N_2 (hb1.trans (own_bs32 hc21_44))
    · skip
      refine own_step (T' := T42) (f' := (mkF m 24 #[.val (.ref a1), .val (.int (1 : Int32))] [])) (fun t k => XS.icmpNo X42.here hx rfl (hb hby d12_21) rfl (feq hc21_44).1 k) ?_
      refine own_step (T' := T42) (f' := (mkF m 25 #[.val (.ref a1), .val (.int (1 : Int32))] [(.ref a1)])) (fun t k => XS.aloadN X42.here hx rfl (hb hby d12_24) rfl rfl k) ?_
      obtain ⟨T45, X45, e45, st45⟩ := getF X42 hx hZ hown (host := "") (Or.inl (own_w hw 81 rfl)) Via.refl e42 F_ch (g := (mkF m 25 #[.val (.ref a1), .val (.int (1 : Int32))] [(.ref a1)])) rfl rfl (hb hby d12_25)
      refine own_step (T' := T45) (f' := (mkF m 28 #[.val (.ref a1), .val (.int (1 : Int32))] [(.ref b)])) (fun t k => st45 t k) ?_
      refine own_step (T' := T45) (f' := (mkF m 29 #[.val (.ref a1), .val (.int (1 : Int32))] [(.int (1 : Int32)), (.ref b)])) (fun t k => XS.iloadN X45.here hx rfl (hb hby d12_28) rfl k) ?_
      obtain ⟨cl46, Ar46, q46, S46, M46, H46, G46⟩ := id V_b
      have hin46 : ¬ ((1 : Int32) < 0 ∨ cl46.slots.size ≤ ((1 : Int32)).toNatClampNeg) := inb_of S46 ⟨by decide, by decide⟩
      have hat46 : cl46.slots[((1 : Int32)).toNatClampNeg]? = some (.int y1) := own_at hin46 H46 1 rfl rfl
      refine own_step (T' := T45) (f' := (mkF m 30 #[.val (.ref a1), .val (.int (1 : Int32))] [(.int y1)])) (fun t k => X45.baloadBytes hx (j := (1 : Int32)) (v := (.int y1)) (by rw [e45]; exact Ar46.1) (State.isArrayOf_alike hZ.alike Ar46.2.1) Ar46.2.2 hin46 hat46 (g := (mkF m 29 #[.val (.ref a1), .val (.int (1 : Int32))] [(.int (1 : Int32)), (.ref b)])) rfl rfl (hb hby d12_29) _ k) ?_
      refine own_step (T' := T45) (f' := (mkF m 32 #[.val (.ref a1), .val (.int (1 : Int32))] [(.int (9 : Int32)), (.int y1)])) (fun t k => XS.bipush X45.here hx rfl (hb hby d12_30) k) ?_
      by_cases hc32_47 : y1 = (9 : Int32)
      · skip
        refine own_step (T' := T45) (f' := (mkF m 35 #[.val (.ref a1), .val (.int (1 : Int32))] [])) (fun t k => XS.icmpNo X45.here hx rfl (hb hby d12_32) rfl (teq hc32_47).2 k) ?_
        refine own_step (T' := T45) (f' := (mkF m 38 #[.val (.ref a1), .val (.int (2 : Int32))] [])) (fun t k => XS.iinc X45.here hx rfl (hb hby d12_35) rfl (l' := #[.val (.ref a1), .val (.int (2 : Int32))]) rfl k) ?_
        refine own_step (T' := T45) (f' := (mkF m 5 #[.val (.ref a1), .val (.int (2 : Int32))] [])) (fun t k => XS.goto X45.here hx rfl (pc0 := 38) (pc' := 5) rfl (hb hby d12_38) (by decide) (by decide) k) ?_
        exact J5_3 T45 _ X45 e45 N_2 (hb1.trans (own_bs9 hc32_47))
      · skip
        refine own_step (T' := T45) (f' := (mkF m 41 #[.val (.ref a1), .val (.int (1 : Int32))] [])) (fun t k => XS.icmpYes X45.here hx rfl (pc0 := 32) (pc' := 41) rfl (hb hby d12_32) rfl (feq hc32_47).2 (by decide) (by decide) k) ?_
        refine own_step (T' := T45) (f' := (mkF m 42 #[.val (.ref a1), .val (.int (1 : Int32))] [(.int (1 : Int32))])) (fun t k => XS.iloadN X45.here hx rfl (hb hby d12_41) rfl k) ?_
        refine own_step (T' := T45) (f' := (mkF m 43 #[.val (.ref a1), .val (.int (1 : Int32))] [(.ref a1), (.int (1 : Int32))])) (fun t k => XS.aloadN X45.here hx rfl (hb hby d12_42) rfl rfl k) ?_
        obtain ⟨T48, X48, e48, st48⟩ := getF X45 hx hZ hown (host := "") (Or.inl (own_w hw 85 rfl)) Via.refl e45 F_e (g := (mkF m 43 #[.val (.ref a1), .val (.int (1 : Int32))] [(.ref a1), (.int (1 : Int32))])) rfl rfl (hb hby d12_43)
        refine own_step (T' := T48) (f' := (mkF m 46 #[.val (.ref a1), .val (.int (1 : Int32))] [(.int (4 : Int32)), (.int (1 : Int32))])) (fun t k => st48 t k) ?_
        refine own_step (T' := T48) (f' := (mkF m 49 #[.val (.ref a1), .val (.int (1 : Int32))] [])) (fun t k => XS.icmpNo X48.here hx rfl (hb hby d12_46) rfl (tlt (by decide : (1 : Int32) < (4 : Int32))).2.1 k) ?_
        refine own_step (T' := T48) (f' := (mkF m 50 #[.val (.ref a1), .val (.int (1 : Int32))] [(.ref a1)])) (fun t k => XS.aloadN X48.here hx rfl (hb hby d12_49) rfl rfl k) ?_
        obtain ⟨T49, X49, e49, st49⟩ := getF X48 hx hZ hown (host := "") (Or.inl (own_w hw 81 rfl)) Via.refl e48 F_ch (g := (mkF m 50 #[.val (.ref a1), .val (.int (1 : Int32))] [(.ref a1)])) rfl rfl (hb hby d12_50)
        refine own_step (T' := T49) (f' := (mkF m 53 #[.val (.ref a1), .val (.int (1 : Int32))] [(.ref b)])) (fun t k => st49 t k) ?_
        refine own_step (T' := T49) (f' := (mkF m 54 #[.val (.ref a1), .val (.int (1 : Int32))] [(.int (1 : Int32)), (.ref b)])) (fun t k => XS.iloadN X49.here hx rfl (hb hby d12_53) rfl k) ?_
        obtain ⟨cl50, Ar50, q50, S50, M50, H50, G50⟩ := id V_b
        have hin50 : ¬ ((1 : Int32) < 0 ∨ cl50.slots.size ≤ ((1 : Int32)).toNatClampNeg) := inb_of S50 ⟨by decide, by decide⟩
        have hat50 : cl50.slots[((1 : Int32)).toNatClampNeg]? = some (.int y1) := own_at hin50 H50 1 rfl rfl
        refine own_step (T' := T49) (f' := (mkF m 55 #[.val (.ref a1), .val (.int (1 : Int32))] [(.int y1)])) (fun t k => X49.baloadBytes hx (j := (1 : Int32)) (v := (.int y1)) (by rw [e49]; exact Ar50.1) (State.isArrayOf_alike hZ.alike Ar50.2.1) Ar50.2.2 hin50 hat50 (g := (mkF m 54 #[.val (.ref a1), .val (.int (1 : Int32))] [(.int (1 : Int32)), (.ref b)])) rfl rfl (hb hby d12_54) _ k) ?_
        refine own_step (T' := T49) (f' := (mkF m 57 #[.val (.ref a1), .val (.int (1 : Int32))] [(.int (64 : Int32)), (.int y1)])) (fun t k => XS.bipush X49.here hx rfl (hb hby d12_55) k) ?_
        by_cases hc57_51 : y1 = (64 : Int32)
        · skip
          refine own_step (T' := T49) (f' := (mkF m 60 #[.val (.ref a1), .val (.int (1 : Int32))] [])) (fun t k => XS.icmpNo X49.here hx rfl (hb hby d12_57) rfl (teq hc57_51).2 k) ?_
          refine own_step (T' := T49) (f' := (mkF m 61 #[.val (.ref a1), .val (.int (1 : Int32))] [(.int (1 : Int32))])) (fun t k => XS.iloadN X49.here hx rfl (hb hby d12_60) rfl k) ?_
          refine own_step (T' := T49) (f' := (mkF m 62 #[.val (.ref a1), .val (.int (1 : Int32))] [(.int (1 : Int32)), (.int (1 : Int32))])) (fun t k => XS.iconst X49.here hx rfl (hb hby d12_61) k) ?_
          refine own_step (T' := T49) (f' := (mkF m 63 #[.val (.ref a1), .val (.int (1 : Int32))] [(.int (2 : Int32))])) (fun t k => XS.iadd X49.here hx rfl (hb hby d12_62) rfl k) ?_
          refine own_step (T' := T49) (f' := (mkF m 64 #[.val (.ref a1), .val (.int (1 : Int32))] [(.ref a1), (.int (2 : Int32))])) (fun t k => XS.aloadN X49.here hx rfl (hb hby d12_63) rfl rfl k) ?_
          obtain ⟨T52, X52, e52, st52⟩ := getF X49 hx hZ hown (host := "") (Or.inl (own_w hw 85 rfl)) Via.refl e49 F_e (g := (mkF m 64 #[.val (.ref a1), .val (.int (1 : Int32))] [(.ref a1), (.int (2 : Int32))])) rfl rfl (hb hby d12_64)
          refine own_step (T' := T52) (f' := (mkF m 67 #[.val (.ref a1), .val (.int (1 : Int32))] [(.int (4 : Int32)), (.int (2 : Int32))])) (fun t k => st52 t k) ?_
          refine own_step (T' := T52) (f' := (mkF m 70 #[.val (.ref a1), .val (.int (1 : Int32))] [])) (fun t k => XS.icmpNo X52.here hx rfl (hb hby d12_67) rfl (feq (by decide : ¬ ((2 : Int32) = (4 : Int32)))).1 k) ?_
          refine own_step (T' := T52) (f' := (mkF m 71 #[.val (.ref a1), .val (.int (1 : Int32))] [(.ref a1)])) (fun t k => XS.aloadN X52.here hx rfl (hb hby d12_70) rfl rfl k) ?_
          obtain ⟨T53, X53, e53, st53⟩ := getF X52 hx hZ hown (host := "") (Or.inl (own_w hw 81 rfl)) Via.refl e52 F_ch (g := (mkF m 71 #[.val (.ref a1), .val (.int (1 : Int32))] [(.ref a1)])) rfl rfl (hb hby d12_71)
          refine own_step (T' := T53) (f' := (mkF m 74 #[.val (.ref a1), .val (.int (1 : Int32))] [(.ref b)])) (fun t k => st53 t k) ?_
          refine own_step (T' := T53) (f' := (mkF m 75 #[.val (.ref a1), .val (.int (1 : Int32))] [(.int (1 : Int32)), (.ref b)])) (fun t k => XS.iloadN X53.here hx rfl (hb hby d12_74) rfl k) ?_
          refine own_step (T' := T53) (f' := (mkF m 76 #[.val (.ref a1), .val (.int (1 : Int32))] [(.int (1 : Int32)), (.int (1 : Int32)), (.ref b)])) (fun t k => XS.iconst X53.here hx rfl (hb hby d12_75) k) ?_
          refine own_step (T' := T53) (f' := (mkF m 77 #[.val (.ref a1), .val (.int (1 : Int32))] [(.int (2 : Int32)), (.ref b)])) (fun t k => XS.iadd X53.here hx rfl (hb hby d12_76) rfl k) ?_
          obtain ⟨cl54, Ar54, q54, S54, M54, H54, G54⟩ := id V_b
          have hin54 : ¬ ((2 : Int32) < 0 ∨ cl54.slots.size ≤ ((2 : Int32)).toNatClampNeg) := inb_of S54 ⟨by decide, by decide⟩
          have hat54 : cl54.slots[((2 : Int32)).toNatClampNeg]? = some (.int y2) := own_at hin54 H54 2 rfl rfl
          refine own_step (T' := T53) (f' := (mkF m 78 #[.val (.ref a1), .val (.int (1 : Int32))] [(.int y2)])) (fun t k => X53.baloadBytes hx (j := (2 : Int32)) (v := (.int y2)) (by rw [e53]; exact Ar54.1) (State.isArrayOf_alike hZ.alike Ar54.2.1) Ar54.2.2 hin54 hat54 (g := (mkF m 77 #[.val (.ref a1), .val (.int (1 : Int32))] [(.int (2 : Int32)), (.ref b)])) rfl rfl (hb hby d12_77) _ k) ?_
          refine own_step (T' := T53) (f' := (mkF m 80 #[.val (.ref a1), .val (.int (1 : Int32))] [(.int (32 : Int32)), (.int y2)])) (fun t k => XS.bipush X53.here hx rfl (hb hby d12_78) k) ?_
          by_cases hc80_55 : y2 = (32 : Int32)
          · skip
            refine own_step (T' := T53) (f' := (mkF m 109 #[.val (.ref a1), .val (.int (1 : Int32))] [])) (fun t k => XS.icmpYes X53.here hx rfl (pc0 := 80) (pc' := 109) rfl (hb hby d12_80) rfl (teq hc80_55).1 (by decide) (by decide) k) ?_
            refine own_step (T' := T53) (f' := (mkF m 110 #[.val (.ref a1), .val (.int (1 : Int32))] [(.int (1 : Int32))])) (fun t k => XS.iconst X53.here hx rfl (hb hby d12_109) k) ?_
            refine own_step (T' := T53) (f' := (mkF m 114 #[.val (.ref a1), .val (.int (1 : Int32))] [(.int (1 : Int32))])) (fun t k => XS.goto X53.here hx rfl (pc0 := 110) (pc' := 114) rfl (hb hby d12_110) (by decide) (by decide) k) ?_
            exact own_retN X53 hx hlk (t := .boolean) Bd.returns (by simp) (hb hby d12_114) (by decide) (by decide) ⟨by rw [show own_bs [y0, y1, y2, y3] = (1 : Int32) from (hb1.trans ((own_bs64 hc57_51).trans (own_nx32 hc80_55)))]; rfl, N_2, e53⟩
          · skip
            refine own_step (T' := T53) (f' := (mkF m 83 #[.val (.ref a1), .val (.int (1 : Int32))] [])) (fun t k => XS.icmpNo X53.here hx rfl (hb hby d12_80) rfl (feq hc80_55).1 k) ?_
            refine own_step (T' := T53) (f' := (mkF m 84 #[.val (.ref a1), .val (.int (1 : Int32))] [(.ref a1)])) (fun t k => XS.aloadN X53.here hx rfl (hb hby d12_83) rfl rfl k) ?_
            obtain ⟨T56, X56, e56, st56⟩ := getF X53 hx hZ hown (host := "") (Or.inl (own_w hw 81 rfl)) Via.refl e53 F_ch (g := (mkF m 84 #[.val (.ref a1), .val (.int (1 : Int32))] [(.ref a1)])) rfl rfl (hb hby d12_84)
            refine own_step (T' := T56) (f' := (mkF m 87 #[.val (.ref a1), .val (.int (1 : Int32))] [(.ref b)])) (fun t k => st56 t k) ?_
            refine own_step (T' := T56) (f' := (mkF m 88 #[.val (.ref a1), .val (.int (1 : Int32))] [(.int (1 : Int32)), (.ref b)])) (fun t k => XS.iloadN X56.here hx rfl (hb hby d12_87) rfl k) ?_
            refine own_step (T' := T56) (f' := (mkF m 89 #[.val (.ref a1), .val (.int (1 : Int32))] [(.int (1 : Int32)), (.int (1 : Int32)), (.ref b)])) (fun t k => XS.iconst X56.here hx rfl (hb hby d12_88) k) ?_
            refine own_step (T' := T56) (f' := (mkF m 90 #[.val (.ref a1), .val (.int (1 : Int32))] [(.int (2 : Int32)), (.ref b)])) (fun t k => XS.iadd X56.here hx rfl (hb hby d12_89) rfl k) ?_
            obtain ⟨cl57, Ar57, q57, S57, M57, H57, G57⟩ := id V_b
            have hin57 : ¬ ((2 : Int32) < 0 ∨ cl57.slots.size ≤ ((2 : Int32)).toNatClampNeg) := inb_of S57 ⟨by decide, by decide⟩
            have hat57 : cl57.slots[((2 : Int32)).toNatClampNeg]? = some (.int y2) := own_at hin57 H57 2 rfl rfl
            refine own_step (T' := T56) (f' := (mkF m 91 #[.val (.ref a1), .val (.int (1 : Int32))] [(.int y2)])) (fun t k => X56.baloadBytes hx (j := (2 : Int32)) (v := (.int y2)) (by rw [e56]; exact Ar57.1) (State.isArrayOf_alike hZ.alike Ar57.2.1) Ar57.2.2 hin57 hat57 (g := (mkF m 90 #[.val (.ref a1), .val (.int (1 : Int32))] [(.int (2 : Int32)), (.ref b)])) rfl rfl (hb hby d12_90) _ k) ?_
            refine own_step (T' := T56) (f' := (mkF m 93 #[.val (.ref a1), .val (.int (1 : Int32))] [(.int (9 : Int32)), (.int y2)])) (fun t k => XS.bipush X56.here hx rfl (hb hby d12_91) k) ?_
            by_cases hc93_58 : y2 = (9 : Int32)
            · skip
              refine own_step (T' := T56) (f' := (mkF m 109 #[.val (.ref a1), .val (.int (1 : Int32))] [])) (fun t k => XS.icmpYes X56.here hx rfl (pc0 := 93) (pc' := 109) rfl (hb hby d12_93) rfl (teq hc93_58).1 (by decide) (by decide) k) ?_
              refine own_step (T' := T56) (f' := (mkF m 110 #[.val (.ref a1), .val (.int (1 : Int32))] [(.int (1 : Int32))])) (fun t k => XS.iconst X56.here hx rfl (hb hby d12_109) k) ?_
              refine own_step (T' := T56) (f' := (mkF m 114 #[.val (.ref a1), .val (.int (1 : Int32))] [(.int (1 : Int32))])) (fun t k => XS.goto X56.here hx rfl (pc0 := 110) (pc' := 114) rfl (hb hby d12_110) (by decide) (by decide) k) ?_
              exact own_retN X56 hx hlk (t := .boolean) Bd.returns (by simp) (hb hby d12_114) (by decide) (by decide) ⟨by rw [show own_bs [y0, y1, y2, y3] = (1 : Int32) from (hb1.trans ((own_bs64 hc57_51).trans (own_nx9 hc93_58)))]; rfl, N_2, e56⟩
            · skip
              refine own_step (T' := T56) (f' := (mkF m 96 #[.val (.ref a1), .val (.int (1 : Int32))] [])) (fun t k => XS.icmpNo X56.here hx rfl (hb hby d12_93) rfl (feq hc93_58).1 k) ?_
              refine own_step (T' := T56) (f' := (mkF m 97 #[.val (.ref a1), .val (.int (1 : Int32))] [(.ref a1)])) (fun t k => XS.aloadN X56.here hx rfl (hb hby d12_96) rfl rfl k) ?_
              obtain ⟨T59, X59, e59, st59⟩ := getF X56 hx hZ hown (host := "") (Or.inl (own_w hw 81 rfl)) Via.refl e56 F_ch (g := (mkF m 97 #[.val (.ref a1), .val (.int (1 : Int32))] [(.ref a1)])) rfl rfl (hb hby d12_97)
              refine own_step (T' := T59) (f' := (mkF m 100 #[.val (.ref a1), .val (.int (1 : Int32))] [(.ref b)])) (fun t k => st59 t k) ?_
              refine own_step (T' := T59) (f' := (mkF m 101 #[.val (.ref a1), .val (.int (1 : Int32))] [(.int (1 : Int32)), (.ref b)])) (fun t k => XS.iloadN X59.here hx rfl (hb hby d12_100) rfl k) ?_
              refine own_step (T' := T59) (f' := (mkF m 102 #[.val (.ref a1), .val (.int (1 : Int32))] [(.int (1 : Int32)), (.int (1 : Int32)), (.ref b)])) (fun t k => XS.iconst X59.here hx rfl (hb hby d12_101) k) ?_
              refine own_step (T' := T59) (f' := (mkF m 103 #[.val (.ref a1), .val (.int (1 : Int32))] [(.int (2 : Int32)), (.ref b)])) (fun t k => XS.iadd X59.here hx rfl (hb hby d12_102) rfl k) ?_
              obtain ⟨cl60, Ar60, q60, S60, M60, H60, G60⟩ := id V_b
              have hin60 : ¬ ((2 : Int32) < 0 ∨ cl60.slots.size ≤ ((2 : Int32)).toNatClampNeg) := inb_of S60 ⟨by decide, by decide⟩
              have hat60 : cl60.slots[((2 : Int32)).toNatClampNeg]? = some (.int y2) := own_at hin60 H60 2 rfl rfl
              refine own_step (T' := T59) (f' := (mkF m 104 #[.val (.ref a1), .val (.int (1 : Int32))] [(.int y2)])) (fun t k => X59.baloadBytes hx (j := (2 : Int32)) (v := (.int y2)) (by rw [e59]; exact Ar60.1) (State.isArrayOf_alike hZ.alike Ar60.2.1) Ar60.2.2 hin60 hat60 (g := (mkF m 103 #[.val (.ref a1), .val (.int (1 : Int32))] [(.int (2 : Int32)), (.ref b)])) rfl rfl (hb hby d12_103) _ k) ?_
              refine own_step (T' := T59) (f' := (mkF m 106 #[.val (.ref a1), .val (.int (1 : Int32))] [(.int (42 : Int32)), (.int y2)])) (fun t k => XS.bipush X59.here hx rfl (hb hby d12_104) k) ?_
              by_cases hc106_61 : y2 = (42 : Int32)
              · skip
                refine own_step (T' := T59) (f' := (mkF m 109 #[.val (.ref a1), .val (.int (1 : Int32))] [])) (fun t k => XS.icmpNo X59.here hx rfl (hb hby d12_106) rfl (teq hc106_61).2 k) ?_
                refine own_step (T' := T59) (f' := (mkF m 110 #[.val (.ref a1), .val (.int (1 : Int32))] [(.int (1 : Int32))])) (fun t k => XS.iconst X59.here hx rfl (hb hby d12_109) k) ?_
                refine own_step (T' := T59) (f' := (mkF m 114 #[.val (.ref a1), .val (.int (1 : Int32))] [(.int (1 : Int32))])) (fun t k => XS.goto X59.here hx rfl (pc0 := 110) (pc' := 114) rfl (hb hby d12_110) (by decide) (by decide) k) ?_
                exact own_retN X59 hx hlk (t := .boolean) Bd.returns (by simp) (hb hby d12_114) (by decide) (by decide) ⟨by rw [show own_bs [y0, y1, y2, y3] = (1 : Int32) from (hb1.trans ((own_bs64 hc57_51).trans (own_nx42 hc106_61)))]; rfl, N_2, e59⟩
              · skip
                refine own_step (T' := T59) (f' := (mkF m 113 #[.val (.ref a1), .val (.int (1 : Int32))] [])) (fun t k => XS.icmpYes X59.here hx rfl (pc0 := 106) (pc' := 113) rfl (hb hby d12_106) rfl (feq hc106_61).2 (by decide) (by decide) k) ?_
                refine own_step (T' := T59) (f' := (mkF m 114 #[.val (.ref a1), .val (.int (1 : Int32))] [(.int (0 : Int32))])) (fun t k => XS.iconst X59.here hx rfl (hb hby d12_113) k) ?_
                exact own_retN X59 hx hlk (t := .boolean) Bd.returns (by simp) (hb hby d12_114) (by decide) (by decide) ⟨by rw [show own_bs [y0, y1, y2, y3] = (0 : Int32) from (hb1.trans ((own_bs64 hc57_51).trans (own_nxN hc80_55 hc93_58 hc106_61)))]; rfl, N_2, e59⟩
        · skip
          refine own_step (T' := T49) (f' := (mkF m 113 #[.val (.ref a1), .val (.int (1 : Int32))] [])) (fun t k => XS.icmpYes X49.here hx rfl (pc0 := 57) (pc' := 113) rfl (hb hby d12_57) rfl (feq hc57_51).2 (by decide) (by decide) k) ?_
          refine own_step (T' := T49) (f' := (mkF m 114 #[.val (.ref a1), .val (.int (1 : Int32))] [(.int (0 : Int32))])) (fun t k => XS.iconst X49.here hx rfl (hb hby d12_113) k) ?_
          exact own_retN X49 hx hlk (t := .boolean) Bd.returns (by simp) (hb hby d12_114) (by decide) (by decide) ⟨by rw [show own_bs [y0, y1, y2, y3] = (0 : Int32) from (hb1.trans (own_bsN hc21_44 hc32_47 hc57_51))]; rfl, N_2, e49⟩
  refine own_step (T' := T1) (f' := (mkF m 6 #[.val (.ref a1), .val (.int (0 : Int32))] [(.int (0 : Int32))])) (fun t k => XS.iloadN X1.here hx rfl (hb hby d12_5) rfl k) ?_
  refine own_step (T' := T1) (f' := (mkF m 7 #[.val (.ref a1), .val (.int (0 : Int32))] [(.ref a1), (.int (0 : Int32))])) (fun t k => XS.aloadN X1.here hx rfl (hb hby d12_6) rfl rfl k) ?_
  obtain ⟨T62, X62, e62, st62⟩ := getF X1 hx hZ hown (host := "") (Or.inl (own_w hw 85 rfl)) Via.refl e1 F_e (g := (mkF m 7 #[.val (.ref a1), .val (.int (0 : Int32))] [(.ref a1), (.int (0 : Int32))])) rfl rfl (hb hby d12_7)
  refine own_step (T' := T62) (f' := (mkF m 10 #[.val (.ref a1), .val (.int (0 : Int32))] [(.int (4 : Int32)), (.int (0 : Int32))])) (fun t k => st62 t k) ?_
  refine own_step (T' := T62) (f' := (mkF m 13 #[.val (.ref a1), .val (.int (0 : Int32))] [])) (fun t k => XS.icmpNo X62.here hx rfl (hb hby d12_10) rfl (tlt (by decide : (0 : Int32) < (4 : Int32))).2.1 k) ?_
  refine own_step (T' := T62) (f' := (mkF m 14 #[.val (.ref a1), .val (.int (0 : Int32))] [(.ref a1)])) (fun t k => XS.aloadN X62.here hx rfl (hb hby d12_13) rfl rfl k) ?_
  obtain ⟨T63, X63, e63, st63⟩ := getF X62 hx hZ hown (host := "") (Or.inl (own_w hw 81 rfl)) Via.refl e62 F_ch (g := (mkF m 14 #[.val (.ref a1), .val (.int (0 : Int32))] [(.ref a1)])) rfl rfl (hb hby d12_14)
  refine own_step (T' := T63) (f' := (mkF m 17 #[.val (.ref a1), .val (.int (0 : Int32))] [(.ref b)])) (fun t k => st63 t k) ?_
  refine own_step (T' := T63) (f' := (mkF m 18 #[.val (.ref a1), .val (.int (0 : Int32))] [(.int (0 : Int32)), (.ref b)])) (fun t k => XS.iloadN X63.here hx rfl (hb hby d12_17) rfl k) ?_
  obtain ⟨cl64, Ar64, q64, S64, M64, H64, G64⟩ := id V_b
  have hin64 : ¬ ((0 : Int32) < 0 ∨ cl64.slots.size ≤ ((0 : Int32)).toNatClampNeg) := inb_of S64 ⟨by decide, by decide⟩
  have hat64 : cl64.slots[((0 : Int32)).toNatClampNeg]? = some (.int y0) := own_at hin64 H64 0 rfl rfl
  refine own_step (T' := T63) (f' := (mkF m 19 #[.val (.ref a1), .val (.int (0 : Int32))] [(.int y0)])) (fun t k => X63.baloadBytes hx (j := (0 : Int32)) (v := (.int y0)) (by rw [e63]; exact Ar64.1) (State.isArrayOf_alike hZ.alike Ar64.2.1) Ar64.2.2 hin64 hat64 (g := (mkF m 18 #[.val (.ref a1), .val (.int (0 : Int32))] [(.int (0 : Int32)), (.ref b)])) rfl rfl (hb hby d12_18) _ k) ?_
  refine own_step (T' := T63) (f' := (mkF m 21 #[.val (.ref a1), .val (.int (0 : Int32))] [(.int (32 : Int32)), (.int y0)])) (fun t k => XS.bipush X63.here hx rfl (hb hby d12_19) k) ?_
  by_cases hc21_65 : y0 = (32 : Int32)
  · skip
    refine own_step (T' := T63) (f' := (mkF m 35 #[.val (.ref a1), .val (.int (0 : Int32))] [])) (fun t k => XS.icmpYes X63.here hx rfl (pc0 := 21) (pc' := 35) rfl (hb hby d12_21) rfl (teq hc21_65).1 (by decide) (by decide) k) ?_
    refine own_step (T' := T63) (f' := (mkF m 38 #[.val (.ref a1), .val (.int (1 : Int32))] [])) (fun t k => XS.iinc X63.here hx rfl (hb hby d12_35) rfl (l' := #[.val (.ref a1), .val (.int (1 : Int32))]) rfl k) ?_
    refine own_step (T' := T63) (f' := (mkF m 5 #[.val (.ref a1), .val (.int (1 : Int32))] [])) (fun t k => XS.goto X63.here hx rfl (pc0 := 38) (pc' := 5) rfl (hb hby d12_38) (by decide) (by decide) k) ?_
    exact J5_2 T63 _ X63 e63 N0 (own_bs32 hc21_65)
  · skip
    refine own_step (T' := T63) (f' := (mkF m 24 #[.val (.ref a1), .val (.int (0 : Int32))] [])) (fun t k => XS.icmpNo X63.here hx rfl (hb hby d12_21) rfl (feq hc21_65).1 k) ?_
    refine own_step (T' := T63) (f' := (mkF m 25 #[.val (.ref a1), .val (.int (0 : Int32))] [(.ref a1)])) (fun t k => XS.aloadN X63.here hx rfl (hb hby d12_24) rfl rfl k) ?_
    obtain ⟨T66, X66, e66, st66⟩ := getF X63 hx hZ hown (host := "") (Or.inl (own_w hw 81 rfl)) Via.refl e63 F_ch (g := (mkF m 25 #[.val (.ref a1), .val (.int (0 : Int32))] [(.ref a1)])) rfl rfl (hb hby d12_25)
    refine own_step (T' := T66) (f' := (mkF m 28 #[.val (.ref a1), .val (.int (0 : Int32))] [(.ref b)])) (fun t k => st66 t k) ?_
    refine own_step (T' := T66) (f' := (mkF m 29 #[.val (.ref a1), .val (.int (0 : Int32))] [(.int (0 : Int32)), (.ref b)])) (fun t k => XS.iloadN X66.here hx rfl (hb hby d12_28) rfl k) ?_
    obtain ⟨cl67, Ar67, q67, S67, M67, H67, G67⟩ := id V_b
    have hin67 : ¬ ((0 : Int32) < 0 ∨ cl67.slots.size ≤ ((0 : Int32)).toNatClampNeg) := inb_of S67 ⟨by decide, by decide⟩
    have hat67 : cl67.slots[((0 : Int32)).toNatClampNeg]? = some (.int y0) := own_at hin67 H67 0 rfl rfl
    refine own_step (T' := T66) (f' := (mkF m 30 #[.val (.ref a1), .val (.int (0 : Int32))] [(.int y0)])) (fun t k => X66.baloadBytes hx (j := (0 : Int32)) (v := (.int y0)) (by rw [e66]; exact Ar67.1) (State.isArrayOf_alike hZ.alike Ar67.2.1) Ar67.2.2 hin67 hat67 (g := (mkF m 29 #[.val (.ref a1), .val (.int (0 : Int32))] [(.int (0 : Int32)), (.ref b)])) rfl rfl (hb hby d12_29) _ k) ?_
    refine own_step (T' := T66) (f' := (mkF m 32 #[.val (.ref a1), .val (.int (0 : Int32))] [(.int (9 : Int32)), (.int y0)])) (fun t k => XS.bipush X66.here hx rfl (hb hby d12_30) k) ?_
    by_cases hc32_68 : y0 = (9 : Int32)
    · skip
      refine own_step (T' := T66) (f' := (mkF m 35 #[.val (.ref a1), .val (.int (0 : Int32))] [])) (fun t k => XS.icmpNo X66.here hx rfl (hb hby d12_32) rfl (teq hc32_68).2 k) ?_
      refine own_step (T' := T66) (f' := (mkF m 38 #[.val (.ref a1), .val (.int (1 : Int32))] [])) (fun t k => XS.iinc X66.here hx rfl (hb hby d12_35) rfl (l' := #[.val (.ref a1), .val (.int (1 : Int32))]) rfl k) ?_
      refine own_step (T' := T66) (f' := (mkF m 5 #[.val (.ref a1), .val (.int (1 : Int32))] [])) (fun t k => XS.goto X66.here hx rfl (pc0 := 38) (pc' := 5) rfl (hb hby d12_38) (by decide) (by decide) k) ?_
      exact J5_2 T66 _ X66 e66 N0 (own_bs9 hc32_68)
    · skip
      refine own_step (T' := T66) (f' := (mkF m 41 #[.val (.ref a1), .val (.int (0 : Int32))] [])) (fun t k => XS.icmpYes X66.here hx rfl (pc0 := 32) (pc' := 41) rfl (hb hby d12_32) rfl (feq hc32_68).2 (by decide) (by decide) k) ?_
      refine own_step (T' := T66) (f' := (mkF m 42 #[.val (.ref a1), .val (.int (0 : Int32))] [(.int (0 : Int32))])) (fun t k => XS.iloadN X66.here hx rfl (hb hby d12_41) rfl k) ?_
      refine own_step (T' := T66) (f' := (mkF m 43 #[.val (.ref a1), .val (.int (0 : Int32))] [(.ref a1), (.int (0 : Int32))])) (fun t k => XS.aloadN X66.here hx rfl (hb hby d12_42) rfl rfl k) ?_
      obtain ⟨T69, X69, e69, st69⟩ := getF X66 hx hZ hown (host := "") (Or.inl (own_w hw 85 rfl)) Via.refl e66 F_e (g := (mkF m 43 #[.val (.ref a1), .val (.int (0 : Int32))] [(.ref a1), (.int (0 : Int32))])) rfl rfl (hb hby d12_43)
      refine own_step (T' := T69) (f' := (mkF m 46 #[.val (.ref a1), .val (.int (0 : Int32))] [(.int (4 : Int32)), (.int (0 : Int32))])) (fun t k => st69 t k) ?_
      refine own_step (T' := T69) (f' := (mkF m 49 #[.val (.ref a1), .val (.int (0 : Int32))] [])) (fun t k => XS.icmpNo X69.here hx rfl (hb hby d12_46) rfl (tlt (by decide : (0 : Int32) < (4 : Int32))).2.1 k) ?_
      refine own_step (T' := T69) (f' := (mkF m 50 #[.val (.ref a1), .val (.int (0 : Int32))] [(.ref a1)])) (fun t k => XS.aloadN X69.here hx rfl (hb hby d12_49) rfl rfl k) ?_
      obtain ⟨T70, X70, e70, st70⟩ := getF X69 hx hZ hown (host := "") (Or.inl (own_w hw 81 rfl)) Via.refl e69 F_ch (g := (mkF m 50 #[.val (.ref a1), .val (.int (0 : Int32))] [(.ref a1)])) rfl rfl (hb hby d12_50)
      refine own_step (T' := T70) (f' := (mkF m 53 #[.val (.ref a1), .val (.int (0 : Int32))] [(.ref b)])) (fun t k => st70 t k) ?_
      refine own_step (T' := T70) (f' := (mkF m 54 #[.val (.ref a1), .val (.int (0 : Int32))] [(.int (0 : Int32)), (.ref b)])) (fun t k => XS.iloadN X70.here hx rfl (hb hby d12_53) rfl k) ?_
      obtain ⟨cl71, Ar71, q71, S71, M71, H71, G71⟩ := id V_b
      have hin71 : ¬ ((0 : Int32) < 0 ∨ cl71.slots.size ≤ ((0 : Int32)).toNatClampNeg) := inb_of S71 ⟨by decide, by decide⟩
      have hat71 : cl71.slots[((0 : Int32)).toNatClampNeg]? = some (.int y0) := own_at hin71 H71 0 rfl rfl
      refine own_step (T' := T70) (f' := (mkF m 55 #[.val (.ref a1), .val (.int (0 : Int32))] [(.int y0)])) (fun t k => X70.baloadBytes hx (j := (0 : Int32)) (v := (.int y0)) (by rw [e70]; exact Ar71.1) (State.isArrayOf_alike hZ.alike Ar71.2.1) Ar71.2.2 hin71 hat71 (g := (mkF m 54 #[.val (.ref a1), .val (.int (0 : Int32))] [(.int (0 : Int32)), (.ref b)])) rfl rfl (hb hby d12_54) _ k) ?_
      refine own_step (T' := T70) (f' := (mkF m 57 #[.val (.ref a1), .val (.int (0 : Int32))] [(.int (64 : Int32)), (.int y0)])) (fun t k => XS.bipush X70.here hx rfl (hb hby d12_55) k) ?_
      by_cases hc57_72 : y0 = (64 : Int32)
      · skip
        refine own_step (T' := T70) (f' := (mkF m 60 #[.val (.ref a1), .val (.int (0 : Int32))] [])) (fun t k => XS.icmpNo X70.here hx rfl (hb hby d12_57) rfl (teq hc57_72).2 k) ?_
        refine own_step (T' := T70) (f' := (mkF m 61 #[.val (.ref a1), .val (.int (0 : Int32))] [(.int (0 : Int32))])) (fun t k => XS.iloadN X70.here hx rfl (hb hby d12_60) rfl k) ?_
        refine own_step (T' := T70) (f' := (mkF m 62 #[.val (.ref a1), .val (.int (0 : Int32))] [(.int (1 : Int32)), (.int (0 : Int32))])) (fun t k => XS.iconst X70.here hx rfl (hb hby d12_61) k) ?_
        refine own_step (T' := T70) (f' := (mkF m 63 #[.val (.ref a1), .val (.int (0 : Int32))] [(.int (1 : Int32))])) (fun t k => XS.iadd X70.here hx rfl (hb hby d12_62) rfl k) ?_
        refine own_step (T' := T70) (f' := (mkF m 64 #[.val (.ref a1), .val (.int (0 : Int32))] [(.ref a1), (.int (1 : Int32))])) (fun t k => XS.aloadN X70.here hx rfl (hb hby d12_63) rfl rfl k) ?_
        obtain ⟨T73, X73, e73, st73⟩ := getF X70 hx hZ hown (host := "") (Or.inl (own_w hw 85 rfl)) Via.refl e70 F_e (g := (mkF m 64 #[.val (.ref a1), .val (.int (0 : Int32))] [(.ref a1), (.int (1 : Int32))])) rfl rfl (hb hby d12_64)
        refine own_step (T' := T73) (f' := (mkF m 67 #[.val (.ref a1), .val (.int (0 : Int32))] [(.int (4 : Int32)), (.int (1 : Int32))])) (fun t k => st73 t k) ?_
        refine own_step (T' := T73) (f' := (mkF m 70 #[.val (.ref a1), .val (.int (0 : Int32))] [])) (fun t k => XS.icmpNo X73.here hx rfl (hb hby d12_67) rfl (feq (by decide : ¬ ((1 : Int32) = (4 : Int32)))).1 k) ?_
        refine own_step (T' := T73) (f' := (mkF m 71 #[.val (.ref a1), .val (.int (0 : Int32))] [(.ref a1)])) (fun t k => XS.aloadN X73.here hx rfl (hb hby d12_70) rfl rfl k) ?_
        obtain ⟨T74, X74, e74, st74⟩ := getF X73 hx hZ hown (host := "") (Or.inl (own_w hw 81 rfl)) Via.refl e73 F_ch (g := (mkF m 71 #[.val (.ref a1), .val (.int (0 : Int32))] [(.ref a1)])) rfl rfl (hb hby d12_71)
        refine own_step (T' := T74) (f' := (mkF m 74 #[.val (.ref a1), .val (.int (0 : Int32))] [(.ref b)])) (fun t k => st74 t k) ?_
        refine own_step (T' := T74) (f' := (mkF m 75 #[.val (.ref a1), .val (.int (0 : Int32))] [(.int (0 : Int32)), (.ref b)])) (fun t k => XS.iloadN X74.here hx rfl (hb hby d12_74) rfl k) ?_
        refine own_step (T' := T74) (f' := (mkF m 76 #[.val (.ref a1), .val (.int (0 : Int32))] [(.int (1 : Int32)), (.int (0 : Int32)), (.ref b)])) (fun t k => XS.iconst X74.here hx rfl (hb hby d12_75) k) ?_
        refine own_step (T' := T74) (f' := (mkF m 77 #[.val (.ref a1), .val (.int (0 : Int32))] [(.int (1 : Int32)), (.ref b)])) (fun t k => XS.iadd X74.here hx rfl (hb hby d12_76) rfl k) ?_
        obtain ⟨cl75, Ar75, q75, S75, M75, H75, G75⟩ := id V_b
        have hin75 : ¬ ((1 : Int32) < 0 ∨ cl75.slots.size ≤ ((1 : Int32)).toNatClampNeg) := inb_of S75 ⟨by decide, by decide⟩
        have hat75 : cl75.slots[((1 : Int32)).toNatClampNeg]? = some (.int y1) := own_at hin75 H75 1 rfl rfl
        refine own_step (T' := T74) (f' := (mkF m 78 #[.val (.ref a1), .val (.int (0 : Int32))] [(.int y1)])) (fun t k => X74.baloadBytes hx (j := (1 : Int32)) (v := (.int y1)) (by rw [e74]; exact Ar75.1) (State.isArrayOf_alike hZ.alike Ar75.2.1) Ar75.2.2 hin75 hat75 (g := (mkF m 77 #[.val (.ref a1), .val (.int (0 : Int32))] [(.int (1 : Int32)), (.ref b)])) rfl rfl (hb hby d12_77) _ k) ?_
        refine own_step (T' := T74) (f' := (mkF m 80 #[.val (.ref a1), .val (.int (0 : Int32))] [(.int (32 : Int32)), (.int y1)])) (fun t k => XS.bipush X74.here hx rfl (hb hby d12_78) k) ?_
        by_cases hc80_76 : y1 = (32 : Int32)
        · skip
          refine own_step (T' := T74) (f' := (mkF m 109 #[.val (.ref a1), .val (.int (0 : Int32))] [])) (fun t k => XS.icmpYes X74.here hx rfl (pc0 := 80) (pc' := 109) rfl (hb hby d12_80) rfl (teq hc80_76).1 (by decide) (by decide) k) ?_
          refine own_step (T' := T74) (f' := (mkF m 110 #[.val (.ref a1), .val (.int (0 : Int32))] [(.int (1 : Int32))])) (fun t k => XS.iconst X74.here hx rfl (hb hby d12_109) k) ?_
          refine own_step (T' := T74) (f' := (mkF m 114 #[.val (.ref a1), .val (.int (0 : Int32))] [(.int (1 : Int32))])) (fun t k => XS.goto X74.here hx rfl (pc0 := 110) (pc' := 114) rfl (hb hby d12_110) (by decide) (by decide) k) ?_
          exact own_retN X74 hx hlk (t := .boolean) Bd.returns (by simp) (hb hby d12_114) (by decide) (by decide) ⟨by rw [show own_bs [y0, y1, y2, y3] = (1 : Int32) from ((own_bs64 hc57_72).trans (own_nx32 hc80_76))]; rfl, N0, e74⟩
        · skip
          refine own_step (T' := T74) (f' := (mkF m 83 #[.val (.ref a1), .val (.int (0 : Int32))] [])) (fun t k => XS.icmpNo X74.here hx rfl (hb hby d12_80) rfl (feq hc80_76).1 k) ?_
          refine own_step (T' := T74) (f' := (mkF m 84 #[.val (.ref a1), .val (.int (0 : Int32))] [(.ref a1)])) (fun t k => XS.aloadN X74.here hx rfl (hb hby d12_83) rfl rfl k) ?_
          obtain ⟨T77, X77, e77, st77⟩ := getF X74 hx hZ hown (host := "") (Or.inl (own_w hw 81 rfl)) Via.refl e74 F_ch (g := (mkF m 84 #[.val (.ref a1), .val (.int (0 : Int32))] [(.ref a1)])) rfl rfl (hb hby d12_84)
          refine own_step (T' := T77) (f' := (mkF m 87 #[.val (.ref a1), .val (.int (0 : Int32))] [(.ref b)])) (fun t k => st77 t k) ?_
          refine own_step (T' := T77) (f' := (mkF m 88 #[.val (.ref a1), .val (.int (0 : Int32))] [(.int (0 : Int32)), (.ref b)])) (fun t k => XS.iloadN X77.here hx rfl (hb hby d12_87) rfl k) ?_
          refine own_step (T' := T77) (f' := (mkF m 89 #[.val (.ref a1), .val (.int (0 : Int32))] [(.int (1 : Int32)), (.int (0 : Int32)), (.ref b)])) (fun t k => XS.iconst X77.here hx rfl (hb hby d12_88) k) ?_
          refine own_step (T' := T77) (f' := (mkF m 90 #[.val (.ref a1), .val (.int (0 : Int32))] [(.int (1 : Int32)), (.ref b)])) (fun t k => XS.iadd X77.here hx rfl (hb hby d12_89) rfl k) ?_
          obtain ⟨cl78, Ar78, q78, S78, M78, H78, G78⟩ := id V_b
          have hin78 : ¬ ((1 : Int32) < 0 ∨ cl78.slots.size ≤ ((1 : Int32)).toNatClampNeg) := inb_of S78 ⟨by decide, by decide⟩
          have hat78 : cl78.slots[((1 : Int32)).toNatClampNeg]? = some (.int y1) := own_at hin78 H78 1 rfl rfl
          refine own_step (T' := T77) (f' := (mkF m 91 #[.val (.ref a1), .val (.int (0 : Int32))] [(.int y1)])) (fun t k => X77.baloadBytes hx (j := (1 : Int32)) (v := (.int y1)) (by rw [e77]; exact Ar78.1) (State.isArrayOf_alike hZ.alike Ar78.2.1) Ar78.2.2 hin78 hat78 (g := (mkF m 90 #[.val (.ref a1), .val (.int (0 : Int32))] [(.int (1 : Int32)), (.ref b)])) rfl rfl (hb hby d12_90) _ k) ?_
          refine own_step (T' := T77) (f' := (mkF m 93 #[.val (.ref a1), .val (.int (0 : Int32))] [(.int (9 : Int32)), (.int y1)])) (fun t k => XS.bipush X77.here hx rfl (hb hby d12_91) k) ?_
          by_cases hc93_79 : y1 = (9 : Int32)
          · skip
            refine own_step (T' := T77) (f' := (mkF m 109 #[.val (.ref a1), .val (.int (0 : Int32))] [])) (fun t k => XS.icmpYes X77.here hx rfl (pc0 := 93) (pc' := 109) rfl (hb hby d12_93) rfl (teq hc93_79).1 (by decide) (by decide) k) ?_
            refine own_step (T' := T77) (f' := (mkF m 110 #[.val (.ref a1), .val (.int (0 : Int32))] [(.int (1 : Int32))])) (fun t k => XS.iconst X77.here hx rfl (hb hby d12_109) k) ?_
            refine own_step (T' := T77) (f' := (mkF m 114 #[.val (.ref a1), .val (.int (0 : Int32))] [(.int (1 : Int32))])) (fun t k => XS.goto X77.here hx rfl (pc0 := 110) (pc' := 114) rfl (hb hby d12_110) (by decide) (by decide) k) ?_
            exact own_retN X77 hx hlk (t := .boolean) Bd.returns (by simp) (hb hby d12_114) (by decide) (by decide) ⟨by rw [show own_bs [y0, y1, y2, y3] = (1 : Int32) from ((own_bs64 hc57_72).trans (own_nx9 hc93_79))]; rfl, N0, e77⟩
          · skip
            refine own_step (T' := T77) (f' := (mkF m 96 #[.val (.ref a1), .val (.int (0 : Int32))] [])) (fun t k => XS.icmpNo X77.here hx rfl (hb hby d12_93) rfl (feq hc93_79).1 k) ?_
            refine own_step (T' := T77) (f' := (mkF m 97 #[.val (.ref a1), .val (.int (0 : Int32))] [(.ref a1)])) (fun t k => XS.aloadN X77.here hx rfl (hb hby d12_96) rfl rfl k) ?_
            obtain ⟨T80, X80, e80, st80⟩ := getF X77 hx hZ hown (host := "") (Or.inl (own_w hw 81 rfl)) Via.refl e77 F_ch (g := (mkF m 97 #[.val (.ref a1), .val (.int (0 : Int32))] [(.ref a1)])) rfl rfl (hb hby d12_97)
            refine own_step (T' := T80) (f' := (mkF m 100 #[.val (.ref a1), .val (.int (0 : Int32))] [(.ref b)])) (fun t k => st80 t k) ?_
            refine own_step (T' := T80) (f' := (mkF m 101 #[.val (.ref a1), .val (.int (0 : Int32))] [(.int (0 : Int32)), (.ref b)])) (fun t k => XS.iloadN X80.here hx rfl (hb hby d12_100) rfl k) ?_
            refine own_step (T' := T80) (f' := (mkF m 102 #[.val (.ref a1), .val (.int (0 : Int32))] [(.int (1 : Int32)), (.int (0 : Int32)), (.ref b)])) (fun t k => XS.iconst X80.here hx rfl (hb hby d12_101) k) ?_
            refine own_step (T' := T80) (f' := (mkF m 103 #[.val (.ref a1), .val (.int (0 : Int32))] [(.int (1 : Int32)), (.ref b)])) (fun t k => XS.iadd X80.here hx rfl (hb hby d12_102) rfl k) ?_
            obtain ⟨cl81, Ar81, q81, S81, M81, H81, G81⟩ := id V_b
            have hin81 : ¬ ((1 : Int32) < 0 ∨ cl81.slots.size ≤ ((1 : Int32)).toNatClampNeg) := inb_of S81 ⟨by decide, by decide⟩
            have hat81 : cl81.slots[((1 : Int32)).toNatClampNeg]? = some (.int y1) := own_at hin81 H81 1 rfl rfl
            refine own_step (T' := T80) (f' := (mkF m 104 #[.val (.ref a1), .val (.int (0 : Int32))] [(.int y1)])) (fun t k => X80.baloadBytes hx (j := (1 : Int32)) (v := (.int y1)) (by rw [e80]; exact Ar81.1) (State.isArrayOf_alike hZ.alike Ar81.2.1) Ar81.2.2 hin81 hat81 (g := (mkF m 103 #[.val (.ref a1), .val (.int (0 : Int32))] [(.int (1 : Int32)), (.ref b)])) rfl rfl (hb hby d12_103) _ k) ?_
            refine own_step (T' := T80) (f' := (mkF m 106 #[.val (.ref a1), .val (.int (0 : Int32))] [(.int (42 : Int32)), (.int y1)])) (fun t k => XS.bipush X80.here hx rfl (hb hby d12_104) k) ?_
            by_cases hc106_82 : y1 = (42 : Int32)
            · skip
              refine own_step (T' := T80) (f' := (mkF m 109 #[.val (.ref a1), .val (.int (0 : Int32))] [])) (fun t k => XS.icmpNo X80.here hx rfl (hb hby d12_106) rfl (teq hc106_82).2 k) ?_
              refine own_step (T' := T80) (f' := (mkF m 110 #[.val (.ref a1), .val (.int (0 : Int32))] [(.int (1 : Int32))])) (fun t k => XS.iconst X80.here hx rfl (hb hby d12_109) k) ?_
              refine own_step (T' := T80) (f' := (mkF m 114 #[.val (.ref a1), .val (.int (0 : Int32))] [(.int (1 : Int32))])) (fun t k => XS.goto X80.here hx rfl (pc0 := 110) (pc' := 114) rfl (hb hby d12_110) (by decide) (by decide) k) ?_
              exact own_retN X80 hx hlk (t := .boolean) Bd.returns (by simp) (hb hby d12_114) (by decide) (by decide) ⟨by rw [show own_bs [y0, y1, y2, y3] = (1 : Int32) from ((own_bs64 hc57_72).trans (own_nx42 hc106_82))]; rfl, N0, e80⟩
            · skip
              refine own_step (T' := T80) (f' := (mkF m 113 #[.val (.ref a1), .val (.int (0 : Int32))] [])) (fun t k => XS.icmpYes X80.here hx rfl (pc0 := 106) (pc' := 113) rfl (hb hby d12_106) rfl (feq hc106_82).2 (by decide) (by decide) k) ?_
              refine own_step (T' := T80) (f' := (mkF m 114 #[.val (.ref a1), .val (.int (0 : Int32))] [(.int (0 : Int32))])) (fun t k => XS.iconst X80.here hx rfl (hb hby d12_113) k) ?_
              exact own_retN X80 hx hlk (t := .boolean) Bd.returns (by simp) (hb hby d12_114) (by decide) (by decide) ⟨by rw [show own_bs [y0, y1, y2, y3] = (0 : Int32) from ((own_bs64 hc57_72).trans (own_nxN hc80_76 hc93_79 hc106_82))]; rfl, N0, e80⟩
      · skip
        refine own_step (T' := T70) (f' := (mkF m 113 #[.val (.ref a1), .val (.int (0 : Int32))] [])) (fun t k => XS.icmpYes X70.here hx rfl (pc0 := 57) (pc' := 113) rfl (hb hby d12_57) rfl (feq hc57_72).2 (by decide) (by decide) k) ?_
        refine own_step (T' := T70) (f' := (mkF m 114 #[.val (.ref a1), .val (.int (0 : Int32))] [(.int (0 : Int32))])) (fun t k => XS.iconst X70.here hx rfl (hb hby d12_113) k) ?_
        exact own_retN X70 hx hlk (t := .boolean) Bd.returns (by simp) (hb hby d12_114) (by decide) (by decide) ⟨by rw [show own_bs [y0, y1, y2, y3] = (0 : Int32) from (own_bsN hc21_65 hc32_68 hc57_72)]; rfl, N0, e70⟩

def Q3_4 (Z : State) (a1 : Addr) (c0 c1 c2 c3 : Int32) (h0 : Heap) (n0 : Nat) (v : Option Value) (h : Heap) (L : List Loc) : Prop := v = none ∧ Fr n0 L ∧ Keep h0 h [a1] ∧ ∃ (b : Addr) (k : ClassId), OwnStr Z h a1 b k 4 [(.int (own_sb c0)), (.int (own_sb c1)), (.int (own_sb c2)), (.int (own_sb c3))]
def Q14_4 (Z : State) (a3 : Addr) (kb : ClassId) (c0 c1 c2 c3 : Int32) (h0 : Heap) (n0 : Nat) (v : Option Value) (h : Heap) (L : List Loc) : Prop := v = some (.int 4) ∧ Fr n0 L ∧ Keep h0 h [a3] ∧ Arv Z h a3 kb .byte (4 : Int32) [(.int (own_sb c0)), (.int (own_sb c1)), (.int (own_sb c2)), (.int (own_sb c3))] (.int (0 : Int32))
theorem ef_rm14_4 (m : MethodId) (x0 : Addr) (x1 : Int32) (x2 : Addr) (x3 : Int32) (x4 : Int32) : entryFrame m #[(.ref x0), (.int x1), (.ref x2), (.int x3), (.int x4)] 7 = mkF m 0 #[.val (.ref x0), .val (.int x1), .val (.ref x2), .val (.int x3), .val (.int x4), .unset, .unset] [] := by first | (simp [entryFrame, mkF, argsToLocals, Value.category]; done) | rfl
set_option maxRecDepth 65536 in
set_option maxHeartbeats 40000000 in
theorem rm14_4 (l : Launch) (Z : State) (a0 : Array Value) (hw : ∀ d ∈ tables_1, d.before a0 Z = true) (ws : List Jvm.Cond) (a1 : Addr) (a3 : Addr) (h0 : Heap) (n0 : Nat) (Z0 : n0 ≤ h0.size) (kc kb : ClassId) (c0 c1 c2 c3 : Int32) (hC0 : OwnC c0) (hC1 : OwnC c1) (hC2 : OwnC c2) (hC3 : OwnC c3) (V_a1 : Arv Z h0 a1 kc .char (4 : Int32) [(.int c0), (.int c1), (.int c2), (.int c3)] (.int (0 : Int32))) (V_a3 : Arv Z h0 a3 kb .byte (4 : Int32) [(.int (0 : Int32)), (.int (0 : Int32)), (.int (0 : Int32)), (.int (0 : Int32))] (.int (0 : Int32))) (ne13 : a1 ≠ a3) (g_a3 : n0 ≤ a3) :
    MetFree l (⟨"java/lang/StringUTF16", "compress", "([CI[BII)I"⟩ : MethodName) (head1 (Jvm.Cond.code (⟨"java/lang/StringUTF16", "compress", "([CI[BII)I"⟩ : MethodName) jdk_52_method_21_code 7 (some .int) :: ws) ({ frames := 0, cells := 0, slots := 0, locals := 0 } : Room)) (fun a U => a = #[(.ref a1), (.int (0 : Int32)), (.ref a3), (.int (0 : Int32)), (.int (4 : Int32))] ∧ Z.Warmed39 U.vm ∧ U.heap = h0) (fun _ _ _ _ _ => True) (fun _ U o U' => ∃ v L, o = .returned v ∧ Q14_4 Z a3 kb c0 c1 c2 c3 h0 n0 v U'.heap L ∧ FrameEnd U o U' L ({ frames := 0, cells := 0, slots := 0, locals := 0 } : Room).cells ({ frames := 0, cells := 0, slots := 0, locals := 0 } : Room).slots) := by
  refine MetFree.of_bodySF (plainFor_of_name pn_14) hisR ?_
  intro p e s m args below meth c s₁ Bd hml0 hP hK
  obtain ⟨rfl, hZ, hh⟩ := hP
  have hx := Bd.exec
  have hby := Bd.bytes
  have hlk : meth.locks = false := BodyLoose.notSynchronized Bd
  have hml : c.maxLocals = 7 := hml0
  have hown : s.vm.findClass "java/lang/StringUTF16" = some m.cls := findClass_of_methodNamed Bd.named
  have hnm := (name_of_methodNamed Bd.named Bd.method).1
  have X0 : Stand p l e ({ frames := 0, cells := 0, slots := 0, locals := 0 } : Room) s m #[(.ref a1), (.int (0 : Int32)), (.ref a3), (.int (0 : Int32)), (.int (4 : Int32))] below meth c s₁ [] 0 0 := Stand.of_body Bd
  have e0 : s₁.heap = h0 := by rw [← hh, Bd.state]; rfl
  have N0 := Fr.nil n0
  have Zz := Z0
  have Kp : Keep h0 h0 [a3] := Keep.refl _ _
  show OwnEnds p e below s (Q14_4 Z a3 kb c0 c1 c2 c3 h0 n0) ({ frames := 0, cells := 0, slots := 0, locals := 0 } : Room).cells ({ frames := 0, cells := 0, slots := 0, locals := 0 } : Room).slots s₁ (entryFrame m #[(.ref a1), (.int (0 : Int32)), (.ref a3), (.int (0 : Int32)), (.int (4 : Int32))] 7)
  refine own_step (T' := s₁) (f' := (mkF m 0 #[.val (.ref a1), .val (.int (0 : Int32)), .val (.ref a3), .val (.int (0 : Int32)), .val (.int (4 : Int32)), .unset, .unset] [])) (fun t k => castTop (ef_rm14_4 m a1 (0 : Int32) a3 (0 : Int32) (4 : Int32)) k) ?_
  let F1 : Nat → List Value → JFrame := fun a b => mkF m a #[.val (.ref a1), .val (.int (0 : Int32)), .val (.ref a3), .val (.int (0 : Int32)), .val (.int (4 : Int32)), .unset, .unset] b
  refine own_step (T' := s₁) (f' := (F1 1 [(.int (0 : Int32))])) (fun t k => XS.iconst X0.here hx rfl (hb hby d14_0) k) ?_
  let F2 : Nat → List Value → JFrame := fun a b => mkF m a #[.val (.ref a1), .val (.int (0 : Int32)), .val (.ref a3), .val (.int (0 : Int32)), .val (.int (4 : Int32)), .val (.int (0 : Int32)), .unset] b
  refine own_step (T' := s₁) (f' := (F2 3 [])) (fun t k => XS.istore X0.here hx rfl (hb hby d14_1) rfl (l' := #[.val (.ref a1), .val (.int (0 : Int32)), .val (.ref a3), .val (.int (0 : Int32)), .val (.int (4 : Int32)), .val (.int (0 : Int32)), .unset]) rfl k) ?_
  refine own_step (T' := s₁) (f' := (F2 5 [(.int (0 : Int32))])) (fun t k => XS.iload X0.here hx rfl (hb hby d14_3) rfl k) ?_
  refine own_step (T' := s₁) (f' := (F2 7 [(.int (4 : Int32)), (.int (0 : Int32))])) (fun t k => XS.iload X0.here hx rfl (hb hby d14_5) rfl k) ?_
  refine own_step (T' := s₁) (f' := (F2 10 [])) (fun t k => XS.icmpNo X0.here hx rfl (hb hby d14_7) rfl (tlt (by decide : (0 : Int32) < (4 : Int32))).2.1 k) ?_
  refine own_step (T' := s₁) (f' := (F2 11 [(.ref a1)])) (fun t k => XS.aloadN X0.here hx rfl (hb hby d14_10) rfl rfl k) ?_
  refine own_step (T' := s₁) (f' := (F2 12 [(.int (0 : Int32)), (.ref a1)])) (fun t k => XS.iloadN X0.here hx rfl (hb hby d14_11) rfl k) ?_
  obtain ⟨cl3, Ar3, q3, S3, M3, H3, G3⟩ := id V_a1
  have hin3 : ¬ ((0 : Int32) < 0 ∨ cl3.slots.size ≤ ((0 : Int32)).toNatClampNeg) := inb_of S3 ⟨by decide, by decide⟩
  have hat3 : cl3.slots[((0 : Int32)).toNatClampNeg]? = some (.int c0) := own_at hin3 H3 0 rfl rfl
  refine own_step (T' := s₁) (f' := (F2 13 [(.int c0)])) (fun t k => X0.caload hx (j := (0 : Int32)) (v := (.int c0)) (by rw [e0]; exact Ar3.1) (State.isArrayOf_alike hZ.alike Ar3.2.1) Ar3.2.2 hin3 hat3 (g := (F2 12 [(.int (0 : Int32)), (.ref a1)])) rfl rfl (hb hby d14_12) _ k) ?_
  let F4 : Nat → List Value → JFrame := fun a b => mkF m a #[.val (.ref a1), .val (.int (0 : Int32)), .val (.ref a3), .val (.int (0 : Int32)), .val (.int (4 : Int32)), .val (.int (0 : Int32)), .val (.int c0)] b
  refine own_step (T' := s₁) (f' := (F4 15 [])) (fun t k => XS.istore X0.here hx rfl (hb hby d14_13) rfl (l' := #[.val (.ref a1), .val (.int (0 : Int32)), .val (.ref a3), .val (.int (0 : Int32)), .val (.int (4 : Int32)), .val (.int (0 : Int32)), .val (.int c0)]) rfl k) ?_
  refine own_step (T' := s₁) (f' := (F4 17 [(.int c0)])) (fun t k => XS.iload X0.here hx rfl (hb hby d14_15) rfl k) ?_
  refine own_step (T' := s₁) (f' := (F4 20 [(.int (255 : Int32)), (.int c0)])) (fun t k => XS.sipush X0.here hx rfl (hb hby d14_17) k) ?_
  refine own_step (T' := s₁) (f' := (F4 26 [])) (fun t k => XS.icmpYes X0.here hx rfl (pc0 := 20) (pc' := 26) rfl (hb hby d14_20) rfl (flt (own_c255 hC0)).2.2.2 (by decide) (by decide) k) ?_
  refine own_step (T' := s₁) (f' := (F4 27 [(.ref a3)])) (fun t k => XS.aloadN X0.here hx rfl (hb hby d14_26) rfl rfl k) ?_
  refine own_step (T' := s₁) (f' := (F4 28 [(.int (0 : Int32)), (.ref a3)])) (fun t k => XS.iloadN X0.here hx rfl (hb hby d14_27) rfl k) ?_
  refine own_step (T' := s₁) (f' := (F4 30 [(.int c0), (.int (0 : Int32)), (.ref a3)])) (fun t k => XS.iload X0.here hx rfl (hb hby d14_28) rfl k) ?_
  refine own_step (T' := s₁) (f' := (F4 31 [(.int (c0.toInt8.toInt32)), (.int (0 : Int32)), (.ref a3)])) (fun t k => XS.i2b X0.here hx rfl (hb hby d14_30) rfl k) ?_
  obtain ⟨cl5, Ar5, q5, S5, M5, H5, G5⟩ := V_a3
  have hin5 : ¬ ((0 : Int32) < 0 ∨ cl5.slots.size ≤ ((0 : Int32)).toNatClampNeg) := inb_of S5 ⟨by decide, by decide⟩
  obtain ⟨T5, h5, X5, e5, W5, st5⟩ := stB X0 hx hZ e0 Ar5 (j := (0 : Int32)) hin5 (g := (F4 31 [(.int (c0.toInt8.toInt32)), (.int (0 : Int32)), (.ref a3)])) rfl rfl (hb hby d14_31)
  have V_a3 : Arv Z h5 a3 kb .byte (4 : Int32) [(.int (own_sb c0)), (.int (0 : Int32)), (.int (0 : Int32)), (.int (0 : Int32))] (.int (0 : Int32)) := Arv.set Ar5 q5 S5 M5 H5 G5 (fits_nar_byte _) W5 0 rfl (Nat.le_of_ble_eq_true rfl)
  replace V_a1 := V_a1.other W5 ne13
  replace Zz := Nat.le_trans Zz (Keep.of_wr W5).1
  replace Kp := Kp.wr W5 (Or.inl (List.mem_of_getElem? (i := 0) rfl))
  have N5 := Fr.snoc X5 N0 g_a3
  refine own_step (T' := T5) (f' := (F4 32 [])) (fun t k => st5 t k) ?_
  let F6 : Nat → List Value → JFrame := fun a b => mkF m a #[.val (.ref a1), .val (.int (1 : Int32)), .val (.ref a3), .val (.int (0 : Int32)), .val (.int (4 : Int32)), .val (.int (0 : Int32)), .val (.int c0)] b
  refine own_step (T' := T5) (f' := (F6 35 [])) (fun t k => XS.iinc X5.here hx rfl (hb hby d14_32) rfl (l' := #[.val (.ref a1), .val (.int (1 : Int32)), .val (.ref a3), .val (.int (0 : Int32)), .val (.int (4 : Int32)), .val (.int (0 : Int32)), .val (.int c0)]) rfl k) ?_
  let F7 : Nat → List Value → JFrame := fun a b => mkF m a #[.val (.ref a1), .val (.int (1 : Int32)), .val (.ref a3), .val (.int (1 : Int32)), .val (.int (4 : Int32)), .val (.int (0 : Int32)), .val (.int c0)] b
  refine own_step (T' := T5) (f' := (F7 38 [])) (fun t k => XS.iinc X5.here hx rfl (hb hby d14_35) rfl (l' := #[.val (.ref a1), .val (.int (1 : Int32)), .val (.ref a3), .val (.int (1 : Int32)), .val (.int (4 : Int32)), .val (.int (0 : Int32)), .val (.int c0)]) rfl k) ?_
  let F8 : Nat → List Value → JFrame := fun a b => mkF m a #[.val (.ref a1), .val (.int (1 : Int32)), .val (.ref a3), .val (.int (1 : Int32)), .val (.int (4 : Int32)), .val (.int (1 : Int32)), .val (.int c0)] b
  refine own_step (T' := T5) (f' := (F8 41 [])) (fun t k => XS.iinc X5.here hx rfl (hb hby d14_38) rfl (l' := #[.val (.ref a1), .val (.int (1 : Int32)), .val (.ref a3), .val (.int (1 : Int32)), .val (.int (4 : Int32)), .val (.int (1 : Int32)), .val (.int c0)]) rfl k) ?_
  refine own_step (T' := T5) (f' := (F8 3 [])) (fun t k => XS.goto X5.here hx rfl (pc0 := 41) (pc' := 3) rfl (hb hby d14_41) (by decide) (by decide) k) ?_
  refine own_step (T' := T5) (f' := (F8 5 [(.int (1 : Int32))])) (fun t k => XS.iload X5.here hx rfl (hb hby d14_3) rfl k) ?_
  refine own_step (T' := T5) (f' := (F8 7 [(.int (4 : Int32)), (.int (1 : Int32))])) (fun t k => XS.iload X5.here hx rfl (hb hby d14_5) rfl k) ?_
  refine own_step (T' := T5) (f' := (F8 10 [])) (fun t k => XS.icmpNo X5.here hx rfl (hb hby d14_7) rfl (tlt (by decide : (1 : Int32) < (4 : Int32))).2.1 k) ?_
  refine own_step (T' := T5) (f' := (F8 11 [(.ref a1)])) (fun t k => XS.aloadN X5.here hx rfl (hb hby d14_10) rfl rfl k) ?_
  refine own_step (T' := T5) (f' := (F8 12 [(.int (1 : Int32)), (.ref a1)])) (fun t k => XS.iloadN X5.here hx rfl (hb hby d14_11) rfl k) ?_
  obtain ⟨cl9, Ar9, q9, S9, M9, H9, G9⟩ := id V_a1
  have hin9 : ¬ ((1 : Int32) < 0 ∨ cl9.slots.size ≤ ((1 : Int32)).toNatClampNeg) := inb_of S9 ⟨by decide, by decide⟩
  have hat9 : cl9.slots[((1 : Int32)).toNatClampNeg]? = some (.int c1) := own_at hin9 H9 1 rfl rfl
  refine own_step (T' := T5) (f' := (F8 13 [(.int c1)])) (fun t k => X5.caload hx (j := (1 : Int32)) (v := (.int c1)) (by rw [e5]; exact Ar9.1) (State.isArrayOf_alike hZ.alike Ar9.2.1) Ar9.2.2 hin9 hat9 (g := (F8 12 [(.int (1 : Int32)), (.ref a1)])) rfl rfl (hb hby d14_12) _ k) ?_
  let F10 : Nat → List Value → JFrame := fun a b => mkF m a #[.val (.ref a1), .val (.int (1 : Int32)), .val (.ref a3), .val (.int (1 : Int32)), .val (.int (4 : Int32)), .val (.int (1 : Int32)), .val (.int c1)] b
  refine own_step (T' := T5) (f' := (F10 15 [])) (fun t k => XS.istore X5.here hx rfl (hb hby d14_13) rfl (l' := #[.val (.ref a1), .val (.int (1 : Int32)), .val (.ref a3), .val (.int (1 : Int32)), .val (.int (4 : Int32)), .val (.int (1 : Int32)), .val (.int c1)]) rfl k) ?_
  refine own_step (T' := T5) (f' := (F10 17 [(.int c1)])) (fun t k => XS.iload X5.here hx rfl (hb hby d14_15) rfl k) ?_
  refine own_step (T' := T5) (f' := (F10 20 [(.int (255 : Int32)), (.int c1)])) (fun t k => XS.sipush X5.here hx rfl (hb hby d14_17) k) ?_
  refine own_step (T' := T5) (f' := (F10 26 [])) (fun t k => XS.icmpYes X5.here hx rfl (pc0 := 20) (pc' := 26) rfl (hb hby d14_20) rfl (flt (own_c255 hC1)).2.2.2 (by decide) (by decide) k) ?_
  refine own_step (T' := T5) (f' := (F10 27 [(.ref a3)])) (fun t k => XS.aloadN X5.here hx rfl (hb hby d14_26) rfl rfl k) ?_
  refine own_step (T' := T5) (f' := (F10 28 [(.int (1 : Int32)), (.ref a3)])) (fun t k => XS.iloadN X5.here hx rfl (hb hby d14_27) rfl k) ?_
  refine own_step (T' := T5) (f' := (F10 30 [(.int c1), (.int (1 : Int32)), (.ref a3)])) (fun t k => XS.iload X5.here hx rfl (hb hby d14_28) rfl k) ?_
  refine own_step (T' := T5) (f' := (F10 31 [(.int (c1.toInt8.toInt32)), (.int (1 : Int32)), (.ref a3)])) (fun t k => XS.i2b X5.here hx rfl (hb hby d14_30) rfl k) ?_
  obtain ⟨cl11, Ar11, q11, S11, M11, H11, G11⟩ := V_a3
  have hin11 : ¬ ((1 : Int32) < 0 ∨ cl11.slots.size ≤ ((1 : Int32)).toNatClampNeg) := inb_of S11 ⟨by decide, by decide⟩
  obtain ⟨T11, h11, X11, e11, W11, st11⟩ := stB X5 hx hZ e5 Ar11 (j := (1 : Int32)) hin11 (g := (F10 31 [(.int (c1.toInt8.toInt32)), (.int (1 : Int32)), (.ref a3)])) rfl rfl (hb hby d14_31)
  have V_a3 : Arv Z h11 a3 kb .byte (4 : Int32) [(.int (own_sb c0)), (.int (own_sb c1)), (.int (0 : Int32)), (.int (0 : Int32))] (.int (0 : Int32)) := Arv.set Ar11 q11 S11 M11 H11 G11 (fits_nar_byte _) W11 1 rfl (Nat.le_of_ble_eq_true rfl)
  replace V_a1 := V_a1.other W11 ne13
  replace Zz := Nat.le_trans Zz (Keep.of_wr W11).1
  replace Kp := Kp.wr W11 (Or.inl (List.mem_of_getElem? (i := 0) rfl))
  have N11 := Fr.snoc X11 N5 g_a3
  refine own_step (T' := T11) (f' := (F10 32 [])) (fun t k => st11 t k) ?_
  let F12 : Nat → List Value → JFrame := fun a b => mkF m a #[.val (.ref a1), .val (.int (2 : Int32)), .val (.ref a3), .val (.int (1 : Int32)), .val (.int (4 : Int32)), .val (.int (1 : Int32)), .val (.int c1)] b
  refine own_step (T' := T11) (f' := (F12 35 [])) (fun t k => XS.iinc X11.here hx rfl (hb hby d14_32) rfl (l' := #[.val (.ref a1), .val (.int (2 : Int32)), .val (.ref a3), .val (.int (1 : Int32)), .val (.int (4 : Int32)), .val (.int (1 : Int32)), .val (.int c1)]) rfl k) ?_
  let F13 : Nat → List Value → JFrame := fun a b => mkF m a #[.val (.ref a1), .val (.int (2 : Int32)), .val (.ref a3), .val (.int (2 : Int32)), .val (.int (4 : Int32)), .val (.int (1 : Int32)), .val (.int c1)] b
  refine own_step (T' := T11) (f' := (F13 38 [])) (fun t k => XS.iinc X11.here hx rfl (hb hby d14_35) rfl (l' := #[.val (.ref a1), .val (.int (2 : Int32)), .val (.ref a3), .val (.int (2 : Int32)), .val (.int (4 : Int32)), .val (.int (1 : Int32)), .val (.int c1)]) rfl k) ?_
  let F14 : Nat → List Value → JFrame := fun a b => mkF m a #[.val (.ref a1), .val (.int (2 : Int32)), .val (.ref a3), .val (.int (2 : Int32)), .val (.int (4 : Int32)), .val (.int (2 : Int32)), .val (.int c1)] b
  refine own_step (T' := T11) (f' := (F14 41 [])) (fun t k => XS.iinc X11.here hx rfl (hb hby d14_38) rfl (l' := #[.val (.ref a1), .val (.int (2 : Int32)), .val (.ref a3), .val (.int (2 : Int32)), .val (.int (4 : Int32)), .val (.int (2 : Int32)), .val (.int c1)]) rfl k) ?_
  refine own_step (T' := T11) (f' := (F14 3 [])) (fun t k => XS.goto X11.here hx rfl (pc0 := 41) (pc' := 3) rfl (hb hby d14_41) (by decide) (by decide) k) ?_
  refine own_step (T' := T11) (f' := (F14 5 [(.int (2 : Int32))])) (fun t k => XS.iload X11.here hx rfl (hb hby d14_3) rfl k) ?_
  refine own_step (T' := T11) (f' := (F14 7 [(.int (4 : Int32)), (.int (2 : Int32))])) (fun t k => XS.iload X11.here hx rfl (hb hby d14_5) rfl k) ?_
  refine own_step (T' := T11) (f' := (F14 10 [])) (fun t k => XS.icmpNo X11.here hx rfl (hb hby d14_7) rfl (tlt (by decide : (2 : Int32) < (4 : Int32))).2.1 k) ?_
  refine own_step (T' := T11) (f' := (F14 11 [(.ref a1)])) (fun t k => XS.aloadN X11.here hx rfl (hb hby d14_10) rfl rfl k) ?_
  refine own_step (T' := T11) (f' := (F14 12 [(.int (2 : Int32)), (.ref a1)])) (fun t k => XS.iloadN X11.here hx rfl (hb hby d14_11) rfl k) ?_
  obtain ⟨cl15, Ar15, q15, S15, M15, H15, G15⟩ := id V_a1
  have hin15 : ¬ ((2 : Int32) < 0 ∨ cl15.slots.size ≤ ((2 : Int32)).toNatClampNeg) := inb_of S15 ⟨by decide, by decide⟩
  have hat15 : cl15.slots[((2 : Int32)).toNatClampNeg]? = some (.int c2) := own_at hin15 H15 2 rfl rfl
  refine own_step (T' := T11) (f' := (F14 13 [(.int c2)])) (fun t k => X11.caload hx (j := (2 : Int32)) (v := (.int c2)) (by rw [e11]; exact Ar15.1) (State.isArrayOf_alike hZ.alike Ar15.2.1) Ar15.2.2 hin15 hat15 (g := (F14 12 [(.int (2 : Int32)), (.ref a1)])) rfl rfl (hb hby d14_12) _ k) ?_
  let F16 : Nat → List Value → JFrame := fun a b => mkF m a #[.val (.ref a1), .val (.int (2 : Int32)), .val (.ref a3), .val (.int (2 : Int32)), .val (.int (4 : Int32)), .val (.int (2 : Int32)), .val (.int c2)] b
  refine own_step (T' := T11) (f' := (F16 15 [])) (fun t k => XS.istore X11.here hx rfl (hb hby d14_13) rfl (l' := #[.val (.ref a1), .val (.int (2 : Int32)), .val (.ref a3), .val (.int (2 : Int32)), .val (.int (4 : Int32)), .val (.int (2 : Int32)), .val (.int c2)]) rfl k) ?_
  refine own_step (T' := T11) (f' := (F16 17 [(.int c2)])) (fun t k => XS.iload X11.here hx rfl (hb hby d14_15) rfl k) ?_
  refine own_step (T' := T11) (f' := (F16 20 [(.int (255 : Int32)), (.int c2)])) (fun t k => XS.sipush X11.here hx rfl (hb hby d14_17) k) ?_
  refine own_step (T' := T11) (f' := (F16 26 [])) (fun t k => XS.icmpYes X11.here hx rfl (pc0 := 20) (pc' := 26) rfl (hb hby d14_20) rfl (flt (own_c255 hC2)).2.2.2 (by decide) (by decide) k) ?_
  refine own_step (T' := T11) (f' := (F16 27 [(.ref a3)])) (fun t k => XS.aloadN X11.here hx rfl (hb hby d14_26) rfl rfl k) ?_
  refine own_step (T' := T11) (f' := (F16 28 [(.int (2 : Int32)), (.ref a3)])) (fun t k => XS.iloadN X11.here hx rfl (hb hby d14_27) rfl k) ?_
  refine own_step (T' := T11) (f' := (F16 30 [(.int c2), (.int (2 : Int32)), (.ref a3)])) (fun t k => XS.iload X11.here hx rfl (hb hby d14_28) rfl k) ?_
  refine own_step (T' := T11) (f' := (F16 31 [(.int (c2.toInt8.toInt32)), (.int (2 : Int32)), (.ref a3)])) (fun t k => XS.i2b X11.here hx rfl (hb hby d14_30) rfl k) ?_
  obtain ⟨cl17, Ar17, q17, S17, M17, H17, G17⟩ := V_a3
  have hin17 : ¬ ((2 : Int32) < 0 ∨ cl17.slots.size ≤ ((2 : Int32)).toNatClampNeg) := inb_of S17 ⟨by decide, by decide⟩
  obtain ⟨T17, h17, X17, e17, W17, st17⟩ := stB X11 hx hZ e11 Ar17 (j := (2 : Int32)) hin17 (g := (F16 31 [(.int (c2.toInt8.toInt32)), (.int (2 : Int32)), (.ref a3)])) rfl rfl (hb hby d14_31)
  have V_a3 : Arv Z h17 a3 kb .byte (4 : Int32) [(.int (own_sb c0)), (.int (own_sb c1)), (.int (own_sb c2)), (.int (0 : Int32))] (.int (0 : Int32)) := Arv.set Ar17 q17 S17 M17 H17 G17 (fits_nar_byte _) W17 2 rfl (Nat.le_of_ble_eq_true rfl)
  replace V_a1 := V_a1.other W17 ne13
  replace Zz := Nat.le_trans Zz (Keep.of_wr W17).1
  replace Kp := Kp.wr W17 (Or.inl (List.mem_of_getElem? (i := 0) rfl))
  have N17 := Fr.snoc X17 N11 g_a3
  refine own_step (T' := T17) (f' := (F16 32 [])) (fun t k => st17 t k) ?_
  let F18 : Nat → List Value → JFrame := fun a b => mkF m a #[.val (.ref a1), .val (.int (3 : Int32)), .val (.ref a3), .val (.int (2 : Int32)), .val (.int (4 : Int32)), .val (.int (2 : Int32)), .val (.int c2)] b
  refine own_step (T' := T17) (f' := (F18 35 [])) (fun t k => XS.iinc X17.here hx rfl (hb hby d14_32) rfl (l' := #[.val (.ref a1), .val (.int (3 : Int32)), .val (.ref a3), .val (.int (2 : Int32)), .val (.int (4 : Int32)), .val (.int (2 : Int32)), .val (.int c2)]) rfl k) ?_
  let F19 : Nat → List Value → JFrame := fun a b => mkF m a #[.val (.ref a1), .val (.int (3 : Int32)), .val (.ref a3), .val (.int (3 : Int32)), .val (.int (4 : Int32)), .val (.int (2 : Int32)), .val (.int c2)] b
  refine own_step (T' := T17) (f' := (F19 38 [])) (fun t k => XS.iinc X17.here hx rfl (hb hby d14_35) rfl (l' := #[.val (.ref a1), .val (.int (3 : Int32)), .val (.ref a3), .val (.int (3 : Int32)), .val (.int (4 : Int32)), .val (.int (2 : Int32)), .val (.int c2)]) rfl k) ?_
  let F20 : Nat → List Value → JFrame := fun a b => mkF m a #[.val (.ref a1), .val (.int (3 : Int32)), .val (.ref a3), .val (.int (3 : Int32)), .val (.int (4 : Int32)), .val (.int (3 : Int32)), .val (.int c2)] b
  refine own_step (T' := T17) (f' := (F20 41 [])) (fun t k => XS.iinc X17.here hx rfl (hb hby d14_38) rfl (l' := #[.val (.ref a1), .val (.int (3 : Int32)), .val (.ref a3), .val (.int (3 : Int32)), .val (.int (4 : Int32)), .val (.int (3 : Int32)), .val (.int c2)]) rfl k) ?_
  refine own_step (T' := T17) (f' := (F20 3 [])) (fun t k => XS.goto X17.here hx rfl (pc0 := 41) (pc' := 3) rfl (hb hby d14_41) (by decide) (by decide) k) ?_
  refine own_step (T' := T17) (f' := (F20 5 [(.int (3 : Int32))])) (fun t k => XS.iload X17.here hx rfl (hb hby d14_3) rfl k) ?_
  refine own_step (T' := T17) (f' := (F20 7 [(.int (4 : Int32)), (.int (3 : Int32))])) (fun t k => XS.iload X17.here hx rfl (hb hby d14_5) rfl k) ?_
  refine own_step (T' := T17) (f' := (F20 10 [])) (fun t k => XS.icmpNo X17.here hx rfl (hb hby d14_7) rfl (tlt (by decide : (3 : Int32) < (4 : Int32))).2.1 k) ?_
  refine own_step (T' := T17) (f' := (F20 11 [(.ref a1)])) (fun t k => XS.aloadN X17.here hx rfl (hb hby d14_10) rfl rfl k) ?_
  refine own_step (T' := T17) (f' := (F20 12 [(.int (3 : Int32)), (.ref a1)])) (fun t k => XS.iloadN X17.here hx rfl (hb hby d14_11) rfl k) ?_
  obtain ⟨cl21, Ar21, q21, S21, M21, H21, G21⟩ := id V_a1
  have hin21 : ¬ ((3 : Int32) < 0 ∨ cl21.slots.size ≤ ((3 : Int32)).toNatClampNeg) := inb_of S21 ⟨by decide, by decide⟩
  have hat21 : cl21.slots[((3 : Int32)).toNatClampNeg]? = some (.int c3) := own_at hin21 H21 3 rfl rfl
  refine own_step (T' := T17) (f' := (F20 13 [(.int c3)])) (fun t k => X17.caload hx (j := (3 : Int32)) (v := (.int c3)) (by rw [e17]; exact Ar21.1) (State.isArrayOf_alike hZ.alike Ar21.2.1) Ar21.2.2 hin21 hat21 (g := (F20 12 [(.int (3 : Int32)), (.ref a1)])) rfl rfl (hb hby d14_12) _ k) ?_
  let F22 : Nat → List Value → JFrame := fun a b => mkF m a #[.val (.ref a1), .val (.int (3 : Int32)), .val (.ref a3), .val (.int (3 : Int32)), .val (.int (4 : Int32)), .val (.int (3 : Int32)), .val (.int c3)] b
  refine own_step (T' := T17) (f' := (F22 15 [])) (fun t k => XS.istore X17.here hx rfl (hb hby d14_13) rfl (l' := #[.val (.ref a1), .val (.int (3 : Int32)), .val (.ref a3), .val (.int (3 : Int32)), .val (.int (4 : Int32)), .val (.int (3 : Int32)), .val (.int c3)]) rfl k) ?_
  refine own_step (T' := T17) (f' := (F22 17 [(.int c3)])) (fun t k => XS.iload X17.here hx rfl (hb hby d14_15) rfl k) ?_
  refine own_step (T' := T17) (f' := (F22 20 [(.int (255 : Int32)), (.int c3)])) (fun t k => XS.sipush X17.here hx rfl (hb hby d14_17) k) ?_
  refine own_step (T' := T17) (f' := (F22 26 [])) (fun t k => XS.icmpYes X17.here hx rfl (pc0 := 20) (pc' := 26) rfl (hb hby d14_20) rfl (flt (own_c255 hC3)).2.2.2 (by decide) (by decide) k) ?_
  refine own_step (T' := T17) (f' := (F22 27 [(.ref a3)])) (fun t k => XS.aloadN X17.here hx rfl (hb hby d14_26) rfl rfl k) ?_
  refine own_step (T' := T17) (f' := (F22 28 [(.int (3 : Int32)), (.ref a3)])) (fun t k => XS.iloadN X17.here hx rfl (hb hby d14_27) rfl k) ?_
  refine own_step (T' := T17) (f' := (F22 30 [(.int c3), (.int (3 : Int32)), (.ref a3)])) (fun t k => XS.iload X17.here hx rfl (hb hby d14_28) rfl k) ?_
  refine own_step (T' := T17) (f' := (F22 31 [(.int (c3.toInt8.toInt32)), (.int (3 : Int32)), (.ref a3)])) (fun t k => XS.i2b X17.here hx rfl (hb hby d14_30) rfl k) ?_
  obtain ⟨cl23, Ar23, q23, S23, M23, H23, G23⟩ := V_a3
  have hin23 : ¬ ((3 : Int32) < 0 ∨ cl23.slots.size ≤ ((3 : Int32)).toNatClampNeg) := inb_of S23 ⟨by decide, by decide⟩
  obtain ⟨T23, h23, X23, e23, W23, st23⟩ := stB X17 hx hZ e17 Ar23 (j := (3 : Int32)) hin23 (g := (F22 31 [(.int (c3.toInt8.toInt32)), (.int (3 : Int32)), (.ref a3)])) rfl rfl (hb hby d14_31)
  have V_a3 : Arv Z h23 a3 kb .byte (4 : Int32) [(.int (own_sb c0)), (.int (own_sb c1)), (.int (own_sb c2)), (.int (own_sb c3))] (.int (0 : Int32)) := Arv.set Ar23 q23 S23 M23 H23 G23 (fits_nar_byte _) W23 3 rfl (Nat.le_of_ble_eq_true rfl)
  replace V_a1 := V_a1.other W23 ne13
  replace Zz := Nat.le_trans Zz (Keep.of_wr W23).1
  replace Kp := Kp.wr W23 (Or.inl (List.mem_of_getElem? (i := 0) rfl))
  have N23 := Fr.snoc X23 N17 g_a3
  refine own_step (T' := T23) (f' := (F22 32 [])) (fun t k => st23 t k) ?_
  let F24 : Nat → List Value → JFrame := fun a b => mkF m a #[.val (.ref a1), .val (.int (4 : Int32)), .val (.ref a3), .val (.int (3 : Int32)), .val (.int (4 : Int32)), .val (.int (3 : Int32)), .val (.int c3)] b
  refine own_step (T' := T23) (f' := (F24 35 [])) (fun t k => XS.iinc X23.here hx rfl (hb hby d14_32) rfl (l' := #[.val (.ref a1), .val (.int (4 : Int32)), .val (.ref a3), .val (.int (3 : Int32)), .val (.int (4 : Int32)), .val (.int (3 : Int32)), .val (.int c3)]) rfl k) ?_
  let F25 : Nat → List Value → JFrame := fun a b => mkF m a #[.val (.ref a1), .val (.int (4 : Int32)), .val (.ref a3), .val (.int (4 : Int32)), .val (.int (4 : Int32)), .val (.int (3 : Int32)), .val (.int c3)] b
  refine own_step (T' := T23) (f' := (F25 38 [])) (fun t k => XS.iinc X23.here hx rfl (hb hby d14_35) rfl (l' := #[.val (.ref a1), .val (.int (4 : Int32)), .val (.ref a3), .val (.int (4 : Int32)), .val (.int (4 : Int32)), .val (.int (3 : Int32)), .val (.int c3)]) rfl k) ?_
  let F26 : Nat → List Value → JFrame := fun a b => mkF m a #[.val (.ref a1), .val (.int (4 : Int32)), .val (.ref a3), .val (.int (4 : Int32)), .val (.int (4 : Int32)), .val (.int (4 : Int32)), .val (.int c3)] b
  refine own_step (T' := T23) (f' := (F26 41 [])) (fun t k => XS.iinc X23.here hx rfl (hb hby d14_38) rfl (l' := #[.val (.ref a1), .val (.int (4 : Int32)), .val (.ref a3), .val (.int (4 : Int32)), .val (.int (4 : Int32)), .val (.int (4 : Int32)), .val (.int c3)]) rfl k) ?_
  refine own_step (T' := T23) (f' := (F26 3 [])) (fun t k => XS.goto X23.here hx rfl (pc0 := 41) (pc' := 3) rfl (hb hby d14_41) (by decide) (by decide) k) ?_
  refine own_step (T' := T23) (f' := (F26 5 [(.int (4 : Int32))])) (fun t k => XS.iload X23.here hx rfl (hb hby d14_3) rfl k) ?_
  refine own_step (T' := T23) (f' := (F26 7 [(.int (4 : Int32)), (.int (4 : Int32))])) (fun t k => XS.iload X23.here hx rfl (hb hby d14_5) rfl k) ?_
  refine own_step (T' := T23) (f' := (F26 44 [])) (fun t k => XS.icmpYes X23.here hx rfl (pc0 := 7) (pc' := 44) rfl (hb hby d14_7) rfl (flt (by decide : ¬ ((4 : Int32) < (4 : Int32)))).2.1 (by decide) (by decide) k) ?_
  refine own_step (T' := T23) (f' := (F26 46 [(.int (4 : Int32))])) (fun t k => XS.iload X23.here hx rfl (hb hby d14_44) rfl k) ?_
  exact own_retO X23 hx hlk Bd.returns rfl (Or.inl ⟨rfl, Or.inl rfl, _, rfl⟩) (hb hby d14_46) (by decide) (by decide) (by rw [e23]; exact ⟨rfl, N23, Kp, V_a3⟩)

def Q13_4 (Z : State) (c0 c1 c2 c3 : Int32) (h0 : Heap) (n0 : Nat) (v : Option Value) (h : Heap) (L : List Loc) : Prop := ∃ (b : Addr) (k : ClassId), v = some (.ref b) ∧ Fr n0 L ∧ Keep h0 h [] ∧ h0.size ≤ b ∧ Arv Z h b k .byte (4 : Int32) [(.int (own_sb c0)), (.int (own_sb c1)), (.int (own_sb c2)), (.int (own_sb c3))] (.int (0 : Int32)) ∧ Exa Z h b "[B"
theorem ef_rm13_4 (m : MethodId) (x0 : Addr) (x1 : Int32) (x2 : Int32) : entryFrame m #[(.ref x0), (.int x1), (.int x2)] 6 = mkF m 0 #[.val (.ref x0), .val (.int x1), .val (.int x2), .unset, .unset, .unset] [] := by first | (simp [entryFrame, mkF, argsToLocals, Value.category]; done) | rfl
set_option maxRecDepth 65536 in
set_option maxHeartbeats 40000000 in
theorem rm13_4 (l : Launch) (Z : State) (a0 : Array Value) (hw : ∀ d ∈ tables_1, d.before a0 Z = true) (ws : List Jvm.Cond) (a1 : Addr) (h0 : Heap) (n0 : Nat) (Z0 : n0 ≤ h0.size) (kc : ClassId) (c0 c1 c2 c3 : Int32) (hC0 : OwnC c0) (hC1 : OwnC c1) (hC2 : OwnC c2) (hC3 : OwnC c3) (V_a1 : Arv Z h0 a1 kc .char (4 : Int32) [(.int c0), (.int c1), (.int c2), (.int c3)] (.int (0 : Int32))) :
    MetFree l (⟨"java/lang/StringUTF16", "compress", "([CII)[B"⟩ : MethodName) (head1 (Jvm.Cond.code (⟨"java/lang/StringUTF16", "compress", "([CII)[B"⟩ : MethodName) jdk_52_method_16_code 6 (some (.array .byte)) :: ws) ({ frames := 1, cells := 1, slots := 4, locals := 18 } : Room)) (fun a U => a = #[(.ref a1), (.int (0 : Int32)), (.int (4 : Int32))] ∧ Z.Warmed39 U.vm ∧ U.heap = h0) (fun _ _ _ _ _ => True) (fun _ U o U' => ∃ v L, o = .returned v ∧ Q13_4 Z c0 c1 c2 c3 h0 n0 v U'.heap L ∧ FrameEnd U o U' L ({ frames := 1, cells := 1, slots := 4, locals := 18 } : Room).cells ({ frames := 1, cells := 1, slots := 4, locals := 18 } : Room).slots) := by
  refine MetFree.of_bodySF (plainFor_of_name pn_13) hisR ?_
  intro p e s m args below meth c s₁ Bd hml0 hP hK
  obtain ⟨rfl, hZ, hh⟩ := hP
  have hx := Bd.exec
  have hby := Bd.bytes
  have hlk : meth.locks = false := BodyLoose.notSynchronized Bd
  have hml : c.maxLocals = 6 := hml0
  have hown : s.vm.findClass "java/lang/StringUTF16" = some m.cls := findClass_of_methodNamed Bd.named
  have hnm := (name_of_methodNamed Bd.named Bd.method).1
  have X0 : Stand p l e ({ frames := 1, cells := 1, slots := 4, locals := 18 } : Room) s m #[(.ref a1), (.int (0 : Int32)), (.int (4 : Int32))] below meth c s₁ [] 0 0 := Stand.of_body Bd
  have e0 : s₁.heap = h0 := by rw [← hh, Bd.state]; rfl
  have N0 := Fr.nil n0
  have Zz := Z0
  have Kp : Keep h0 h0 [] := Keep.refl _ _
  show OwnEnds p e below s (Q13_4 Z c0 c1 c2 c3 h0 n0) ({ frames := 1, cells := 1, slots := 4, locals := 18 } : Room).cells ({ frames := 1, cells := 1, slots := 4, locals := 18 } : Room).slots s₁ (entryFrame m #[(.ref a1), (.int (0 : Int32)), (.int (4 : Int32))] 6)
  refine own_step (T' := s₁) (f' := (mkF m 0 #[.val (.ref a1), .val (.int (0 : Int32)), .val (.int (4 : Int32)), .unset, .unset, .unset] [])) (fun t k => castTop (ef_rm13_4 m a1 (0 : Int32) (4 : Int32)) k) ?_
  refine own_step (T' := s₁) (f' := (mkF m 1 #[.val (.ref a1), .val (.int (0 : Int32)), .val (.int (4 : Int32)), .unset, .unset, .unset] [(.int (4 : Int32))])) (fun t k => XS.iloadN X0.here hx rfl (hb hby d13_0) rfl k) ?_
  obtain ⟨T1, h1, k1, X1, e1, E1, A1, EX1, st1⟩ := newPE X0 hx hZ (own_w hw 23 rfl) e0 (g := (mkF m 1 #[.val (.ref a1), .val (.int (0 : Int32)), .val (.int (4 : Int32)), .unset, .unset, .unset] [(.int (4 : Int32))])) rfl (hb hby d13_1) rfl (by decide) (cap := 4) (by decide) (by decide) (by decide) (by decide) (ad := "[B") rfl
  obtain ⟨b1, g1⟩ : ∃ z, z = h0.size := ⟨_, rfl⟩
  rw [← g1] at A1 EX1 st1
  have ne_a1_b1 : a1 ≠ b1 := Nat.ne_of_lt (Nat.lt_of_lt_of_le V_a1.lt (Nat.le_of_eq g1.symm))
  have g_b1 : n0 ≤ b1 := Nat.le_trans Zz (Nat.le_of_eq g1.symm)
  have sz_b1 : h0.size ≤ b1 := Nat.le_trans Kp.1 (Nat.le_of_eq g1.symm)
  replace V_a1 := V_a1.ext E1
  replace Zz := Nat.le_trans Zz E1.1
  replace Kp := Kp.ext E1
  have V_b1 : Arv Z h1 b1 k1 .byte (4 : Int32) [(.int (0 : Int32)), (.int (0 : Int32)), (.int (0 : Int32)), (.int (0 : Int32))] (.int (0 : Int32)) := (Arv.new A1 (by decide)).pad (pad_rep [] (.int (0 : Int32)) 4)
  have EX_b1 := EX1
  refine own_step (T' := T1) (f' := (mkF m 3 #[.val (.ref a1), .val (.int (0 : Int32)), .val (.int (4 : Int32)), .unset, .unset, .unset] [(.ref b1)])) (fun t k => st1 t k) ?_
  refine own_step (T' := T1) (f' := (mkF m 4 #[.val (.ref a1), .val (.int (0 : Int32)), .val (.int (4 : Int32)), .val (.ref b1), .unset, .unset] [])) (fun t k => XS.astoreN X1.here hx rfl (hb hby d13_3) rfl rfl (l' := #[.val (.ref a1), .val (.int (0 : Int32)), .val (.int (4 : Int32)), .val (.ref b1), .unset, .unset]) rfl k) ?_
  refine own_step (T' := T1) (f' := (mkF m 5 #[.val (.ref a1), .val (.int (0 : Int32)), .val (.int (4 : Int32)), .val (.ref b1), .unset, .unset] [(.ref a1)])) (fun t k => XS.aloadN X1.here hx rfl (hb hby d13_4) rfl rfl k) ?_
  refine own_step (T' := T1) (f' := (mkF m 6 #[.val (.ref a1), .val (.int (0 : Int32)), .val (.int (4 : Int32)), .val (.ref b1), .unset, .unset] [(.int (0 : Int32)), (.ref a1)])) (fun t k => XS.iloadN X1.here hx rfl (hb hby d13_5) rfl k) ?_
  refine own_step (T' := T1) (f' := (mkF m 7 #[.val (.ref a1), .val (.int (0 : Int32)), .val (.int (4 : Int32)), .val (.ref b1), .unset, .unset] [(.ref b1), (.int (0 : Int32)), (.ref a1)])) (fun t k => XS.aloadN X1.here hx rfl (hb hby d13_6) rfl rfl k) ?_
  refine own_step (T' := T1) (f' := (mkF m 8 #[.val (.ref a1), .val (.int (0 : Int32)), .val (.int (4 : Int32)), .val (.ref b1), .unset, .unset] [(.int (0 : Int32)), (.ref b1), (.int (0 : Int32)), (.ref a1)])) (fun t k => XS.iconst X1.here hx rfl (hb hby d13_7) k) ?_
  refine own_step (T' := T1) (f' := (mkF m 9 #[.val (.ref a1), .val (.int (0 : Int32)), .val (.int (4 : Int32)), .val (.ref b1), .unset, .unset] [(.int (4 : Int32)), (.int (0 : Int32)), (.ref b1), (.int (0 : Int32)), (.ref a1)])) (fun t k => XS.iloadN X1.here hx rfl (hb hby d13_8) rfl k) ?_
  obtain ⟨_, _, ⟨T2, L2, k2, n2⟩, -, X2, ⟨Lc2, hQ2, l2, y2, z2⟩, st2⟩ := Jvm.LawKit.callS X1 hx (y := (⟨"java/lang/StringUTF16", "compress", "([CI[BII)I"⟩ : MethodName)) hown (mvT hZ (own_w hw 102 rfl)) (mvT hZ (own_w hw 103 rfl)) (mvT hZ (own_w hw 100 rfl)) (mvT hZ (own_w hw 104 rfl)) (by decide) (backOf (W := 0) (rm14_4 l Z a0 hw [] a1 b1 h1 n0 Zz kc k1 c0 c1 c2 c3 hC0 hC1 hC2 hC3 V_a1 V_b1 ne_a1_b1 g_b1) hZ (own_w hw 104 rfl) (own_w hw 100 rfl) (by decide) (by decide)) (g := (mkF m 9 #[.val (.ref a1), .val (.int (0 : Int32)), .val (.int (4 : Int32)), .val (.ref b1), .unset, .unset] [(.int (4 : Int32)), (.int (0 : Int32)), (.ref b1), (.int (0 : Int32)), (.ref a1)])) rfl (by rw [hml]; rfl) (argsL := [(.ref a1), (.int (0 : Int32)), (.ref b1), (.int (0 : Int32)), (.int (4 : Int32))]) (rest := []) (lenOf pd_13_0 rfl) rfl (by show 2 * 0 + _ ≤ _; exact Nat.le_of_eq rfl) (hb hby d13_9) (fun _ _ => ⟨rfl, e1, (by decide : 1 + 0 ≤ _), (by decide : 4 + 0 ≤ _)⟩)
  dsimp only [Pt.U, Pt.locs, Pt.cells, Pt.slots] at X2 l2 y2 z2 st2 hQ2
  subst l2 y2 z2
  obtain ⟨rfl, N2q, K2, Vr2⟩ := hQ2
  have N2 := Fr.app N0 N2q
  replace V_a1 := V_a1.keep K2 (ninS ne_a1_b1 nin0)
  replace EX_b1 := EX_b1.keep K2
  replace Zz := Nat.le_trans Zz K2.1
  replace Kp := Kp.trans K2 (allS (Or.inr sz_b1) all0)
  refine own_step (T' := T2) (f' := (mkF m 12 #[.val (.ref a1), .val (.int (0 : Int32)), .val (.int (4 : Int32)), .val (.ref b1), .unset, .unset] [(.int (4 : Int32))])) (fun t k => st2 t k) ?_
  refine own_step (T' := T2) (f' := (mkF m 14 #[.val (.ref a1), .val (.int (0 : Int32)), .val (.int (4 : Int32)), .val (.ref b1), .val (.int (4 : Int32)), .unset] [])) (fun t k => XS.istore X2.here hx rfl (hb hby d13_12) rfl (l' := #[.val (.ref a1), .val (.int (0 : Int32)), .val (.int (4 : Int32)), .val (.ref b1), .val (.int (4 : Int32)), .unset]) rfl k) ?_
  refine own_step (T' := T2) (f' := (mkF m 16 #[.val (.ref a1), .val (.int (0 : Int32)), .val (.int (4 : Int32)), .val (.ref b1), .val (.int (4 : Int32)), .unset] [(.int (4 : Int32))])) (fun t k => XS.iload X2.here hx rfl (hb hby d13_14) rfl k) ?_
  refine own_step (T' := T2) (f' := (mkF m 17 #[.val (.ref a1), .val (.int (0 : Int32)), .val (.int (4 : Int32)), .val (.ref b1), .val (.int (4 : Int32)), .unset] [(.int (4 : Int32)), (.int (4 : Int32))])) (fun t k => XS.iloadN X2.here hx rfl (hb hby d13_16) rfl k) ?_
  refine own_step (T' := T2) (f' := (mkF m 57 #[.val (.ref a1), .val (.int (0 : Int32)), .val (.int (4 : Int32)), .val (.ref b1), .val (.int (4 : Int32)), .unset] [])) (fun t k => XS.icmpYes X2.here hx rfl (pc0 := 17) (pc' := 57) rfl (hb hby d13_17) rfl (teq (by decide : (4 : Int32) = (4 : Int32))).1 (by decide) (by decide) k) ?_
  refine own_step (T' := T2) (f' := (mkF m 58 #[.val (.ref a1), .val (.int (0 : Int32)), .val (.int (4 : Int32)), .val (.ref b1), .val (.int (4 : Int32)), .unset] [(.ref b1)])) (fun t k => XS.aloadN X2.here hx rfl (hb hby d13_57) rfl rfl k) ?_
  exact own_retO X2 hx hlk Bd.returns rfl (Or.inr (Or.inr (Or.inr (Or.inr ⟨rfl, rfl, rfl⟩)))) (hb hby d13_58) (by decide) (by decide) ⟨b1, k1, rfl, N2, Kp, sz_b1, Vr2, EX_b1⟩

theorem ef_rm15_4 (m : MethodId) (x0 : Addr) (x1 : Int32) : entryFrame m #[(.ref x0), (.int x1)] 2 = mkF m 0 #[.val (.ref x0), .val (.int x1)] [] := by first | (simp [entryFrame, mkF, argsToLocals, Value.category]; done) | rfl
set_option maxRecDepth 65536 in
set_option maxHeartbeats 40000000 in
theorem rm15_4 (l : Launch) (Z : State) (a0 : Array Value) (hw : ∀ d ∈ tables_1, d.before a0 Z = true) (ws : List Jvm.Cond) (a1 : Addr) (h0 : Heap) (n0 : Nat) (Z0 : n0 ≤ h0.size) (kb : ClassId) (c0 c1 c2 c3 : Int32) (V_a1 : Arv Z h0 a1 kb .byte (4 : Int32) [(.int (own_sb c0)), (.int (own_sb c1)), (.int (own_sb c2)), (.int (own_sb c3))] (.int (0 : Int32))) :
    MetFree l (⟨"java/lang/StringUTF16", "coderFromArrayLen", "([BI)B"⟩ : MethodName) (head1 (Jvm.Cond.code (⟨"java/lang/StringUTF16", "coderFromArrayLen", "([BI)B"⟩ : MethodName) jdk_52_method_15_code 2 (some .byte) :: ws) ({ frames := 0, cells := 0, slots := 0, locals := 0 } : Room)) (fun a U => a = #[(.ref a1), (.int (4 : Int32))] ∧ Z.Warmed39 U.vm ∧ U.heap = h0) (fun _ _ _ _ _ => True) (fun _ U o U' => ∃ v L, o = .returned v ∧ QI 0 h0 n0 v U'.heap L ∧ FrameEnd U o U' L ({ frames := 0, cells := 0, slots := 0, locals := 0 } : Room).cells ({ frames := 0, cells := 0, slots := 0, locals := 0 } : Room).slots) := by
  refine MetFree.of_bodySF (plainFor_of_name pn_15) hisR ?_
  intro p e s m args below meth c s₁ Bd hml0 hP hK
  obtain ⟨rfl, hZ, hh⟩ := hP
  have hx := Bd.exec
  have hby := Bd.bytes
  have hlk : meth.locks = false := BodyLoose.notSynchronized Bd
  have hml : c.maxLocals = 2 := hml0
  have hown : s.vm.findClass "java/lang/StringUTF16" = some m.cls := findClass_of_methodNamed Bd.named
  have hnm := (name_of_methodNamed Bd.named Bd.method).1
  have X0 : Stand p l e ({ frames := 0, cells := 0, slots := 0, locals := 0 } : Room) s m #[(.ref a1), (.int (4 : Int32))] below meth c s₁ [] 0 0 := Stand.of_body Bd
  have e0 : s₁.heap = h0 := by rw [← hh, Bd.state]; rfl
  have N0 := Fr.nil n0
  have Zz := Z0
  have Kp : Keep h0 h0 [] := Keep.refl _ _
  show OwnEnds p e below s (QI 0 h0 n0) ({ frames := 0, cells := 0, slots := 0, locals := 0 } : Room).cells ({ frames := 0, cells := 0, slots := 0, locals := 0 } : Room).slots s₁ (entryFrame m #[(.ref a1), (.int (4 : Int32))] 2)
  refine own_step (T' := s₁) (f' := (mkF m 0 #[.val (.ref a1), .val (.int (4 : Int32))] [])) (fun t k => castTop (ef_rm15_4 m a1 (4 : Int32)) k) ?_
  refine own_step (T' := s₁) (f' := (mkF m 1 #[.val (.ref a1), .val (.int (4 : Int32))] [(.int (4 : Int32))])) (fun t k => XS.iloadN X0.here hx rfl (hb hby d15_0) rfl k) ?_
  refine own_step (T' := s₁) (f' := (mkF m 2 #[.val (.ref a1), .val (.int (4 : Int32))] [(.ref a1), (.int (4 : Int32))])) (fun t k => XS.aloadN X0.here hx rfl (hb hby d15_1) rfl rfl k) ?_
  obtain ⟨cl1, Ar1, q1, S1, M1, H1, G1⟩ := id V_a1
  refine own_step (T' := s₁) (f' := (mkF m 3 #[.val (.ref a1), .val (.int (4 : Int32))] [(.int (4 : Int32)), (.int (4 : Int32))])) (fun t k => X0.arraylength hx (by rw [e0]; exact Ar1.1) (State.isArrayOf_alike hZ.alike Ar1.2.1) (g := (mkF m 2 #[.val (.ref a1), .val (.int (4 : Int32))] [(.ref a1), (.int (4 : Int32))])) rfl rfl (hb hby d15_2) _ (by rw [len_of S1 M1]; exact k)) ?_
  refine own_step (T' := s₁) (f' := (mkF m 4 #[.val (.ref a1), .val (.int (4 : Int32))] [(.int (0 : Int32))])) (fun t k => XS.isub X0.here hx rfl (hb hby d15_3) rfl k) ?_
  refine own_step (T' := s₁) (f' := (mkF m 6 #[.val (.ref a1), .val (.int (4 : Int32))] [(.int (31 : Int32)), (.int (0 : Int32))])) (fun t k => XS.bipush X0.here hx rfl (hb hby d15_4) k) ?_
  refine own_step (T' := s₁) (f' := (mkF m 7 #[.val (.ref a1), .val (.int (4 : Int32))] [(.int (((0 : Int32).toUInt32 >>> ((31 : Int32) &&& 31).toUInt32).toInt32))])) (fun t k => XS.iushr X0.here hx rfl (hb hby d15_6) rfl k) ?_
  refine own_step (T' := s₁) (f' := (mkF m 8 #[.val (.ref a1), .val (.int (4 : Int32))] [(.int ((((0 : Int32).toUInt32 >>> ((31 : Int32) &&& 31).toUInt32).toInt32).toInt8.toInt32))])) (fun t k => XS.i2b X0.here hx rfl (hb hby d15_7) rfl k) ?_
  exact own_retN X0 hx hlk (t := .byte) Bd.returns (by simp) (hb hby d15_8) (by decide) (by decide) ⟨by decide, N0, e0⟩

theorem ef_rm3_4 (m : MethodId) (x0 : Addr) (x1 : Addr) (x2 : Int32) (x3 : Int32) : entryFrame m #[(.ref x0), (.ref x1), (.int x2), (.int x3), .null] 6 = mkF m 0 #[.val (.ref x0), .val (.ref x1), .val (.int x2), .val (.int x3), .val .null, .unset] [] := by first | (simp [entryFrame, mkF, argsToLocals, Value.category]; done) | rfl
set_option maxRecDepth 65536 in
set_option maxHeartbeats 40000000 in
theorem rm3_4 (l : Launch) (Z : State) (a0 : Array Value) (hw : ∀ d ∈ tables_1, d.before a0 Z = true) (ws : List Jvm.Cond) (a1 : Addr) (a2 : Addr) (h0 : Heap) (n0 : Nat) (Z0 : n0 ≤ h0.size) (E_a1 : Exa Z h0 a1 "java/lang/String") (F_value_a1 : Fld Z h0 a1 "java/lang/String" "value" "[B" .null) (F_coder_a1 : Fld Z h0 a1 "java/lang/String" "coder" "B" (.int (0 : Int32))) (g_a1 : n0 ≤ a1) (kc : ClassId) (c0 c1 c2 c3 : Int32) (hC0 : OwnC c0) (hC1 : OwnC c1) (hC2 : OwnC c2) (hC3 : OwnC c3) (V_a2 : Arv Z h0 a2 kc .char (4 : Int32) [(.int c0), (.int c1), (.int c2), (.int c3)] (.int (0 : Int32))) (cs : Int32) (S_CS : Sta Z h0 "java/lang/String" "COMPACT_STRINGS" "Z" (.int cs)) (hcs : ¬ cs = (0 : Int32)) (n12 : a1 ≠ a2) :
    MetFree l (⟨"java/lang/String", "<init>", "([CIILjava/lang/Void;)V"⟩ : MethodName) (head1 (Jvm.Cond.code (⟨"java/lang/String", "<init>", "([CIILjava/lang/Void;)V"⟩ : MethodName) jdk_42_method_149_code 6 none :: ws) ({ frames := 2, cells := 1, slots := 4, locals := 36 } : Room)) (fun a U => a = #[(.ref a1), (.ref a2), (.int (0 : Int32)), (.int (4 : Int32)), .null] ∧ Z.Warmed39 U.vm ∧ U.heap = h0) (fun _ _ _ _ _ => True) (fun _ U o U' => ∃ v L, o = .returned v ∧ Q3_4 Z a1 c0 c1 c2 c3 h0 n0 v U'.heap L ∧ FrameEnd U o U' L ({ frames := 2, cells := 1, slots := 4, locals := 36 } : Room).cells ({ frames := 2, cells := 1, slots := 4, locals := 36 } : Room).slots) := by
  refine MetFree.of_bodySF (plainFor_of_name pn_3) hisR ?_
  intro p e s m args below meth c s₁ Bd hml0 hP hK
  obtain ⟨rfl, hZ, hh⟩ := hP
  have hx := Bd.exec
  have hby := Bd.bytes
  have hlk : meth.locks = false := BodyLoose.notSynchronized Bd
  have hml : c.maxLocals = 6 := hml0
  have hown : s.vm.findClass "java/lang/String" = some m.cls := findClass_of_methodNamed Bd.named
  have hnm := (name_of_methodNamed Bd.named Bd.method).1
  have X0 : Stand p l e ({ frames := 2, cells := 1, slots := 4, locals := 36 } : Room) s m #[(.ref a1), (.ref a2), (.int (0 : Int32)), (.int (4 : Int32)), .null] below meth c s₁ [] 0 0 := Stand.of_body Bd
  have e0 : s₁.heap = h0 := by rw [← hh, Bd.state]; rfl
  have N0 := Fr.nil n0
  have Zz := Z0
  have Kp : Keep h0 h0 [a1] := Keep.refl _ _
  show OwnEnds p e below s (Q3_4 Z a1 c0 c1 c2 c3 h0 n0) ({ frames := 2, cells := 1, slots := 4, locals := 36 } : Room).cells ({ frames := 2, cells := 1, slots := 4, locals := 36 } : Room).slots s₁ (entryFrame m #[(.ref a1), (.ref a2), (.int (0 : Int32)), (.int (4 : Int32)), .null] 6)
  refine own_step (T' := s₁) (f' := (mkF m 0 #[.val (.ref a1), .val (.ref a2), .val (.int (0 : Int32)), .val (.int (4 : Int32)), .val .null, .unset] [])) (fun t k => castTop (ef_rm3_4 m a1 a2 (0 : Int32) (4 : Int32)) k) ?_
  refine own_step (T' := s₁) (f' := (mkF m 1 #[.val (.ref a1), .val (.ref a2), .val (.int (0 : Int32)), .val (.int (4 : Int32)), .val .null, .unset] [(.ref a1)])) (fun t k => XS.aloadN X0.here hx rfl (hb hby d3_0) rfl rfl k) ?_
  obtain ⟨T1, X1, e1, st1⟩ := initO X0 hx hZ hown (own_w hw 19 rfl) (own_w hw 20 rfl) (own_w hw 21 rfl) e0 (g := (mkF m 1 #[.val (.ref a1), .val (.ref a2), .val (.int (0 : Int32)), .val (.int (4 : Int32)), .val .null, .unset] [(.ref a1)])) rfl (by rw [hml]; rfl) rfl (hb hby d3_1) (by decide) (W := 0) (by show 2 * 0 + _ ≤ _; exact Nat.le_of_eq rfl) (by decide)
  refine own_step (T' := T1) (f' := (mkF m 4 #[.val (.ref a1), .val (.ref a2), .val (.int (0 : Int32)), .val (.int (4 : Int32)), .val .null, .unset] [])) (fun t k => st1 t k) ?_
  refine own_step (T' := T1) (f' := (mkF m 5 #[.val (.ref a1), .val (.ref a2), .val (.int (0 : Int32)), .val (.int (4 : Int32)), .val .null, .unset] [(.int (4 : Int32))])) (fun t k => XS.iloadN X1.here hx rfl (hb hby d3_4) rfl k) ?_
  refine own_step (T' := T1) (f' := (mkF m 27 #[.val (.ref a1), .val (.ref a2), .val (.int (0 : Int32)), .val (.int (4 : Int32)), .val .null, .unset] [])) (fun t k => XS.ifYes X1.here hx rfl (pc0 := 5) (pc' := 27) rfl (hb hby d3_5) rfl ((if0 _ _).trans (feq (by decide : ¬ ((4 : Int32) = (0 : Int32)))).2) (by decide) (by decide) k) ?_
  obtain ⟨T2, X2, e2, st2⟩ := getS2 X1 hx hZ hown (host := "") (Or.inl (own_w hw 58 rfl)) Via.refl e1 S_CS (g := (mkF m 27 #[.val (.ref a1), .val (.ref a2), .val (.int (0 : Int32)), .val (.int (4 : Int32)), .val .null, .unset] [])) rfl (hb hby d3_27)
  refine own_step (T' := T2) (f' := (mkF m 30 #[.val (.ref a1), .val (.ref a2), .val (.int (0 : Int32)), .val (.int (4 : Int32)), .val .null, .unset] [(.int cs)])) (fun t k => st2 t k) ?_
  refine own_step (T' := T2) (f' := (mkF m 33 #[.val (.ref a1), .val (.ref a2), .val (.int (0 : Int32)), .val (.int (4 : Int32)), .val .null, .unset] [])) (fun t k => XS.ifNo X2.here hx rfl (hb hby d3_30) rfl ((if0 _ _).trans (feq hcs).1) k) ?_
  refine own_step (T' := T2) (f' := (mkF m 34 #[.val (.ref a1), .val (.ref a2), .val (.int (0 : Int32)), .val (.int (4 : Int32)), .val .null, .unset] [(.ref a2)])) (fun t k => XS.aloadN X2.here hx rfl (hb hby d3_33) rfl rfl k) ?_
  refine own_step (T' := T2) (f' := (mkF m 35 #[.val (.ref a1), .val (.ref a2), .val (.int (0 : Int32)), .val (.int (4 : Int32)), .val .null, .unset] [(.int (0 : Int32)), (.ref a2)])) (fun t k => XS.iloadN X2.here hx rfl (hb hby d3_34) rfl k) ?_
  refine own_step (T' := T2) (f' := (mkF m 36 #[.val (.ref a1), .val (.ref a2), .val (.int (0 : Int32)), .val (.int (4 : Int32)), .val .null, .unset] [(.int (4 : Int32)), (.int (0 : Int32)), (.ref a2)])) (fun t k => XS.iloadN X2.here hx rfl (hb hby d3_35) rfl k) ?_
  obtain ⟨_, _, ⟨T3, L3, k3, n3⟩, -, X3, ⟨Lc3, hQ3, l3, y3, z3⟩, st3⟩ := Jvm.LawKit.callS X2 hx (y := (⟨"java/lang/StringUTF16", "compress", "([CII)[B"⟩ : MethodName)) hown (mvT hZ (own_w hw 98 rfl)) (mvT hZ (own_w hw 99 rfl)) (mvT hZ (own_w hw 100 rfl)) (mvT hZ (own_w hw 101 rfl)) (by decide) (backOf (W := 0) (rm13_4 l Z a0 hw [] a2 h0 n0 Zz kc c0 c1 c2 c3 hC0 hC1 hC2 hC3 V_a2) hZ (own_w hw 101 rfl) (own_w hw 100 rfl) (by decide) (by decide)) (g := (mkF m 36 #[.val (.ref a1), .val (.ref a2), .val (.int (0 : Int32)), .val (.int (4 : Int32)), .val .null, .unset] [(.int (4 : Int32)), (.int (0 : Int32)), (.ref a2)])) rfl (by rw [hml]; rfl) (argsL := [(.ref a2), (.int (0 : Int32)), (.int (4 : Int32))]) (rest := []) (lenOf pd_3_0 rfl) rfl (by show 2 * 0 + _ ≤ _; exact Nat.le_of_eq rfl) (hb hby d3_36) (fun _ _ => ⟨rfl, e2, (by decide : 0 + 1 ≤ _), (by decide : 0 + 4 ≤ _)⟩)
  dsimp only [Pt.U, Pt.locs, Pt.cells, Pt.slots] at X3 l3 y3 z3 st3 hQ3
  subst l3 y3 z3
  obtain ⟨rb3, rk3, rfl, N3q, K3, zz3, Vr3, Er3⟩ := hQ3
  have N3 := Fr.app N0 N3q
  have ne_a1_rb3 : a1 ≠ rb3 := Nat.ne_of_lt (Nat.lt_of_lt_of_le E_a1.lt zz3)
  have ne_a2_rb3 : a2 ≠ rb3 := Nat.ne_of_lt (Nat.lt_of_lt_of_le V_a2.lt zz3)
  replace S_CS := own_sta_keep S_CS K3 all0
  replace E_a1 := E_a1.keep K3
  replace F_value_a1 := F_value_a1.keep K3 nin0
  replace F_coder_a1 := F_coder_a1.keep K3 nin0
  replace V_a2 := V_a2.keep K3 nin0
  replace Zz := Nat.le_trans Zz K3.1
  replace Kp := Kp.trans K3 all0
  refine own_step (T' := T3) (f' := (mkF m 39 #[.val (.ref a1), .val (.ref a2), .val (.int (0 : Int32)), .val (.int (4 : Int32)), .val .null, .unset] [(.ref rb3)])) (fun t k => st3 t k) ?_
  refine own_step (T' := T3) (f' := (mkF m 41 #[.val (.ref a1), .val (.ref a2), .val (.int (0 : Int32)), .val (.int (4 : Int32)), .val .null, .val (.ref rb3)] [])) (fun t k => XS.astore X3.here hx rfl (hb hby d3_39) rfl rfl (l' := #[.val (.ref a1), .val (.ref a2), .val (.int (0 : Int32)), .val (.int (4 : Int32)), .val .null, .val (.ref rb3)]) rfl k) ?_
  refine own_step (T' := T3) (f' := (mkF m 42 #[.val (.ref a1), .val (.ref a2), .val (.int (0 : Int32)), .val (.int (4 : Int32)), .val .null, .val (.ref rb3)] [(.ref a1)])) (fun t k => XS.aloadN X3.here hx rfl (hb hby d3_41) rfl rfl k) ?_
  refine own_step (T' := T3) (f' := (mkF m 44 #[.val (.ref a1), .val (.ref a2), .val (.int (0 : Int32)), .val (.int (4 : Int32)), .val .null, .val (.ref rb3)] [(.ref rb3), (.ref a1)])) (fun t k => XS.aload X3.here hx rfl (hb hby d3_42) rfl rfl k) ?_
  refine own_step (T' := T3) (f' := (mkF m 45 #[.val (.ref a1), .val (.ref a2), .val (.int (0 : Int32)), .val (.int (4 : Int32)), .val .null, .val (.ref rb3)] [(.int (4 : Int32)), (.ref rb3), (.ref a1)])) (fun t k => XS.iloadN X3.here hx rfl (hb hby d3_44) rfl k) ?_
  obtain ⟨_, _, ⟨T4, L4, k4, n4⟩, -, X4, ⟨Lc4, hQ4, l4, y4, z4⟩, st4⟩ := Jvm.LawKit.callS X3 hx (y := (⟨"java/lang/StringUTF16", "coderFromArrayLen", "([BI)B"⟩ : MethodName)) hown (mvT hZ (own_w hw 105 rfl)) (mvT hZ (own_w hw 106 rfl)) (mvT hZ (own_w hw 100 rfl)) (mvT hZ (own_w hw 107 rfl)) (by decide) (backOf (W := 1) (rm15_4 l Z a0 hw [] rb3 T3.heap n0 Zz rk3 c0 c1 c2 c3 Vr3) hZ (own_w hw 107 rfl) (own_w hw 100 rfl) (by decide) (by decide)) (g := (mkF m 45 #[.val (.ref a1), .val (.ref a2), .val (.int (0 : Int32)), .val (.int (4 : Int32)), .val .null, .val (.ref rb3)] [(.int (4 : Int32)), (.ref rb3), (.ref a1)])) rfl (by rw [hml]; rfl) (argsL := [(.ref rb3), (.int (4 : Int32))]) (rest := [(.ref a1)]) (lenOf pd_3_1 rfl) rfl (by show 2 * 0 + _ ≤ _; exact Nat.le_of_eq rfl) (hb hby d3_45) (fun _ _ => ⟨rfl, rfl, (by decide : 1 + 0 ≤ _), (by decide : 4 + 0 ≤ _)⟩)
  dsimp only [Pt.U, Pt.locs, Pt.cells, Pt.slots] at X4 l4 y4 z4 st4 hQ4
  subst l4 y4 z4
  obtain ⟨rfl, N4q, E4⟩ := hQ4
  have N4 := Fr.app N3 N4q
  refine own_step (T' := T4) (f' := (mkF m 48 #[.val (.ref a1), .val (.ref a2), .val (.int (0 : Int32)), .val (.int (4 : Int32)), .val .null, .val (.ref rb3)] [(.int (0 : Int32)), (.ref a1)])) (fun t k => st4 t k) ?_
  obtain ⟨T5, h5, X5, e5, W5, st5⟩ := putFN X4 hx hZ hown (own_w hw 29 rfl) Via.refl E4 F_coder_a1 E_a1 (Or.inr ⟨(own_w hw 25 rfl), rfl, hnm⟩) (own_w hw 10 rfl) (ty := .byte) (v' := (.int (0 : Int32))) (by decide) rfl (by decide) (g := (mkF m 48 #[.val (.ref a1), .val (.ref a2), .val (.int (0 : Int32)), .val (.int (4 : Int32)), .val .null, .val (.ref rb3)] [(.int (0 : Int32)), (.ref a1)])) rfl rfl (hb hby d3_48)
  replace E_a1 := E_a1.wr W5
  replace F_value_a1 := F_value_a1.other W5 (Or.inr (Jvm.RoadKit.slot_ne (Or.inr (own_w hw 24 rfl)) (Or.inr (own_w hw 25 rfl)) (by decide) (t := (.array .byte)) (t' := .byte) (by decide) (by decide)))
  replace F_coder_a1 := F_coder_a1.same W5
  replace V_a2 := V_a2.other W5 (Ne.symm n12)
  replace S_CS := S_CS.wr W5
  replace Vr3 := Vr3.other W5 (Ne.symm ne_a1_rb3)
  replace Er3 := Er3.wr W5
  replace Zz := Nat.le_trans Zz (Keep.of_wr W5).1
  replace Kp := Kp.wr W5 (Or.inl (List.mem_of_getElem? (i := 0) rfl))
  have N5 := Fr.snoc X5 N4 g_a1
  refine own_step (T' := T5) (f' := (mkF m 51 #[.val (.ref a1), .val (.ref a2), .val (.int (0 : Int32)), .val (.int (4 : Int32)), .val .null, .val (.ref rb3)] [])) (fun t k => st5 t k) ?_
  refine own_step (T' := T5) (f' := (mkF m 52 #[.val (.ref a1), .val (.ref a2), .val (.int (0 : Int32)), .val (.int (4 : Int32)), .val .null, .val (.ref rb3)] [(.ref a1)])) (fun t k => XS.aloadN X5.here hx rfl (hb hby d3_51) rfl rfl k) ?_
  refine own_step (T' := T5) (f' := (mkF m 54 #[.val (.ref a1), .val (.ref a2), .val (.int (0 : Int32)), .val (.int (4 : Int32)), .val .null, .val (.ref rb3)] [(.ref rb3), (.ref a1)])) (fun t k => XS.aload X5.here hx rfl (hb hby d3_52) rfl rfl k) ?_
  obtain ⟨T6, h6, X6, e6, W6, st6⟩ := putF X5 hx hZ hown (host := "") (Or.inl (own_w hw 28 rfl)) Via.refl e5 F_value_a1 E_a1 (Or.inr ⟨(own_w hw 24 rfl), rfl, hnm⟩) (own_w hw 10 rfl) (ty := (.array .byte)) (by decide) rfl rfl (g := (mkF m 54 #[.val (.ref a1), .val (.ref a2), .val (.int (0 : Int32)), .val (.int (4 : Int32)), .val .null, .val (.ref rb3)] [(.ref rb3), (.ref a1)])) rfl rfl (hb hby d3_54)
  replace E_a1 := E_a1.wr W6
  replace F_value_a1 := F_value_a1.same W6
  replace F_coder_a1 := F_coder_a1.other W6 (Or.inr (Jvm.RoadKit.slot_ne (Or.inr (own_w hw 25 rfl)) (Or.inr (own_w hw 24 rfl)) (by decide) (t := .byte) (t' := (.array .byte)) (by decide) (by decide)))
  replace V_a2 := V_a2.other W6 (Ne.symm n12)
  replace S_CS := S_CS.wr W6
  replace Vr3 := Vr3.other W6 (Ne.symm ne_a1_rb3)
  replace Er3 := Er3.wr W6
  replace Zz := Nat.le_trans Zz (Keep.of_wr W6).1
  replace Kp := Kp.wr W6 (Or.inl (List.mem_of_getElem? (i := 0) rfl))
  have N6 := Fr.snoc X6 N5 g_a1
  refine own_step (T' := T6) (f' := (mkF m 57 #[.val (.ref a1), .val (.ref a2), .val (.int (0 : Int32)), .val (.int (4 : Int32)), .val .null, .val (.ref rb3)] [])) (fun t k => st6 t k) ?_
  exact own_retV X6 hx hlk Bd.returns (hb hby d3_57) (by decide) (by decide) (by rw [e6]; exact ⟨rfl, N6, Kp, rb3, rk3, E_a1, F_coder_a1, F_value_a1, Vr3, Er3⟩)

theorem ef_rm2_4 (m : MethodId) (x0 : Addr) (x1 : Addr) : entryFrame m #[(.ref x0), (.ref x1)] 2 = mkF m 0 #[.val (.ref x0), .val (.ref x1)] [] := by first | (simp [entryFrame, mkF, argsToLocals, Value.category]; done) | rfl
set_option maxRecDepth 65536 in
set_option maxHeartbeats 40000000 in
theorem rm2_4 (l : Launch) (Z : State) (a0 : Array Value) (hw : ∀ d ∈ tables_1, d.before a0 Z = true) (ws : List Jvm.Cond) (a1 : Addr) (a2 : Addr) (h0 : Heap) (n0 : Nat) (Z0 : n0 ≤ h0.size) (E_a1 : Exa Z h0 a1 "java/lang/String") (F_value_a1 : Fld Z h0 a1 "java/lang/String" "value" "[B" .null) (F_coder_a1 : Fld Z h0 a1 "java/lang/String" "coder" "B" (.int (0 : Int32))) (g_a1 : n0 ≤ a1) (kc : ClassId) (c0 c1 c2 c3 : Int32) (hC0 : OwnC c0) (hC1 : OwnC c1) (hC2 : OwnC c2) (hC3 : OwnC c3) (V_a2 : Arv Z h0 a2 kc .char (4 : Int32) [(.int c0), (.int c1), (.int c2), (.int c3)] (.int (0 : Int32))) (cs : Int32) (S_CS : Sta Z h0 "java/lang/String" "COMPACT_STRINGS" "Z" (.int cs)) (hcs : ¬ cs = (0 : Int32)) (n12 : a1 ≠ a2) :
    MetFree l (⟨"java/lang/String", "<init>", "([C)V"⟩ : MethodName) (head1 (Jvm.Cond.code (⟨"java/lang/String", "<init>", "([C)V"⟩ : MethodName) jdk_42_method_3_code 2 none :: ws) ({ frames := 3, cells := 1, slots := 4, locals := 54 } : Room)) (fun a U => a = #[(.ref a1), (.ref a2)] ∧ Z.Warmed39 U.vm ∧ U.heap = h0) (fun _ _ _ _ _ => True) (fun _ U o U' => ∃ v L, o = .returned v ∧ Q3_4 Z a1 c0 c1 c2 c3 h0 n0 v U'.heap L ∧ FrameEnd U o U' L ({ frames := 3, cells := 1, slots := 4, locals := 54 } : Room).cells ({ frames := 3, cells := 1, slots := 4, locals := 54 } : Room).slots) := by
  refine MetFree.of_bodySF (plainFor_of_name pn_2) hisR ?_
  intro p e s m args below meth c s₁ Bd hml0 hP hK
  obtain ⟨rfl, hZ, hh⟩ := hP
  have hx := Bd.exec
  have hby := Bd.bytes
  have hlk : meth.locks = false := BodyLoose.notSynchronized Bd
  have hml : c.maxLocals = 2 := hml0
  have hown : s.vm.findClass "java/lang/String" = some m.cls := findClass_of_methodNamed Bd.named
  have hnm := (name_of_methodNamed Bd.named Bd.method).1
  have X0 : Stand p l e ({ frames := 3, cells := 1, slots := 4, locals := 54 } : Room) s m #[(.ref a1), (.ref a2)] below meth c s₁ [] 0 0 := Stand.of_body Bd
  have e0 : s₁.heap = h0 := by rw [← hh, Bd.state]; rfl
  have N0 := Fr.nil n0
  have Zz := Z0
  have Kp : Keep h0 h0 [] := Keep.refl _ _
  show OwnEnds p e below s (Q3_4 Z a1 c0 c1 c2 c3 h0 n0) ({ frames := 3, cells := 1, slots := 4, locals := 54 } : Room).cells ({ frames := 3, cells := 1, slots := 4, locals := 54 } : Room).slots s₁ (entryFrame m #[(.ref a1), (.ref a2)] 2)
  refine own_step (T' := s₁) (f' := (mkF m 0 #[.val (.ref a1), .val (.ref a2)] [])) (fun t k => castTop (ef_rm2_4 m a1 a2) k) ?_
  refine own_step (T' := s₁) (f' := (mkF m 1 #[.val (.ref a1), .val (.ref a2)] [(.ref a1)])) (fun t k => XS.aloadN X0.here hx rfl (hb hby d2_0) rfl rfl k) ?_
  refine own_step (T' := s₁) (f' := (mkF m 2 #[.val (.ref a1), .val (.ref a2)] [(.ref a2), (.ref a1)])) (fun t k => XS.aloadN X0.here hx rfl (hb hby d2_1) rfl rfl k) ?_
  refine own_step (T' := s₁) (f' := (mkF m 3 #[.val (.ref a1), .val (.ref a2)] [(.int (0 : Int32)), (.ref a2), (.ref a1)])) (fun t k => XS.iconst X0.here hx rfl (hb hby d2_2) k) ?_
  refine own_step (T' := s₁) (f' := (mkF m 4 #[.val (.ref a1), .val (.ref a2)] [(.ref a2), (.int (0 : Int32)), (.ref a2), (.ref a1)])) (fun t k => XS.aloadN X0.here hx rfl (hb hby d2_3) rfl rfl k) ?_
  obtain ⟨cl1, Ar1, q1, S1, M1, H1, G1⟩ := id V_a2
  refine own_step (T' := s₁) (f' := (mkF m 5 #[.val (.ref a1), .val (.ref a2)] [(.int (4 : Int32)), (.int (0 : Int32)), (.ref a2), (.ref a1)])) (fun t k => X0.arraylength hx (by rw [e0]; exact Ar1.1) (State.isArrayOf_alike hZ.alike Ar1.2.1) (g := (mkF m 4 #[.val (.ref a1), .val (.ref a2)] [(.ref a2), (.int (0 : Int32)), (.ref a2), (.ref a1)])) rfl rfl (hb hby d2_4) _ (by rw [len_of S1 M1]; exact k)) ?_
  refine own_step (T' := s₁) (f' := (mkF m 6 #[.val (.ref a1), .val (.ref a2)] [.null, (.int (4 : Int32)), (.int (0 : Int32)), (.ref a2), (.ref a1)])) (fun t k => XS.aconstNull X0.here hx rfl (hb hby d2_5) k) ?_
  obtain ⟨_, _, ⟨T2, L2, k2, n2⟩, -, X2, ⟨Lc2, hQ2, l2, y2, z2⟩, st2⟩ := X0.specialBack hx (y := (⟨"java/lang/String", "<init>", "([CIILjava/lang/Void;)V"⟩ : MethodName)) rfl hown (mvT hZ (own_w hw 15 rfl)) (mvT hZ (own_w hw 16 rfl)) (mvT hZ (own_w hw 18 rfl)) (by decide) (backOf (W := 0) (rm3_4 l Z a0 hw [] a1 a2 h0 n0 Zz E_a1 F_value_a1 F_coder_a1 g_a1 kc c0 c1 c2 c3 hC0 hC1 hC2 hC3 V_a2 cs S_CS hcs n12) hZ (own_w hw 18 rfl) (own_w hw 11 rfl) (by decide) (by decide)) (g := (mkF m 6 #[.val (.ref a1), .val (.ref a2)] [.null, (.int (4 : Int32)), (.int (0 : Int32)), (.ref a2), (.ref a1)])) rfl (by rw [hml]; rfl) (Steps.refl _) (a := a1) (argsL := [(.ref a2), (.int (0 : Int32)), (.int (4 : Int32)), .null]) (rest := []) (lenOf pd_2_0 rfl) rfl (by show 2 * 0 + _ ≤ _; exact Nat.le_of_eq rfl) (hb hby d2_6) (fun _ _ => ⟨rfl, e0, (by decide : 0 + 1 ≤ _), (by decide : 0 + 4 ≤ _)⟩)
  dsimp only [Pt.U, Pt.locs, Pt.cells, Pt.slots] at X2 l2 y2 z2 st2 hQ2
  subst l2 y2 z2
  obtain ⟨rfl, N2q, K2, Ow2⟩ := hQ2
  have N2 := Fr.app N0 N2q
  refine own_step (T' := T2) (f' := (mkF m 9 #[.val (.ref a1), .val (.ref a2)] [])) (fun t k => st2.trans k) ?_
  exact own_retV X2 hx hlk Bd.returns (hb hby d2_9) (by decide) (by decide) ⟨rfl, N2, K2, Ow2⟩

theorem pn_0 : plainName "com/example/lit2/lit2/input/LineBeginsSectionPinLaw" = true := by first | (simp [plainName, overriddenIn]; done) | decide +kernel
theorem pd_0_0 : parseMethodDescriptor "(I)C" = some ⟨[.int], some .char⟩ := by decide +kernel
theorem pd_0_1 : parseMethodDescriptor "([C)V" = some ⟨[(.array .char)], none⟩ := by decide +kernel
theorem pd_0_2 : parseMethodDescriptor "(Ljava/lang/String;I)V" = some ⟨[(.object "java/lang/String"), .int], none⟩ := by decide +kernel
theorem pd_0_3 : parseMethodDescriptor "(Ljava/lang/String;Lcom/example/lit2/lit2/model/Location;)V" = some ⟨[(.object "java/lang/String"), (.object "com/example/lit2/lit2/model/Location")], none⟩ := by decide +kernel
theorem pd_0_4 : parseMethodDescriptor "()Z" = some ⟨[], some .boolean⟩ := by decide +kernel
theorem pd_0_5 : parseMethodDescriptor "(C)Z" = some ⟨[.char], some .boolean⟩ := by decide +kernel
theorem ef_rm0 (m : MethodId) (x0 : Int32) (x1 : Int32) (x2 : Int32) (x3 : Int32) (x4 : Int32) : entryFrame m #[(.int x0), (.int x1), (.int x2), (.int x3), (.int x4)] maxLocals = mkF m 0 #[.val (.int x0), .val (.int x1), .val (.int x2), .val (.int x3), .val (.int x4), .unset, .unset, .unset, .unset, .unset, .unset, .unset, .unset, .unset, .unset] [] := by first | (simp [entryFrame, mkF, argsToLocals, Value.category, maxLocals]; done) | rfl
def Q0 (n0 : Nat) (v : Option Value) (h : Heap) (L : List Loc) : Prop := v = some (.int 1) ∧ Fr n0 L
set_option maxRecDepth 65536 in
set_option maxHeartbeats 40000000 in
theorem rm0 (l : Launch) (Z : State) (a0 : Array Value) (hw : ∀ d ∈ tables_1, d.before a0 Z = true) (ws : List Jvm.Cond) (p1 : Int32) (p2 : Int32) (p3 : Int32) (p4 : Int32) (p5 : Int32) (h0 : Heap) (n0 : Nat) (Z0 : n0 ≤ h0.size) (cs : Int32) (S_CS : Sta Z h0 "java/lang/String" "COMPACT_STRINGS" "Z" (.int cs)) (hcs : ¬ cs = (0 : Int32)) (ai : Addr) (S_SC : Sta Z h0 "java/nio/charset/StandardCharsets" "ISO_8859_1" "Ljava/nio/charset/Charset;" (.ref ai)) (aU : Addr) (S_U : Sta Z h0 "sun/nio/cs/UTF_8" "INSTANCE" "Lsun/nio/cs/UTF_8;" (.ref aU)) (S_I : Sta Z h0 "sun/nio/cs/ISO_8859_1" "INSTANCE" "Lsun/nio/cs/ISO_8859_1;" (.ref ai)) (neU : ¬ ai = aU) (hEL : EW Z a0 ownEL) (hn0 : n0 = Z.heap.size) (hCH : CHv Z ownEL Z.vm Z.heap) (hh0 : h0 = Z.heap) :
    MetFree l x (head1 (Jvm.Cond.code x code maxLocals ret :: ws) room_1) (fun a U => a = #[(.int p1), (.int p2), (.int p3), (.int p4), (.int p5)] ∧ U = Z ∧ U.heap = h0) (fun _ _ _ _ _ => True) (fun _ U o U' => ∃ v L, o = .returned v ∧ Q0 n0 v U'.heap L ∧ ReturnedEndW U o U' L room_1.cells room_1.slots) := by
  refine MetFree.of_bodySF (plainFor_of_name pn_0) hisR ?_
  intro p e s m args below meth c s₁ Bd hml0 hP hK
  obtain ⟨rfl, hUZ, hh⟩ := hP
  have hZ : Z.Warmed39 s.vm := by rw [hUZ]; exact State.Warmed39.refl Z
  have hx := Bd.exec
  have hby := Bd.bytes
  have hlk : meth.locks = false := BodyLoose.notSynchronized Bd
  have hml : c.maxLocals = 15 := hml0
  have hown : s.vm.findClass "com/example/lit2/lit2/input/LineBeginsSectionPinLaw" = some m.cls := findClass_of_methodNamed Bd.named
  have hnm := (name_of_methodNamed Bd.named Bd.method).1
  have X0 : Stand p l e room_1 s m #[(.int p1), (.int p2), (.int p3), (.int p4), (.int p5)] below meth c s₁ [] 0 0 := Stand.of_body Bd
  have e0 : s₁.heap = h0 := by rw [← hh, Bd.state]; rfl
  have N0 := Fr.nil n0
  have Zz := Z0
  have Kp : Keep h0 h0 [] := Keep.refl _ _
  have own_chv : ∀ {hh : Heap}, Keep h0 hh [] → CHv Z ownEL s.vm hh := fun K => by rw [hUZ]; exact (hh0 ▸ hCH).keep K all0
  show OwnEndsW p e below s (Q0 n0) room_1.cells room_1.slots s₁ (entryFrame m #[(.int p1), (.int p2), (.int p3), (.int p4), (.int p5)] maxLocals)
  refine ownW_step (T' := s₁) (f' := (mkF m 0 #[.val (.int p1), .val (.int p2), .val (.int p3), .val (.int p4), .val (.int p5), .unset, .unset, .unset, .unset, .unset, .unset, .unset, .unset, .unset, .unset] [])) (fun t k => castTop (ef_rm0 m p1 p2 p3 p4 p5) k) ?_
  let F1 : Nat → List Value → JFrame := fun a b => mkF m a #[.val (.int p1), .val (.int p2), .val (.int p3), .val (.int p4), .val (.int p5), .unset, .unset, .unset, .unset, .unset, .unset, .unset, .unset, .unset, .unset] b
  refine ownW_step (T' := s₁) (f' := (F1 1 [(.int p1)])) (fun t k => XS.iloadN X0.here hx rfl (hb hby at_0) rfl k) ?_
  refine ownW_step (T' := s₁) (f' := (F1 3 [(.int (2147483647 : Int32)), (.int p1)])) (fun t k => X0.ldcInt hx hown (mvT hZ (own_w hw 0 rfl)) (g := (F1 1 [(.int p1)])) rfl (hb hby at_1) _ k) ?_
  refine ownW_step (T' := s₁) (f' := (F1 4 [(.int (p1 &&& (2147483647 : Int32)))])) (fun t k => XS.iand X0.here hx rfl (hb hby at_3) rfl k) ?_
  refine ownW_step (T' := s₁) (f' := (F1 5 [(.int (5 : Int32)), (.int (p1 &&& (2147483647 : Int32)))])) (fun t k => XS.iconst X0.here hx rfl (hb hby at_4) k) ?_
  refine ownW_step (T' := s₁) (f' := (F1 6 [(.int ((p1 &&& (2147483647 : Int32)) % (5 : Int32)))])) (fun t k => iremM X0 hx rfl (hb hby at_5) rfl (by decide) k) ?_
  let F2 : Nat → List Value → JFrame := fun a b => mkF m a #[.val (.int p1), .val (.int p2), .val (.int p3), .val (.int p4), .val (.int p5), .val (.int ((p1 &&& (2147483647 : Int32)) % (5 : Int32))), .unset, .unset, .unset, .unset, .unset, .unset, .unset, .unset, .unset] b
  refine ownW_step (T' := s₁) (f' := (F2 8 [])) (fun t k => XS.istore X0.here hx rfl (hb hby at_6) rfl (l' := #[.val (.int p1), .val (.int p2), .val (.int p3), .val (.int p4), .val (.int p5), .val (.int ((p1 &&& (2147483647 : Int32)) % (5 : Int32))), .unset, .unset, .unset, .unset, .unset, .unset, .unset, .unset, .unset]) rfl k) ?_
  refine ownW_step (T' := s₁) (f' := (F2 9 [(.int p2)])) (fun t k => XS.iloadN X0.here hx rfl (hb hby at_8) rfl k) ?_
  obtain ⟨_, _, ⟨T3, L3, k3, n3⟩, -, X3, ⟨Lc3, hQ3, l3, y3, z3⟩, st3⟩ := Jvm.LawKit.callS X0 hx (y := (⟨"com/example/lit2/lit2/input/LineBeginsSectionPinLaw", "pick", "(I)C"⟩ : MethodName)) hown (mvT hZ (own_w hw 1 rfl)) (mvT hZ (own_w hw 2 rfl)) (mvT hZ (own_w hw 3 rfl)) (mvT hZ (own_w hw 4 rfl)) (by decide) (backOf (W := 0) (rm1 l Z a0 hw [] p2 h0 n0 Zz) hZ (own_w hw 4 rfl) (own_w hw 3 rfl) (by decide) (by decide)) (g := (F2 9 [(.int p2)])) rfl (by rw [hml]; rfl) (argsL := [(.int p2)]) (rest := []) (lenOf pd_0_0 rfl) rfl (by show 2 * 0 + _ ≤ _; exact Nat.le_of_eq rfl) (hb hby at_9) (fun _ _ => ⟨rfl, e0, (by decide : 0 + 0 ≤ _), (by decide : 0 + 0 ≤ _)⟩)
  dsimp only [Pt.U, Pt.locs, Pt.cells, Pt.slots] at X3 l3 y3 z3 st3 hQ3
  subst l3 y3 z3
  obtain ⟨c3, rfl, N3q, E3, hC3⟩ := hQ3
  have N3 := Fr.app N0 N3q
  refine ownW_step (T' := T3) (f' := (F2 12 [(.int c3)])) (fun t k => st3 t k) ?_
  let F4 : Nat → List Value → JFrame := fun a b => mkF m a #[.val (.int p1), .val (.int p2), .val (.int p3), .val (.int p4), .val (.int p5), .val (.int ((p1 &&& (2147483647 : Int32)) % (5 : Int32))), .val (.int c3), .unset, .unset, .unset, .unset, .unset, .unset, .unset, .unset] b
  refine ownW_step (T' := T3) (f' := (F4 14 [])) (fun t k => XS.istore X3.here hx rfl (hb hby at_12) rfl (l' := #[.val (.int p1), .val (.int p2), .val (.int p3), .val (.int p4), .val (.int p5), .val (.int ((p1 &&& (2147483647 : Int32)) % (5 : Int32))), .val (.int c3), .unset, .unset, .unset, .unset, .unset, .unset, .unset, .unset]) rfl k) ?_
  refine ownW_step (T' := T3) (f' := (F4 15 [(.int p3)])) (fun t k => XS.iloadN X3.here hx rfl (hb hby at_14) rfl k) ?_
  obtain ⟨_, _, ⟨T5, L5, k5, n5⟩, -, X5, ⟨Lc5, hQ5, l5, y5, z5⟩, st5⟩ := Jvm.LawKit.callS X3 hx (y := (⟨"com/example/lit2/lit2/input/LineBeginsSectionPinLaw", "pick", "(I)C"⟩ : MethodName)) hown (mvT hZ (own_w hw 1 rfl)) (mvT hZ (own_w hw 2 rfl)) (mvT hZ (own_w hw 3 rfl)) (mvT hZ (own_w hw 4 rfl)) (by decide) (backOf (W := 0) (rm1 l Z a0 hw [] p3 h0 n0 Zz) hZ (own_w hw 4 rfl) (own_w hw 3 rfl) (by decide) (by decide)) (g := (F4 15 [(.int p3)])) rfl (by rw [hml]; rfl) (argsL := [(.int p3)]) (rest := []) (lenOf pd_0_0 rfl) rfl (by show 2 * 0 + _ ≤ _; exact Nat.le_of_eq rfl) (hb hby at_15) (fun _ _ => ⟨rfl, E3, (by decide : 0 + 0 ≤ _), (by decide : 0 + 0 ≤ _)⟩)
  dsimp only [Pt.U, Pt.locs, Pt.cells, Pt.slots] at X5 l5 y5 z5 st5 hQ5
  subst l5 y5 z5
  obtain ⟨c5, rfl, N5q, E5, hC5⟩ := hQ5
  have N5 := Fr.app N3 N5q
  refine ownW_step (T' := T5) (f' := (F4 18 [(.int c5)])) (fun t k => st5 t k) ?_
  let F6 : Nat → List Value → JFrame := fun a b => mkF m a #[.val (.int p1), .val (.int p2), .val (.int p3), .val (.int p4), .val (.int p5), .val (.int ((p1 &&& (2147483647 : Int32)) % (5 : Int32))), .val (.int c3), .val (.int c5), .unset, .unset, .unset, .unset, .unset, .unset, .unset] b
  refine ownW_step (T' := T5) (f' := (F6 20 [])) (fun t k => XS.istore X5.here hx rfl (hb hby at_18) rfl (l' := #[.val (.int p1), .val (.int p2), .val (.int p3), .val (.int p4), .val (.int p5), .val (.int ((p1 &&& (2147483647 : Int32)) % (5 : Int32))), .val (.int c3), .val (.int c5), .unset, .unset, .unset, .unset, .unset, .unset, .unset]) rfl k) ?_
  refine ownW_step (T' := T5) (f' := (F6 21 [(.int p4)])) (fun t k => XS.iloadN X5.here hx rfl (hb hby at_20) rfl k) ?_
  obtain ⟨_, _, ⟨T7, L7, k7, n7⟩, -, X7, ⟨Lc7, hQ7, l7, y7, z7⟩, st7⟩ := Jvm.LawKit.callS X5 hx (y := (⟨"com/example/lit2/lit2/input/LineBeginsSectionPinLaw", "pick", "(I)C"⟩ : MethodName)) hown (mvT hZ (own_w hw 1 rfl)) (mvT hZ (own_w hw 2 rfl)) (mvT hZ (own_w hw 3 rfl)) (mvT hZ (own_w hw 4 rfl)) (by decide) (backOf (W := 0) (rm1 l Z a0 hw [] p4 h0 n0 Zz) hZ (own_w hw 4 rfl) (own_w hw 3 rfl) (by decide) (by decide)) (g := (F6 21 [(.int p4)])) rfl (by rw [hml]; rfl) (argsL := [(.int p4)]) (rest := []) (lenOf pd_0_0 rfl) rfl (by show 2 * 0 + _ ≤ _; exact Nat.le_of_eq rfl) (hb hby at_21) (fun _ _ => ⟨rfl, E5, (by decide : 0 + 0 ≤ _), (by decide : 0 + 0 ≤ _)⟩)
  dsimp only [Pt.U, Pt.locs, Pt.cells, Pt.slots] at X7 l7 y7 z7 st7 hQ7
  subst l7 y7 z7
  obtain ⟨c7, rfl, N7q, E7, hC7⟩ := hQ7
  have N7 := Fr.app N5 N7q
  refine ownW_step (T' := T7) (f' := (F6 24 [(.int c7)])) (fun t k => st7 t k) ?_
  let F8 : Nat → List Value → JFrame := fun a b => mkF m a #[.val (.int p1), .val (.int p2), .val (.int p3), .val (.int p4), .val (.int p5), .val (.int ((p1 &&& (2147483647 : Int32)) % (5 : Int32))), .val (.int c3), .val (.int c5), .val (.int c7), .unset, .unset, .unset, .unset, .unset, .unset] b
  refine ownW_step (T' := T7) (f' := (F8 26 [])) (fun t k => XS.istore X7.here hx rfl (hb hby at_24) rfl (l' := #[.val (.int p1), .val (.int p2), .val (.int p3), .val (.int p4), .val (.int p5), .val (.int ((p1 &&& (2147483647 : Int32)) % (5 : Int32))), .val (.int c3), .val (.int c5), .val (.int c7), .unset, .unset, .unset, .unset, .unset, .unset]) rfl k) ?_
  refine ownW_step (T' := T7) (f' := (F8 28 [(.int p5)])) (fun t k => XS.iload X7.here hx rfl (hb hby at_26) rfl k) ?_
  obtain ⟨_, _, ⟨T9, L9, k9, n9⟩, -, X9, ⟨Lc9, hQ9, l9, y9, z9⟩, st9⟩ := Jvm.LawKit.callS X7 hx (y := (⟨"com/example/lit2/lit2/input/LineBeginsSectionPinLaw", "pick", "(I)C"⟩ : MethodName)) hown (mvT hZ (own_w hw 1 rfl)) (mvT hZ (own_w hw 2 rfl)) (mvT hZ (own_w hw 3 rfl)) (mvT hZ (own_w hw 4 rfl)) (by decide) (backOf (W := 0) (rm1 l Z a0 hw [] p5 h0 n0 Zz) hZ (own_w hw 4 rfl) (own_w hw 3 rfl) (by decide) (by decide)) (g := (F8 28 [(.int p5)])) rfl (by rw [hml]; rfl) (argsL := [(.int p5)]) (rest := []) (lenOf pd_0_0 rfl) rfl (by show 2 * 0 + _ ≤ _; exact Nat.le_of_eq rfl) (hb hby at_28) (fun _ _ => ⟨rfl, E7, (by decide : 0 + 0 ≤ _), (by decide : 0 + 0 ≤ _)⟩)
  dsimp only [Pt.U, Pt.locs, Pt.cells, Pt.slots] at X9 l9 y9 z9 st9 hQ9
  subst l9 y9 z9
  obtain ⟨c9, rfl, N9q, E9, hC9⟩ := hQ9
  have N9 := Fr.app N7 N9q
  refine ownW_step (T' := T9) (f' := (F8 31 [(.int c9)])) (fun t k => st9 t k) ?_
  let F10 : Nat → List Value → JFrame := fun a b => mkF m a #[.val (.int p1), .val (.int p2), .val (.int p3), .val (.int p4), .val (.int p5), .val (.int ((p1 &&& (2147483647 : Int32)) % (5 : Int32))), .val (.int c3), .val (.int c5), .val (.int c7), .val (.int c9), .unset, .unset, .unset, .unset, .unset] b
  refine ownW_step (T' := T9) (f' := (F10 33 [])) (fun t k => XS.istore X9.here hx rfl (hb hby at_31) rfl (l' := #[.val (.int p1), .val (.int p2), .val (.int p3), .val (.int p4), .val (.int p5), .val (.int ((p1 &&& (2147483647 : Int32)) % (5 : Int32))), .val (.int c3), .val (.int c5), .val (.int c7), .val (.int c9), .unset, .unset, .unset, .unset, .unset]) rfl k) ?_
  have J33_11 : ∀ (T_11 : State) (l_11 : List Loc) (X_11 : Stand p l e room_1 s m #[(.int p1), (.int p2), (.int p3), (.int p4), (.int p5)] below meth c T_11 l_11 0 0) (e_11 : T_11.heap = h0) (N_11 : Fr n0 l_11) (nn : Int32) (hnn : nn = 0 ∨ nn = 1 ∨ nn = 2 ∨ nn = 3 ∨ nn = 4), OwnEndsW p e below s (Q0 n0) room_1.cells room_1.slots T_11 (mkF m 33 #[.val (.int p1), .val (.int p2), .val (.int p3), .val (.int p4), .val (.int p5), .val (.int nn), .val (.int c3), .val (.int c5), .val (.int c7), .val (.int c9), .unset, .unset, .unset, .unset, .unset] []) := by
    intro T_11 l_11 X_11 e_11 N_11 nn hnn
    rcases hnn with rfl | rfl | rfl | rfl | rfl
    · skip
      let F12 : Nat → List Value → JFrame := fun a b => mkF m a #[.val (.int p1), .val (.int p2), .val (.int p3), .val (.int p4), .val (.int p5), .val (.int (0 : Int32)), .val (.int c3), .val (.int c5), .val (.int c7), .val (.int c9), .unset, .unset, .unset, .unset, .unset] b
      refine ownW_step (T' := T_11) (f' := (F12 35 [(.int (0 : Int32))])) (fun t k => XS.iload X_11.here hx rfl (hb hby at_33) rfl k) ?_
      refine ownW_step (T' := T_11) (f' := (F12 38 [])) (fun t k => XS.ifNo X_11.here hx rfl (hb hby at_35) rfl ((if0 _ _).trans (teq (by decide : (0 : Int32) = (0 : Int32))).2) k) ?_
      refine ownW_step (T' := T_11) (f' := (F12 39 [(.int (0 : Int32))])) (fun t k => XS.iconst X_11.here hx rfl (hb hby at_38) k) ?_
      obtain ⟨T13, h13, k13, X13, e13, E13, A13, EX13, st13⟩ := newPE X_11 hx hZ (own_w hw 5 rfl) e_11 (g := (F12 39 [(.int (0 : Int32))])) rfl (hb hby at_39) rfl (by decide) (cap := 0) (by decide) (by decide) (by decide) (by decide) (ad := "[C") rfl
      obtain ⟨b13, g13⟩ : ∃ z, z = h0.size := ⟨_, rfl⟩
      rw [← g13] at A13 EX13 st13
      have g_b13 : n0 ≤ b13 := Nat.le_trans Zz (Nat.le_of_eq g13.symm)
      have sz_b13 : h0.size ≤ b13 := Nat.le_trans Kp.1 (Nat.le_of_eq g13.symm)
      replace S_CS := S_CS.ext E13
      replace S_SC := S_SC.ext E13
      replace S_U := S_U.ext E13
      replace S_I := S_I.ext E13
      replace Zz := Nat.le_trans Zz E13.1
      replace Kp := Kp.ext E13
      have V_b13 : Arv Z h13 b13 k13 .char (0 : Int32) [] (.int (0 : Int32)) := (Arv.new A13 (by decide)).pad (pad_rep [] (.int (0 : Int32)) 0)
      have EX_b13 := EX13
      refine ownW_step (T' := T13) (f' := (F12 41 [(.ref b13)])) (fun t k => st13 t k) ?_
      let F14 : Nat → List Value → JFrame := fun a b => mkF m a #[.val (.int p1), .val (.int p2), .val (.int p3), .val (.int p4), .val (.int p5), .val (.int (0 : Int32)), .val (.int c3), .val (.int c5), .val (.int c7), .val (.int c9), .val (.ref b13), .unset, .unset, .unset, .unset] b
      refine ownW_step (T' := T13) (f' := (F14 43 [])) (fun t k => XS.astore X13.here hx rfl (hb hby at_41) rfl rfl (l' := #[.val (.int p1), .val (.int p2), .val (.int p3), .val (.int p4), .val (.int p5), .val (.int (0 : Int32)), .val (.int c3), .val (.int c5), .val (.int c7), .val (.int c9), .val (.ref b13), .unset, .unset, .unset, .unset]) rfl k) ?_
      refine ownW_step (T' := T13) (f' := (F14 143 [])) (fun t k => XS.goto X13.here hx rfl (pc0 := 43) (pc' := 143) rfl (hb hby at_43) (by decide) (by decide) k) ?_
      obtain ⟨T15, h15, X15, e15, E15, A15, D15, -, st15⟩ := newO X13 hx hZ hown (own_w hw 6 rfl) (own_w hw 7 rfl) (own_w hw 8 rfl) e13 (g := (F14 143 [])) rfl (hb hby at_143) (by decide) (by decide)
      obtain ⟨b15, g15⟩ : ∃ z, z = h13.size := ⟨_, rfl⟩
      rw [← g15] at A15 D15 st15
      have ne_b13_b15 : b13 ≠ b15 := Nat.ne_of_lt (Nat.lt_of_lt_of_le V_b13.lt (Nat.le_of_eq g15.symm))
      have g_b15 : n0 ≤ b15 := Nat.le_trans Zz (Nat.le_of_eq g15.symm)
      have sz_b15 : h0.size ≤ b15 := Nat.le_trans Kp.1 (Nat.le_of_eq g15.symm)
      replace S_CS := S_CS.ext E15
      replace S_SC := S_SC.ext E15
      replace S_U := S_U.ext E15
      replace S_I := S_I.ext E15
      replace V_b13 := V_b13.ext E15
      replace EX_b13 := EX_b13.ext E15
      replace Zz := Nat.le_trans Zz E15.1
      replace Kp := Kp.ext E15
      have E_b15 := A15
      have F_characters_b15 : Fld Z h15 b15 "com/example/lit2/lit2/input/Line" "characters" "[B" .null := D15 (Or.inr (own_w hw 82 rfl)) (ty := (.array .byte)) (by decide)
      have F_start_b15 : Fld Z h15 b15 "com/example/lit2/lit2/input/Line" "start" "I" (.int (0 : Int32)) := D15 (Or.inr (own_w hw 84 rfl)) (ty := .int) (by decide)
      have F_end_b15 : Fld Z h15 b15 "com/example/lit2/lit2/input/Line" "end" "I" (.int (0 : Int32)) := D15 (Or.inr (own_w hw 86 rfl)) (ty := .int) (by decide)
      have F_location_b15 : Fld Z h15 b15 "com/example/lit2/lit2/input/Line" "location" "Lcom/example/lit2/lit2/model/Location;" .null := D15 (Or.inr (own_w hw 88 rfl)) (ty := (.object "com/example/lit2/lit2/model/Location")) (by decide)
      have F_marks_b15 : Fld Z h15 b15 "com/example/lit2/lit2/input/Line" "marks" "I" (.int (0 : Int32)) := D15 (Or.inr (own_w hw 90 rfl)) (ty := .int) (by decide)
      have F_text_b15 : Fld Z h15 b15 "com/example/lit2/lit2/input/Line" "text" "Ljava/lang/String;" .null := D15 (Or.inl (own_w hw 92 rfl)) (ty := (.object "java/lang/String")) (by decide)
      refine ownW_step (T' := T15) (f' := (F14 146 [(.ref b15)])) (fun t k => st15 t k) ?_
      refine ownW_step (T' := T15) (f' := (F14 147 [(.ref b15), (.ref b15)])) (fun t k => XS.dup X15.here hx rfl (hb hby at_146) rfl rfl k) ?_
      obtain ⟨T16, h16, X16, e16, E16, A16, D16, -, st16⟩ := newO X15 hx hZ hown (own_w hw 9 rfl) (own_w hw 10 rfl) (own_w hw 11 rfl) e15 (g := (F14 147 [(.ref b15), (.ref b15)])) rfl (hb hby at_147) (by decide) (by decide)
      obtain ⟨b16, g16⟩ : ∃ z, z = h15.size := ⟨_, rfl⟩
      rw [← g16] at A16 D16 st16
      have ne_b13_b16 : b13 ≠ b16 := Nat.ne_of_lt (Nat.lt_of_lt_of_le V_b13.lt (Nat.le_of_eq g16.symm))
      have ne_b15_b16 : b15 ≠ b16 := Nat.ne_of_lt (Nat.lt_of_lt_of_le E_b15.lt (Nat.le_of_eq g16.symm))
      have g_b16 : n0 ≤ b16 := Nat.le_trans Zz (Nat.le_of_eq g16.symm)
      have sz_b16 : h0.size ≤ b16 := Nat.le_trans Kp.1 (Nat.le_of_eq g16.symm)
      replace S_CS := S_CS.ext E16
      replace S_SC := S_SC.ext E16
      replace S_U := S_U.ext E16
      replace S_I := S_I.ext E16
      replace V_b13 := V_b13.ext E16
      replace EX_b13 := EX_b13.ext E16
      replace E_b15 := E_b15.ext E16
      replace F_characters_b15 := F_characters_b15.ext E16
      replace F_start_b15 := F_start_b15.ext E16
      replace F_end_b15 := F_end_b15.ext E16
      replace F_location_b15 := F_location_b15.ext E16
      replace F_marks_b15 := F_marks_b15.ext E16
      replace F_text_b15 := F_text_b15.ext E16
      replace Zz := Nat.le_trans Zz E16.1
      replace Kp := Kp.ext E16
      have E_b16 := A16
      have F_value_b16 : Fld Z h16 b16 "java/lang/String" "value" "[B" .null := D16 (Or.inr (own_w hw 24 rfl)) (ty := (.array .byte)) (by decide)
      have F_coder_b16 : Fld Z h16 b16 "java/lang/String" "coder" "B" (.int (0 : Int32)) := D16 (Or.inr (own_w hw 25 rfl)) (ty := .byte) (by decide)
      refine ownW_step (T' := T16) (f' := (F14 150 [(.ref b16), (.ref b15), (.ref b15)])) (fun t k => st16 t k) ?_
      refine ownW_step (T' := T16) (f' := (F14 151 [(.ref b16), (.ref b16), (.ref b15), (.ref b15)])) (fun t k => XS.dup X16.here hx rfl (hb hby at_150) rfl rfl k) ?_
      refine ownW_step (T' := T16) (f' := (F14 153 [(.ref b13), (.ref b16), (.ref b16), (.ref b15), (.ref b15)])) (fun t k => XS.aload X16.here hx rfl (hb hby at_151) rfl rfl k) ?_
      have Cr : CHr Z ownEL s.vm h16 s.vm h16 := CHr.refl (own_chv Kp)
      obtain ⟨_, _, ⟨T17, L17, k17, n17⟩, -, X17, hS17, hgr17, ⟨Lc17, hQ17, l17, y17, z17, C17⟩, st17⟩ := X16.specialBackS hx (y := (⟨"java/lang/String", "<init>", "([C)V"⟩ : MethodName)) rfl hown (mvT hZ (own_w hw 12 rfl)) (mvT hZ (own_w hw 13 rfl)) (mvT hZ (own_w hw 14 rfl)) (by decide) (backOfSH (s := s) (vm0 := s.vm) (W := 3) (rm2_0 l Z a0 hw [] b16 b13 h16 n0 Zz E_b16 F_value_b16 F_coder_b16 g_b16 k13 V_b13 hEL) hZ (own_w hw 14 rfl) (own_w hw 11 rfl) (by decide) (by decide) hEL Cr.1) (g := (F14 153 [(.ref b13), (.ref b16), (.ref b16), (.ref b15), (.ref b15)])) rfl (by rw [hml]; rfl) (Steps.refl _) (a := b16) (argsL := [(.ref b13)]) (rest := [(.ref b16), (.ref b15), (.ref b15)]) (lenOf pd_0_1 rfl) rfl (by show 2 * 0 + _ ≤ _; exact Nat.le_of_eq rfl) (hb hby at_153) (fun _ _ => ⟨rfl, e16, (by decide : 3 + 2 ≤ _), (by decide : 10 + 4 ≤ _)⟩)
      dsimp only [Pt.U, Pt.locs, Pt.cells, Pt.slots] at X17 l17 y17 z17 st17 hQ17 hS17 hgr17 C17
      subst l17 y17 z17
      obtain ⟨rfl, N17q, K17, sb17, sk17, SE17, SC17, SV17, SA17, SX17⟩ := hQ17
      have N17 := Fr.app N_11 N17q
      have hZ17 : Z.Warmed39 T17.vm := State.Warmed39.trans hZ hS17.1
      have hown17 : T17.vm.findClass "com/example/lit2/lit2/input/LineBeginsSectionPinLaw" = some m.cls := by rw [hS17.1.alike.findClass]; exact hown
      replace S_CS := own_sta_keep S_CS K17 (allS ⟨_, E_b16⟩ all0)
      replace S_SC := own_sta_keep S_SC K17 (allS ⟨_, E_b16⟩ all0)
      replace S_U := own_sta_keep S_U K17 (allS ⟨_, E_b16⟩ all0)
      replace S_I := own_sta_keep S_I K17 (allS ⟨_, E_b16⟩ all0)
      replace V_b13 := V_b13.keep K17 (ninS ne_b13_b16 nin0)
      replace EX_b13 := EX_b13.keep K17
      replace E_b15 := E_b15.keep K17
      replace F_characters_b15 := F_characters_b15.keep K17 (ninS ne_b15_b16 nin0)
      replace F_start_b15 := F_start_b15.keep K17 (ninS ne_b15_b16 nin0)
      replace F_end_b15 := F_end_b15.keep K17 (ninS ne_b15_b16 nin0)
      replace F_location_b15 := F_location_b15.keep K17 (ninS ne_b15_b16 nin0)
      replace F_marks_b15 := F_marks_b15.keep K17 (ninS ne_b15_b16 nin0)
      replace F_text_b15 := F_text_b15.keep K17 (ninS ne_b15_b16 nin0)
      replace E_b16 := E_b16.keep K17
      replace Zz := Nat.le_trans Zz K17.1
      replace Kp := Kp.trans K17 (allS (Or.inr sz_b16) all0)
      refine ownW_step (T' := T17) (f' := (F14 156 [(.ref b16), (.ref b15), (.ref b15)])) (fun t k => st17.trans k) ?_
      obtain ⟨T18, h18, X18, e18, E18, A18, D18, -, st18⟩ := newO X17 hx hZ17 hown17 (own_w hw 30 rfl) (own_w hw 31 rfl) (own_w hw 32 rfl) rfl (g := (F14 156 [(.ref b16), (.ref b15), (.ref b15)])) rfl (hb hby at_156) (by decide) (by decide)
      obtain ⟨b18, g18⟩ : ∃ z, z = T17.heap.size := ⟨_, rfl⟩
      rw [← g18] at A18 D18 st18
      have ne_b13_b18 : b13 ≠ b18 := Nat.ne_of_lt (Nat.lt_of_lt_of_le V_b13.lt (Nat.le_of_eq g18.symm))
      have ne_b15_b18 : b15 ≠ b18 := Nat.ne_of_lt (Nat.lt_of_lt_of_le E_b15.lt (Nat.le_of_eq g18.symm))
      have ne_b16_b18 : b16 ≠ b18 := Nat.ne_of_lt (Nat.lt_of_lt_of_le E_b16.lt (Nat.le_of_eq g18.symm))
      have ne_sb17_b18 : sb17 ≠ b18 := Nat.ne_of_lt (Nat.lt_of_lt_of_le SA17.lt (Nat.le_of_eq g18.symm))
      have g_b18 : n0 ≤ b18 := Nat.le_trans Zz (Nat.le_of_eq g18.symm)
      have sz_b18 : h0.size ≤ b18 := Nat.le_trans Kp.1 (Nat.le_of_eq g18.symm)
      replace S_CS := S_CS.ext E18
      replace S_SC := S_SC.ext E18
      replace S_U := S_U.ext E18
      replace S_I := S_I.ext E18
      replace V_b13 := V_b13.ext E18
      replace EX_b13 := EX_b13.ext E18
      replace E_b15 := E_b15.ext E18
      replace F_characters_b15 := F_characters_b15.ext E18
      replace F_start_b15 := F_start_b15.ext E18
      replace F_end_b15 := F_end_b15.ext E18
      replace F_location_b15 := F_location_b15.ext E18
      replace F_marks_b15 := F_marks_b15.ext E18
      replace F_text_b15 := F_text_b15.ext E18
      replace E_b16 := E_b16.ext E18
      replace SC17 := SC17.ext E18
      replace SV17 := SV17.ext E18
      replace SA17 := SA17.ext E18
      replace SX17 := SX17.ext E18
      replace Zz := Nat.le_trans Zz E18.1
      replace Kp := Kp.ext E18
      have E_b18 := A18
      have F_file_b18 : Fld Z h18 b18 "com/example/lit2/lit2/model/Location" "file" "Ljava/lang/String;" .null := D18 (Or.inr (own_w hw 39 rfl)) (ty := (.object "java/lang/String")) (by decide)
      have F_line_b18 : Fld Z h18 b18 "com/example/lit2/lit2/model/Location" "line" "I" (.int (0 : Int32)) := D18 (Or.inr (own_w hw 41 rfl)) (ty := .int) (by decide)
      refine ownW_step (T' := T18) (f' := (F14 159 [(.ref b18), (.ref b16), (.ref b15), (.ref b15)])) (fun t k => st18 t k) ?_
      refine ownW_step (T' := T18) (f' := (F14 160 [(.ref b18), (.ref b18), (.ref b16), (.ref b15), (.ref b15)])) (fun t k => XS.dup X18.here hx rfl (hb hby at_159) rfl rfl k) ?_
      obtain ⟨la, T19, h19, k119, X19, e19, E19, hS19, hk19, hZ2, hown2, -, -, st19⟩ := ldcOH (s := s) (vm0 := T17.vm) (Z := Z) (a0 := a0) (EL := ownEL) X18 hx hZ17 hown17 (own_w hw 33 rfl) (fun d hd => by simp only [Bundle.stringAtoms, Bundle.sN, List.mem_cons, List.not_mem_nil, or_false] at hd; rcases hd with rfl | rfl | rfl | rfl | rfl | rfl | rfl <;> first | exact (own_w hw 11 rfl) | exact (own_w hw 10 rfl) | exact (own_w hw 23 rfl) | exact (own_w hw 24 rfl) | exact (own_w hw 25 rfl) | exact (own_w hw 26 rfl) | exact (own_w hw 27 rfl)) e18 hS17 E18.1 hEL (CHv.ext E18 C17.1) (g := (F14 160 [(.ref b18), (.ref b18), (.ref b16), (.ref b15), (.ref b15)])) rfl (hb hby at_160) (n := 4) (by decide) (by decide) (by decide) (by decide)
      replace S_CS := S_CS.ext E19
      replace S_SC := S_SC.ext E19
      replace S_U := S_U.ext E19
      replace S_I := S_I.ext E19
      replace V_b13 := V_b13.ext E19
      replace EX_b13 := EX_b13.ext E19
      replace E_b15 := E_b15.ext E19
      replace F_characters_b15 := F_characters_b15.ext E19
      replace F_start_b15 := F_start_b15.ext E19
      replace F_end_b15 := F_end_b15.ext E19
      replace F_location_b15 := F_location_b15.ext E19
      replace F_marks_b15 := F_marks_b15.ext E19
      replace F_text_b15 := F_text_b15.ext E19
      replace E_b16 := E_b16.ext E19
      replace SC17 := SC17.ext E19
      replace SV17 := SV17.ext E19
      replace SA17 := SA17.ext E19
      replace SX17 := SX17.ext E19
      replace E_b18 := E_b18.ext E19
      replace F_file_b18 := F_file_b18.ext E19
      replace F_line_b18 := F_line_b18.ext E19
      replace Zz := Nat.le_trans Zz E19.1
      replace Kp := Kp.ext E19
      refine ownW_step (T' := T19) (f' := (F14 162 [(.ref la), (.ref b18), (.ref b18), (.ref b16), (.ref b15), (.ref b15)])) (fun t k => st19 t k) ?_
      refine ownW_step (T' := T19) (f' := (F14 163 [(.int (1 : Int32)), (.ref la), (.ref b18), (.ref b18), (.ref b16), (.ref b15), (.ref b15)])) (fun t k => XS.iconst X19.here hx rfl (hb hby at_162) k) ?_
      obtain ⟨_, _, ⟨T20, L20, k20, n20⟩, -, X20, ⟨Lc20, hQ20, l20, y20, z20⟩, st20⟩ := X19.specialBack hx (y := (⟨"com/example/lit2/lit2/model/Location", "<init>", "(Ljava/lang/String;I)V"⟩ : MethodName)) rfl hown2 (mvT hZ2 (own_w hw 34 rfl)) (mvT hZ2 (own_w hw 35 rfl)) (mvT hZ2 (own_w hw 36 rfl)) (by decide) (backOf (W := 4) (rm5 l Z a0 hw [] b18 la h19 n0 Zz E_b18 F_file_b18 F_line_b18 g_b18) hZ2 (own_w hw 36 rfl) (own_w hw 32 rfl) (by decide) (by decide)) (g := (F14 163 [(.int (1 : Int32)), (.ref la), (.ref b18), (.ref b18), (.ref b16), (.ref b15), (.ref b15)])) rfl (by rw [hml]; rfl) (Steps.refl _) (a := b18) (argsL := [(.ref la), (.int (1 : Int32))]) (rest := [(.ref b18), (.ref b16), (.ref b15), (.ref b15)]) (lenOf pd_0_2 rfl) rfl (by show 2 * 0 + _ ≤ _; exact Nat.le_of_eq rfl) (hb hby at_163) (fun _ _ => ⟨rfl, e19, (by decide : 8 + 0 ≤ _), (by decide : 24 + 0 ≤ _)⟩)
      dsimp only [Pt.U, Pt.locs, Pt.cells, Pt.slots] at X20 l20 y20 z20 st20 hQ20
      subst l20 y20 z20
      obtain ⟨rfl, N20q, K20⟩ := hQ20
      have N20 := Fr.app N17 N20q
      replace S_CS := own_sta_keep S_CS K20 (allS ⟨_, E_b18⟩ all0)
      replace S_SC := own_sta_keep S_SC K20 (allS ⟨_, E_b18⟩ all0)
      replace S_U := own_sta_keep S_U K20 (allS ⟨_, E_b18⟩ all0)
      replace S_I := own_sta_keep S_I K20 (allS ⟨_, E_b18⟩ all0)
      replace V_b13 := V_b13.keep K20 (ninS ne_b13_b18 nin0)
      replace EX_b13 := EX_b13.keep K20
      replace E_b15 := E_b15.keep K20
      replace F_characters_b15 := F_characters_b15.keep K20 (ninS ne_b15_b18 nin0)
      replace F_start_b15 := F_start_b15.keep K20 (ninS ne_b15_b18 nin0)
      replace F_end_b15 := F_end_b15.keep K20 (ninS ne_b15_b18 nin0)
      replace F_location_b15 := F_location_b15.keep K20 (ninS ne_b15_b18 nin0)
      replace F_marks_b15 := F_marks_b15.keep K20 (ninS ne_b15_b18 nin0)
      replace F_text_b15 := F_text_b15.keep K20 (ninS ne_b15_b18 nin0)
      replace E_b16 := E_b16.keep K20
      replace SC17 := SC17.keep K20 (ninS ne_b16_b18 nin0)
      replace SV17 := SV17.keep K20 (ninS ne_b16_b18 nin0)
      replace SA17 := SA17.keep K20 (ninS ne_sb17_b18 nin0)
      replace SX17 := SX17.keep K20
      replace E_b18 := E_b18.keep K20
      replace Zz := Nat.le_trans Zz K20.1
      replace Kp := Kp.trans K20 (allS (Or.inr sz_b18) all0)
      have hg20 := Nat.le_trans hk19 K20.1
      refine ownW_step (T' := T20) (f' := (F14 166 [(.ref b18), (.ref b16), (.ref b15), (.ref b15)])) (fun t k => st20.trans k) ?_
      obtain ⟨_, _, ⟨T21, L21, k21, n21⟩, -, X21, ⟨Lc21, hQ21, l21, y21, z21⟩, st21⟩ := X20.specialBack hx (y := (⟨"com/example/lit2/lit2/input/Line", "<init>", "(Ljava/lang/String;Lcom/example/lit2/lit2/model/Location;)V"⟩ : MethodName)) rfl hown2 (mvT hZ2 (own_w hw 42 rfl)) (mvT hZ2 (own_w hw 43 rfl)) (mvT hZ2 (own_w hw 44 rfl)) (by decide) (backOf (W := 1) (rm6 l Z a0 hw [] b15 b16 b18 T20.heap n0 Zz E_b15 F_characters_b15 F_start_b15 F_end_b15 F_location_b15 F_marks_b15 F_text_b15 g_b15 sb17 sk17 (0 : Int32) [] (by decide) ⟨E_b16, SC17, SV17, SA17, SX17⟩ ai S_SC aU S_U S_I neU cs S_CS hcs) hZ2 (own_w hw 44 rfl) (own_w hw 8 rfl) (by decide) (by decide)) (g := (F14 166 [(.ref b18), (.ref b16), (.ref b15), (.ref b15)])) rfl (by rw [hml]; rfl) (Steps.refl _) (a := b15) (argsL := [(.ref b16), (.ref b18)]) (rest := [(.ref b15)]) (lenOf pd_0_3 rfl) rfl (by show 2 * 0 + _ ≤ _; exact Nat.le_of_eq rfl) (hb hby at_166) (fun _ _ => ⟨rfl, rfl, (by decide : 8 + 1 ≤ _), (by decide : 24 + 4 ≤ _)⟩)
      dsimp only [Pt.U, Pt.locs, Pt.cells, Pt.slots] at X21 l21 y21 z21 st21 hQ21
      subst l21 y21 z21
      obtain ⟨rfl, N21q, K21, rb21, rk21, Fs21, Fe21, Fc21, Vr21⟩ := hQ21
      have N21 := Fr.app N20 N21q
      replace S_CS := own_sta_keep S_CS K21 (allS ⟨_, E_b15⟩ all0)
      replace S_SC := own_sta_keep S_SC K21 (allS ⟨_, E_b15⟩ all0)
      replace S_U := own_sta_keep S_U K21 (allS ⟨_, E_b15⟩ all0)
      replace S_I := own_sta_keep S_I K21 (allS ⟨_, E_b15⟩ all0)
      replace V_b13 := V_b13.keep K21 (ninS ne_b13_b15 nin0)
      replace EX_b13 := EX_b13.keep K21
      replace E_b15 := E_b15.keep K21
      replace Zz := Nat.le_trans Zz K21.1
      replace Kp := Kp.trans K21 (allS (Or.inr sz_b15) all0)
      have hg21 := Nat.le_trans hg20 K21.1
      refine ownW_step (T' := T21) (f' := (F14 169 [(.ref b15)])) (fun t k => st21.trans k) ?_
      let F22 : Nat → List Value → JFrame := fun a b => mkF m a #[.val (.int p1), .val (.int p2), .val (.int p3), .val (.int p4), .val (.int p5), .val (.int (0 : Int32)), .val (.int c3), .val (.int c5), .val (.int c7), .val (.int c9), .val (.ref b13), .val (.ref b15), .unset, .unset, .unset] b
      refine ownW_step (T' := T21) (f' := (F22 171 [])) (fun t k => XS.astore X21.here hx rfl (hb hby at_169) rfl rfl (l' := #[.val (.int p1), .val (.int p2), .val (.int p3), .val (.int p4), .val (.int p5), .val (.int (0 : Int32)), .val (.int c3), .val (.int c5), .val (.int c7), .val (.int c9), .val (.ref b13), .val (.ref b15), .unset, .unset, .unset]) rfl k) ?_
      refine ownW_step (T' := T21) (f' := (F22 173 [(.ref b15)])) (fun t k => XS.aload X21.here hx rfl (hb hby at_171) rfl rfl k) ?_
      obtain ⟨cq23, kq23, q23a, q23b, q23c⟩ := isOf hZ2 rfl E_b15
      obtain ⟨_, _, ⟨T23, L23, k23, n23⟩, -, X23, ⟨Lc23, hQ23, l23, y23, z23⟩, st23⟩ := X21.virtualBack hx (y := (⟨"com/example/lit2/lit2/input/Line", "beginsSection", "()Z"⟩ : MethodName)) (z := (⟨"com/example/lit2/lit2/input/Line", "beginsSection", "()Z"⟩ : MethodName)) hown2 (mvT hZ2 (own_w hw 93 rfl)) (mvT hZ2 (own_w hw 94 rfl)) (notFace_of_selects (args := #[]) (mvT hZ2 (own_w hw 96 rfl))) (mvT hZ2 (own_w hw 96 rfl)) (mvT hZ2 (own_w hw 95 rfl)) (by decide) (backOf (W := 0) (rm12_0 l Z a0 hw [] b15 T21.heap n0 Zz  rb21 rk21 Fs21 Fe21 Fc21 Vr21) hZ2 (own_w hw 97 rfl) (own_w hw 8 rfl) (by decide) (by decide)) q23a q23c (g := (F22 173 [(.ref b15)])) rfl (by rw [hml]; rfl) (Steps.refl _) (argsL := []) (rest := []) (lenOf pd_0_4 rfl) rfl (by show 2 * 0 + _ ≤ _; exact Nat.le_of_eq rfl) (hb hby at_173) (fun _ _ => ⟨rfl, rfl, (by decide : 9 + 0 ≤ _), (by decide : 28 + 0 ≤ _)⟩)
      dsimp only [Pt.U, Pt.locs, Pt.cells, Pt.slots] at X23 l23 y23 z23 st23 hQ23
      subst l23 y23 z23
      obtain ⟨rfl, N23q, E23⟩ := hQ23
      have N23 := Fr.app N21 N23q
      refine ownW_step (T' := T23) (f' := (F22 176 [(.int (own_bs []))])) (fun t k => st23.trans k) ?_
      let F24 : Nat → List Value → JFrame := fun a b => mkF m a #[.val (.int p1), .val (.int p2), .val (.int p3), .val (.int p4), .val (.int p5), .val (.int (0 : Int32)), .val (.int c3), .val (.int c5), .val (.int c7), .val (.int c9), .val (.ref b13), .val (.ref b15), .val (.int (own_bs [])), .unset, .unset] b
      refine ownW_step (T' := T23) (f' := (F24 178 [])) (fun t k => XS.istore X23.here hx rfl (hb hby at_176) rfl (l' := #[.val (.int p1), .val (.int p2), .val (.int p3), .val (.int p4), .val (.int p5), .val (.int (0 : Int32)), .val (.int c3), .val (.int c5), .val (.int c7), .val (.int c9), .val (.ref b13), .val (.ref b15), .val (.int (own_bs [])), .unset, .unset]) rfl k) ?_
      refine ownW_step (T' := T23) (f' := (F24 180 [(.int (0 : Int32))])) (fun t k => XS.iload X23.here hx rfl (hb hby at_178) rfl k) ?_
      let F25 : Nat → List Value → JFrame := fun a b => mkF m a #[.val (.int p1), .val (.int p2), .val (.int p3), .val (.int p4), .val (.int p5), .val (.int (0 : Int32)), .val (.int c3), .val (.int c5), .val (.int c7), .val (.int c9), .val (.ref b13), .val (.ref b15), .val (.int (own_bs [])), .val (.int (0 : Int32)), .unset] b
      refine ownW_step (T' := T23) (f' := (F25 182 [])) (fun t k => XS.istore X23.here hx rfl (hb hby at_180) rfl (l' := #[.val (.int p1), .val (.int p2), .val (.int p3), .val (.int p4), .val (.int p5), .val (.int (0 : Int32)), .val (.int c3), .val (.int c5), .val (.int c7), .val (.int c9), .val (.ref b13), .val (.ref b15), .val (.int (own_bs [])), .val (.int (0 : Int32)), .unset]) rfl k) ?_
      refine ownW_step (T' := T23) (f' := (F25 184 [(.int (0 : Int32))])) (fun t k => XS.iload X23.here hx rfl (hb hby at_182) rfl k) ?_
      refine ownW_step (T' := T23) (f' := (F25 185 [(.int (3 : Int32)), (.int (0 : Int32))])) (fun t k => XS.iconst X23.here hx rfl (hb hby at_184) k) ?_
      refine ownW_step (T' := T23) (f' := (F25 199 [])) (fun t k => XS.icmpYes X23.here hx rfl (pc0 := 185) (pc' := 199) rfl (hb hby at_185) rfl (flt (by decide : ¬ ((3 : Int32) < (0 : Int32)))).2.2.2 (by decide) (by decide) k) ?_
      refine ownW_step (T' := T23) (f' := (F25 201 [(.int (0 : Int32))])) (fun t k => XS.iload X23.here hx rfl (hb hby at_199) rfl k) ?_
      refine ownW_step (T' := T23) (f' := (F25 202 [(.int (2 : Int32)), (.int (0 : Int32))])) (fun t k => XS.iconst X23.here hx rfl (hb hby at_201) k) ?_
      refine ownW_step (T' := T23) (f' := (F25 216 [])) (fun t k => XS.icmpYes X23.here hx rfl (pc0 := 202) (pc' := 216) rfl (hb hby at_202) rfl (flt (by decide : ¬ ((2 : Int32) < (0 : Int32)))).2.2.2 (by decide) (by decide) k) ?_
      refine ownW_step (T' := T23) (f' := (F25 218 [(.int (0 : Int32))])) (fun t k => XS.iload X23.here hx rfl (hb hby at_216) rfl k) ?_
      refine ownW_step (T' := T23) (f' := (F25 219 [(.int (1 : Int32)), (.int (0 : Int32))])) (fun t k => XS.iconst X23.here hx rfl (hb hby at_218) k) ?_
      refine ownW_step (T' := T23) (f' := (F25 233 [])) (fun t k => XS.icmpYes X23.here hx rfl (pc0 := 219) (pc' := 233) rfl (hb hby at_219) rfl (flt (by decide : ¬ ((1 : Int32) < (0 : Int32)))).2.2.2 (by decide) (by decide) k) ?_
      refine ownW_step (T' := T23) (f' := (F25 235 [(.int (0 : Int32))])) (fun t k => XS.iload X23.here hx rfl (hb hby at_233) rfl k) ?_
      refine ownW_step (T' := T23) (f' := (F25 249 [])) (fun t k => XS.ifYes X23.here hx rfl (pc0 := 235) (pc' := 249) rfl (hb hby at_235) rfl ((if0 _ _).trans (flt (by decide : ¬ ((0 : Int32) < (0 : Int32)))).2.2.2) (by decide) (by decide) k) ?_
      refine ownW_step (T' := T23) (f' := (F25 251 [(.int (0 : Int32))])) (fun t k => XS.iload X23.here hx rfl (hb hby at_249) rfl k) ?_
      refine ownW_step (T' := T23) (f' := (F25 253 [(.int (0 : Int32)), (.int (0 : Int32))])) (fun t k => XS.iload X23.here hx rfl (hb hby at_251) rfl k) ?_
      refine ownW_step (T' := T23) (f' := (F25 256 [])) (fun t k => XS.icmpNo X23.here hx rfl (hb hby at_253) rfl (flt (by decide : ¬ ((0 : Int32) < (0 : Int32)))).1 k) ?_
      refine ownW_step (T' := T23) (f' := (F25 257 [(.int (0 : Int32))])) (fun t k => XS.iconst X23.here hx rfl (hb hby at_256) k) ?_
      let F26 : Nat → List Value → JFrame := fun a b => mkF m a #[.val (.int p1), .val (.int p2), .val (.int p3), .val (.int p4), .val (.int p5), .val (.int (0 : Int32)), .val (.int c3), .val (.int c5), .val (.int c7), .val (.int c9), .val (.ref b13), .val (.ref b15), .val (.int (own_bs [])), .val (.int (0 : Int32)), .val (.int (0 : Int32))] b
      refine ownW_step (T' := T23) (f' := (F26 259 [])) (fun t k => XS.istore X23.here hx rfl (hb hby at_257) rfl (l' := #[.val (.int p1), .val (.int p2), .val (.int p3), .val (.int p4), .val (.int p5), .val (.int (0 : Int32)), .val (.int c3), .val (.int c5), .val (.int c7), .val (.int c9), .val (.ref b13), .val (.ref b15), .val (.int (own_bs [])), .val (.int (0 : Int32)), .val (.int (0 : Int32))]) rfl k) ?_
      refine ownW_step (T' := T23) (f' := (F26 305 [])) (fun t k => XS.goto X23.here hx rfl (pc0 := 259) (pc' := 305) rfl (hb hby at_259) (by decide) (by decide) k) ?_
      refine ownW_step (T' := T23) (f' := (F26 307 [(.int (own_bs []))])) (fun t k => XS.iload X23.here hx rfl (hb hby at_305) rfl k) ?_
      refine ownW_step (T' := T23) (f' := (F26 309 [(.int (0 : Int32)), (.int (own_bs []))])) (fun t k => XS.iload X23.here hx rfl (hb hby at_307) rfl k) ?_
      refine ownW_step (T' := T23) (f' := (F26 312 [])) (fun t k => XS.icmpNo X23.here hx rfl (hb hby at_309) rfl (teq rfl).2 k) ?_
      refine ownW_step (T' := T23) (f' := (F26 313 [(.int (1 : Int32))])) (fun t k => XS.iconst X23.here hx rfl (hb hby at_312) k) ?_
      refine ownW_step (T' := T23) (f' := (F26 317 [(.int (1 : Int32))])) (fun t k => XS.goto X23.here hx rfl (pc0 := 313) (pc' := 317) rfl (hb hby at_313) (by decide) (by decide) k) ?_
      exact ownW_retN X23 hS19 (by rw [E23]; exact hg21) hx hlk (t := .boolean) Bd.returns (by simp) (hb hby at_317) (by decide) (by decide) ⟨rfl, N23⟩
    · skip
      let F27 : Nat → List Value → JFrame := fun a b => mkF m a #[.val (.int p1), .val (.int p2), .val (.int p3), .val (.int p4), .val (.int p5), .val (.int (1 : Int32)), .val (.int c3), .val (.int c5), .val (.int c7), .val (.int c9), .unset, .unset, .unset, .unset, .unset] b
      refine ownW_step (T' := T_11) (f' := (F27 35 [(.int (1 : Int32))])) (fun t k => XS.iload X_11.here hx rfl (hb hby at_33) rfl k) ?_
      refine ownW_step (T' := T_11) (f' := (F27 46 [])) (fun t k => XS.ifYes X_11.here hx rfl (pc0 := 35) (pc' := 46) rfl (hb hby at_35) rfl ((if0 _ _).trans (feq (by decide : ¬ ((1 : Int32) = (0 : Int32)))).2) (by decide) (by decide) k) ?_
      refine ownW_step (T' := T_11) (f' := (F27 48 [(.int (1 : Int32))])) (fun t k => XS.iload X_11.here hx rfl (hb hby at_46) rfl k) ?_
      refine ownW_step (T' := T_11) (f' := (F27 49 [(.int (1 : Int32)), (.int (1 : Int32))])) (fun t k => XS.iconst X_11.here hx rfl (hb hby at_48) k) ?_
      refine ownW_step (T' := T_11) (f' := (F27 52 [])) (fun t k => XS.icmpNo X_11.here hx rfl (hb hby at_49) rfl (teq (by decide : (1 : Int32) = (1 : Int32))).2 k) ?_
      refine ownW_step (T' := T_11) (f' := (F27 53 [(.int (1 : Int32))])) (fun t k => XS.iconst X_11.here hx rfl (hb hby at_52) k) ?_
      obtain ⟨T28, h28, k28, X28, e28, E28, A28, EX28, st28⟩ := newPE X_11 hx hZ (own_w hw 5 rfl) e_11 (g := (F27 53 [(.int (1 : Int32))])) rfl (hb hby at_53) rfl (by decide) (cap := 1) (by decide) (by decide) (by decide) (by decide) (ad := "[C") rfl
      obtain ⟨b28, g28⟩ : ∃ z, z = h0.size := ⟨_, rfl⟩
      rw [← g28] at A28 EX28 st28
      have g_b28 : n0 ≤ b28 := Nat.le_trans Zz (Nat.le_of_eq g28.symm)
      have sz_b28 : h0.size ≤ b28 := Nat.le_trans Kp.1 (Nat.le_of_eq g28.symm)
      replace S_CS := S_CS.ext E28
      replace S_SC := S_SC.ext E28
      replace S_U := S_U.ext E28
      replace S_I := S_I.ext E28
      replace Zz := Nat.le_trans Zz E28.1
      replace Kp := Kp.ext E28
      have V_b28 : Arv Z h28 b28 k28 .char (1 : Int32) [(.int (0 : Int32))] (.int (0 : Int32)) := (Arv.new A28 (by decide)).pad (pad_rep [] (.int (0 : Int32)) 1)
      have EX_b28 := EX28
      refine ownW_step (T' := T28) (f' := (F27 55 [(.ref b28)])) (fun t k => st28 t k) ?_
      refine ownW_step (T' := T28) (f' := (F27 56 [(.ref b28), (.ref b28)])) (fun t k => XS.dup X28.here hx rfl (hb hby at_55) rfl rfl k) ?_
      refine ownW_step (T' := T28) (f' := (F27 57 [(.int (0 : Int32)), (.ref b28), (.ref b28)])) (fun t k => XS.iconst X28.here hx rfl (hb hby at_56) k) ?_
      refine ownW_step (T' := T28) (f' := (F27 59 [(.int c3), (.int (0 : Int32)), (.ref b28), (.ref b28)])) (fun t k => XS.iload X28.here hx rfl (hb hby at_57) rfl k) ?_
      obtain ⟨cl29, Ar29, q29, S29, M29, H29, G29⟩ := V_b28
      have hin29 : ¬ ((0 : Int32) < 0 ∨ cl29.slots.size ≤ ((0 : Int32)).toNatClampNeg) := inb_of S29 ⟨by decide, by decide⟩
      obtain ⟨T29, h29, X29, e29, W29, st29⟩ := stC X28 hx hZ e28 Ar29 (j := (0 : Int32)) hin29 (g := (F27 59 [(.int c3), (.int (0 : Int32)), (.ref b28), (.ref b28)])) rfl rfl (hb hby at_59)
      have V_b28 : Arv Z h29 b28 k28 .char (1 : Int32) [(.int c3)] (.int (0 : Int32)) := by have q := Arv.set Ar29 q29 S29 M29 H29 G29 (fits_nar_char _) W29 0 rfl (Nat.le_of_ble_eq_true rfl); rw [own_nc hC3] at q; exact q
      replace S_CS := S_CS.wr W29
      replace S_SC := S_SC.wr W29
      replace S_U := S_U.wr W29
      replace S_I := S_I.wr W29
      replace EX_b28 := EX_b28.wr W29
      replace Zz := Nat.le_trans Zz (Keep.of_wr W29).1
      replace Kp := Kp.wr W29 (Or.inr sz_b28)
      have N29 := Fr.snoc X29 N_11 g_b28
      refine ownW_step (T' := T29) (f' := (F27 60 [(.ref b28)])) (fun t k => st29 t k) ?_
      let F30 : Nat → List Value → JFrame := fun a b => mkF m a #[.val (.int p1), .val (.int p2), .val (.int p3), .val (.int p4), .val (.int p5), .val (.int (1 : Int32)), .val (.int c3), .val (.int c5), .val (.int c7), .val (.int c9), .val (.ref b28), .unset, .unset, .unset, .unset] b
      refine ownW_step (T' := T29) (f' := (F30 62 [])) (fun t k => XS.astore X29.here hx rfl (hb hby at_60) rfl rfl (l' := #[.val (.int p1), .val (.int p2), .val (.int p3), .val (.int p4), .val (.int p5), .val (.int (1 : Int32)), .val (.int c3), .val (.int c5), .val (.int c7), .val (.int c9), .val (.ref b28), .unset, .unset, .unset, .unset]) rfl k) ?_
      refine ownW_step (T' := T29) (f' := (F30 143 [])) (fun t k => XS.goto X29.here hx rfl (pc0 := 62) (pc' := 143) rfl (hb hby at_62) (by decide) (by decide) k) ?_
      obtain ⟨T31, h31, X31, e31, E31, A31, D31, -, st31⟩ := newO X29 hx hZ hown (own_w hw 6 rfl) (own_w hw 7 rfl) (own_w hw 8 rfl) e29 (g := (F30 143 [])) rfl (hb hby at_143) (by decide) (by decide)
      obtain ⟨b31, g31⟩ : ∃ z, z = h29.size := ⟨_, rfl⟩
      rw [← g31] at A31 D31 st31
      have ne_b28_b31 : b28 ≠ b31 := Nat.ne_of_lt (Nat.lt_of_lt_of_le V_b28.lt (Nat.le_of_eq g31.symm))
      have g_b31 : n0 ≤ b31 := Nat.le_trans Zz (Nat.le_of_eq g31.symm)
      have sz_b31 : h0.size ≤ b31 := Nat.le_trans Kp.1 (Nat.le_of_eq g31.symm)
      replace S_CS := S_CS.ext E31
      replace S_SC := S_SC.ext E31
      replace S_U := S_U.ext E31
      replace S_I := S_I.ext E31
      replace V_b28 := V_b28.ext E31
      replace EX_b28 := EX_b28.ext E31
      replace Zz := Nat.le_trans Zz E31.1
      replace Kp := Kp.ext E31
      have E_b31 := A31
      have F_characters_b31 : Fld Z h31 b31 "com/example/lit2/lit2/input/Line" "characters" "[B" .null := D31 (Or.inr (own_w hw 82 rfl)) (ty := (.array .byte)) (by decide)
      have F_start_b31 : Fld Z h31 b31 "com/example/lit2/lit2/input/Line" "start" "I" (.int (0 : Int32)) := D31 (Or.inr (own_w hw 84 rfl)) (ty := .int) (by decide)
      have F_end_b31 : Fld Z h31 b31 "com/example/lit2/lit2/input/Line" "end" "I" (.int (0 : Int32)) := D31 (Or.inr (own_w hw 86 rfl)) (ty := .int) (by decide)
      have F_location_b31 : Fld Z h31 b31 "com/example/lit2/lit2/input/Line" "location" "Lcom/example/lit2/lit2/model/Location;" .null := D31 (Or.inr (own_w hw 88 rfl)) (ty := (.object "com/example/lit2/lit2/model/Location")) (by decide)
      have F_marks_b31 : Fld Z h31 b31 "com/example/lit2/lit2/input/Line" "marks" "I" (.int (0 : Int32)) := D31 (Or.inr (own_w hw 90 rfl)) (ty := .int) (by decide)
      have F_text_b31 : Fld Z h31 b31 "com/example/lit2/lit2/input/Line" "text" "Ljava/lang/String;" .null := D31 (Or.inl (own_w hw 92 rfl)) (ty := (.object "java/lang/String")) (by decide)
      refine ownW_step (T' := T31) (f' := (F30 146 [(.ref b31)])) (fun t k => st31 t k) ?_
      refine ownW_step (T' := T31) (f' := (F30 147 [(.ref b31), (.ref b31)])) (fun t k => XS.dup X31.here hx rfl (hb hby at_146) rfl rfl k) ?_
      obtain ⟨T32, h32, X32, e32, E32, A32, D32, -, st32⟩ := newO X31 hx hZ hown (own_w hw 9 rfl) (own_w hw 10 rfl) (own_w hw 11 rfl) e31 (g := (F30 147 [(.ref b31), (.ref b31)])) rfl (hb hby at_147) (by decide) (by decide)
      obtain ⟨b32, g32⟩ : ∃ z, z = h31.size := ⟨_, rfl⟩
      rw [← g32] at A32 D32 st32
      have ne_b28_b32 : b28 ≠ b32 := Nat.ne_of_lt (Nat.lt_of_lt_of_le V_b28.lt (Nat.le_of_eq g32.symm))
      have ne_b31_b32 : b31 ≠ b32 := Nat.ne_of_lt (Nat.lt_of_lt_of_le E_b31.lt (Nat.le_of_eq g32.symm))
      have g_b32 : n0 ≤ b32 := Nat.le_trans Zz (Nat.le_of_eq g32.symm)
      have sz_b32 : h0.size ≤ b32 := Nat.le_trans Kp.1 (Nat.le_of_eq g32.symm)
      replace S_CS := S_CS.ext E32
      replace S_SC := S_SC.ext E32
      replace S_U := S_U.ext E32
      replace S_I := S_I.ext E32
      replace V_b28 := V_b28.ext E32
      replace EX_b28 := EX_b28.ext E32
      replace E_b31 := E_b31.ext E32
      replace F_characters_b31 := F_characters_b31.ext E32
      replace F_start_b31 := F_start_b31.ext E32
      replace F_end_b31 := F_end_b31.ext E32
      replace F_location_b31 := F_location_b31.ext E32
      replace F_marks_b31 := F_marks_b31.ext E32
      replace F_text_b31 := F_text_b31.ext E32
      replace Zz := Nat.le_trans Zz E32.1
      replace Kp := Kp.ext E32
      have E_b32 := A32
      have F_value_b32 : Fld Z h32 b32 "java/lang/String" "value" "[B" .null := D32 (Or.inr (own_w hw 24 rfl)) (ty := (.array .byte)) (by decide)
      have F_coder_b32 : Fld Z h32 b32 "java/lang/String" "coder" "B" (.int (0 : Int32)) := D32 (Or.inr (own_w hw 25 rfl)) (ty := .byte) (by decide)
      refine ownW_step (T' := T32) (f' := (F30 150 [(.ref b32), (.ref b31), (.ref b31)])) (fun t k => st32 t k) ?_
      refine ownW_step (T' := T32) (f' := (F30 151 [(.ref b32), (.ref b32), (.ref b31), (.ref b31)])) (fun t k => XS.dup X32.here hx rfl (hb hby at_150) rfl rfl k) ?_
      refine ownW_step (T' := T32) (f' := (F30 153 [(.ref b28), (.ref b32), (.ref b32), (.ref b31), (.ref b31)])) (fun t k => XS.aload X32.here hx rfl (hb hby at_151) rfl rfl k) ?_
      obtain ⟨_, _, ⟨T33, L33, k33, n33⟩, -, X33, ⟨Lc33, hQ33, l33, y33, z33⟩, st33⟩ := X32.specialBack hx (y := (⟨"java/lang/String", "<init>", "([C)V"⟩ : MethodName)) rfl hown (mvT hZ (own_w hw 12 rfl)) (mvT hZ (own_w hw 13 rfl)) (mvT hZ (own_w hw 14 rfl)) (by decide) (backOf (W := 3) (rm2_1 l Z a0 hw [] b32 b28 h32 n0 Zz E_b32 F_value_b32 F_coder_b32 g_b32 k28 c3 hC3 V_b28 cs S_CS hcs (Ne.symm ne_b28_b32)) hZ (own_w hw 14 rfl) (own_w hw 11 rfl) (by decide) (by decide)) (g := (F30 153 [(.ref b28), (.ref b32), (.ref b32), (.ref b31), (.ref b31)])) rfl (by rw [hml]; rfl) (Steps.refl _) (a := b32) (argsL := [(.ref b28)]) (rest := [(.ref b32), (.ref b31), (.ref b31)]) (lenOf pd_0_1 rfl) rfl (by show 2 * 0 + _ ≤ _; exact Nat.le_of_eq rfl) (hb hby at_153) (fun _ _ => ⟨rfl, e32, (by decide : 3 + 1 ≤ _), (by decide : 11 + 1 ≤ _)⟩)
      dsimp only [Pt.U, Pt.locs, Pt.cells, Pt.slots] at X33 l33 y33 z33 st33 hQ33
      subst l33 y33 z33
      obtain ⟨rfl, N33q, K33, sb33, sk33, SE33, SC33, SV33, SA33, SX33⟩ := hQ33
      have N33 := Fr.app N29 N33q
      replace S_CS := own_sta_keep S_CS K33 (allS ⟨_, E_b32⟩ all0)
      replace S_SC := own_sta_keep S_SC K33 (allS ⟨_, E_b32⟩ all0)
      replace S_U := own_sta_keep S_U K33 (allS ⟨_, E_b32⟩ all0)
      replace S_I := own_sta_keep S_I K33 (allS ⟨_, E_b32⟩ all0)
      replace V_b28 := V_b28.keep K33 (ninS ne_b28_b32 nin0)
      replace EX_b28 := EX_b28.keep K33
      replace E_b31 := E_b31.keep K33
      replace F_characters_b31 := F_characters_b31.keep K33 (ninS ne_b31_b32 nin0)
      replace F_start_b31 := F_start_b31.keep K33 (ninS ne_b31_b32 nin0)
      replace F_end_b31 := F_end_b31.keep K33 (ninS ne_b31_b32 nin0)
      replace F_location_b31 := F_location_b31.keep K33 (ninS ne_b31_b32 nin0)
      replace F_marks_b31 := F_marks_b31.keep K33 (ninS ne_b31_b32 nin0)
      replace F_text_b31 := F_text_b31.keep K33 (ninS ne_b31_b32 nin0)
      replace E_b32 := E_b32.keep K33
      replace Zz := Nat.le_trans Zz K33.1
      replace Kp := Kp.trans K33 (allS (Or.inr sz_b32) all0)
      refine ownW_step (T' := T33) (f' := (F30 156 [(.ref b32), (.ref b31), (.ref b31)])) (fun t k => st33.trans k) ?_
      obtain ⟨T34, h34, X34, e34, E34, A34, D34, -, st34⟩ := newO X33 hx hZ hown (own_w hw 30 rfl) (own_w hw 31 rfl) (own_w hw 32 rfl) rfl (g := (F30 156 [(.ref b32), (.ref b31), (.ref b31)])) rfl (hb hby at_156) (by decide) (by decide)
      obtain ⟨b34, g34⟩ : ∃ z, z = T33.heap.size := ⟨_, rfl⟩
      rw [← g34] at A34 D34 st34
      have ne_b28_b34 : b28 ≠ b34 := Nat.ne_of_lt (Nat.lt_of_lt_of_le V_b28.lt (Nat.le_of_eq g34.symm))
      have ne_b31_b34 : b31 ≠ b34 := Nat.ne_of_lt (Nat.lt_of_lt_of_le E_b31.lt (Nat.le_of_eq g34.symm))
      have ne_b32_b34 : b32 ≠ b34 := Nat.ne_of_lt (Nat.lt_of_lt_of_le E_b32.lt (Nat.le_of_eq g34.symm))
      have ne_sb33_b34 : sb33 ≠ b34 := Nat.ne_of_lt (Nat.lt_of_lt_of_le SA33.lt (Nat.le_of_eq g34.symm))
      have g_b34 : n0 ≤ b34 := Nat.le_trans Zz (Nat.le_of_eq g34.symm)
      have sz_b34 : h0.size ≤ b34 := Nat.le_trans Kp.1 (Nat.le_of_eq g34.symm)
      replace S_CS := S_CS.ext E34
      replace S_SC := S_SC.ext E34
      replace S_U := S_U.ext E34
      replace S_I := S_I.ext E34
      replace V_b28 := V_b28.ext E34
      replace EX_b28 := EX_b28.ext E34
      replace E_b31 := E_b31.ext E34
      replace F_characters_b31 := F_characters_b31.ext E34
      replace F_start_b31 := F_start_b31.ext E34
      replace F_end_b31 := F_end_b31.ext E34
      replace F_location_b31 := F_location_b31.ext E34
      replace F_marks_b31 := F_marks_b31.ext E34
      replace F_text_b31 := F_text_b31.ext E34
      replace E_b32 := E_b32.ext E34
      replace SC33 := SC33.ext E34
      replace SV33 := SV33.ext E34
      replace SA33 := SA33.ext E34
      replace SX33 := SX33.ext E34
      replace Zz := Nat.le_trans Zz E34.1
      replace Kp := Kp.ext E34
      have E_b34 := A34
      have F_file_b34 : Fld Z h34 b34 "com/example/lit2/lit2/model/Location" "file" "Ljava/lang/String;" .null := D34 (Or.inr (own_w hw 39 rfl)) (ty := (.object "java/lang/String")) (by decide)
      have F_line_b34 : Fld Z h34 b34 "com/example/lit2/lit2/model/Location" "line" "I" (.int (0 : Int32)) := D34 (Or.inr (own_w hw 41 rfl)) (ty := .int) (by decide)
      refine ownW_step (T' := T34) (f' := (F30 159 [(.ref b34), (.ref b32), (.ref b31), (.ref b31)])) (fun t k => st34 t k) ?_
      refine ownW_step (T' := T34) (f' := (F30 160 [(.ref b34), (.ref b34), (.ref b32), (.ref b31), (.ref b31)])) (fun t k => XS.dup X34.here hx rfl (hb hby at_159) rfl rfl k) ?_
      obtain ⟨la, T35, h35, k135, X35, e35, E35, hS35, hk35, hZ2, hown2, -, -, st35⟩ := ldcOH (s := s) (vm0 := s.vm) (Z := Z) (a0 := a0) (EL := ownEL) X34 hx hZ hown (own_w hw 33 rfl) (fun d hd => by simp only [Bundle.stringAtoms, Bundle.sN, List.mem_cons, List.not_mem_nil, or_false] at hd; rcases hd with rfl | rfl | rfl | rfl | rfl | rfl | rfl <;> first | exact (own_w hw 11 rfl) | exact (own_w hw 10 rfl) | exact (own_w hw 23 rfl) | exact (own_w hw 24 rfl) | exact (own_w hw 25 rfl) | exact (own_w hw 26 rfl) | exact (own_w hw 27 rfl)) e34 ((State.WarmedH.refl s).since h34.size) (Nat.le_refl _) hEL (own_chv Kp) (g := (F30 160 [(.ref b34), (.ref b34), (.ref b32), (.ref b31), (.ref b31)])) rfl (hb hby at_160) (n := 4) (by decide) (by decide) (by decide) (by decide)
      replace S_CS := S_CS.ext E35
      replace S_SC := S_SC.ext E35
      replace S_U := S_U.ext E35
      replace S_I := S_I.ext E35
      replace V_b28 := V_b28.ext E35
      replace EX_b28 := EX_b28.ext E35
      replace E_b31 := E_b31.ext E35
      replace F_characters_b31 := F_characters_b31.ext E35
      replace F_start_b31 := F_start_b31.ext E35
      replace F_end_b31 := F_end_b31.ext E35
      replace F_location_b31 := F_location_b31.ext E35
      replace F_marks_b31 := F_marks_b31.ext E35
      replace F_text_b31 := F_text_b31.ext E35
      replace E_b32 := E_b32.ext E35
      replace SC33 := SC33.ext E35
      replace SV33 := SV33.ext E35
      replace SA33 := SA33.ext E35
      replace SX33 := SX33.ext E35
      replace E_b34 := E_b34.ext E35
      replace F_file_b34 := F_file_b34.ext E35
      replace F_line_b34 := F_line_b34.ext E35
      replace Zz := Nat.le_trans Zz E35.1
      replace Kp := Kp.ext E35
      refine ownW_step (T' := T35) (f' := (F30 162 [(.ref la), (.ref b34), (.ref b34), (.ref b32), (.ref b31), (.ref b31)])) (fun t k => st35 t k) ?_
      refine ownW_step (T' := T35) (f' := (F30 163 [(.int (1 : Int32)), (.ref la), (.ref b34), (.ref b34), (.ref b32), (.ref b31), (.ref b31)])) (fun t k => XS.iconst X35.here hx rfl (hb hby at_162) k) ?_
      obtain ⟨_, _, ⟨T36, L36, k36, n36⟩, -, X36, ⟨Lc36, hQ36, l36, y36, z36⟩, st36⟩ := X35.specialBack hx (y := (⟨"com/example/lit2/lit2/model/Location", "<init>", "(Ljava/lang/String;I)V"⟩ : MethodName)) rfl hown2 (mvT hZ2 (own_w hw 34 rfl)) (mvT hZ2 (own_w hw 35 rfl)) (mvT hZ2 (own_w hw 36 rfl)) (by decide) (backOf (W := 4) (rm5 l Z a0 hw [] b34 la h35 n0 Zz E_b34 F_file_b34 F_line_b34 g_b34) hZ2 (own_w hw 36 rfl) (own_w hw 32 rfl) (by decide) (by decide)) (g := (F30 163 [(.int (1 : Int32)), (.ref la), (.ref b34), (.ref b34), (.ref b32), (.ref b31), (.ref b31)])) rfl (by rw [hml]; rfl) (Steps.refl _) (a := b34) (argsL := [(.ref la), (.int (1 : Int32))]) (rest := [(.ref b34), (.ref b32), (.ref b31), (.ref b31)]) (lenOf pd_0_2 rfl) rfl (by show 2 * 0 + _ ≤ _; exact Nat.le_of_eq rfl) (hb hby at_163) (fun _ _ => ⟨rfl, e35, (by decide : 7 + 0 ≤ _), (by decide : 22 + 0 ≤ _)⟩)
      dsimp only [Pt.U, Pt.locs, Pt.cells, Pt.slots] at X36 l36 y36 z36 st36 hQ36
      subst l36 y36 z36
      obtain ⟨rfl, N36q, K36⟩ := hQ36
      have N36 := Fr.app N33 N36q
      replace S_CS := own_sta_keep S_CS K36 (allS ⟨_, E_b34⟩ all0)
      replace S_SC := own_sta_keep S_SC K36 (allS ⟨_, E_b34⟩ all0)
      replace S_U := own_sta_keep S_U K36 (allS ⟨_, E_b34⟩ all0)
      replace S_I := own_sta_keep S_I K36 (allS ⟨_, E_b34⟩ all0)
      replace V_b28 := V_b28.keep K36 (ninS ne_b28_b34 nin0)
      replace EX_b28 := EX_b28.keep K36
      replace E_b31 := E_b31.keep K36
      replace F_characters_b31 := F_characters_b31.keep K36 (ninS ne_b31_b34 nin0)
      replace F_start_b31 := F_start_b31.keep K36 (ninS ne_b31_b34 nin0)
      replace F_end_b31 := F_end_b31.keep K36 (ninS ne_b31_b34 nin0)
      replace F_location_b31 := F_location_b31.keep K36 (ninS ne_b31_b34 nin0)
      replace F_marks_b31 := F_marks_b31.keep K36 (ninS ne_b31_b34 nin0)
      replace F_text_b31 := F_text_b31.keep K36 (ninS ne_b31_b34 nin0)
      replace E_b32 := E_b32.keep K36
      replace SC33 := SC33.keep K36 (ninS ne_b32_b34 nin0)
      replace SV33 := SV33.keep K36 (ninS ne_b32_b34 nin0)
      replace SA33 := SA33.keep K36 (ninS ne_sb33_b34 nin0)
      replace SX33 := SX33.keep K36
      replace E_b34 := E_b34.keep K36
      replace Zz := Nat.le_trans Zz K36.1
      replace Kp := Kp.trans K36 (allS (Or.inr sz_b34) all0)
      have hg36 := Nat.le_trans hk35 K36.1
      refine ownW_step (T' := T36) (f' := (F30 166 [(.ref b34), (.ref b32), (.ref b31), (.ref b31)])) (fun t k => st36.trans k) ?_
      obtain ⟨_, _, ⟨T37, L37, k37, n37⟩, -, X37, ⟨Lc37, hQ37, l37, y37, z37⟩, st37⟩ := X36.specialBack hx (y := (⟨"com/example/lit2/lit2/input/Line", "<init>", "(Ljava/lang/String;Lcom/example/lit2/lit2/model/Location;)V"⟩ : MethodName)) rfl hown2 (mvT hZ2 (own_w hw 42 rfl)) (mvT hZ2 (own_w hw 43 rfl)) (mvT hZ2 (own_w hw 44 rfl)) (by decide) (backOf (W := 1) (rm6 l Z a0 hw [] b31 b32 b34 T36.heap n0 Zz E_b31 F_characters_b31 F_start_b31 F_end_b31 F_location_b31 F_marks_b31 F_text_b31 g_b31 sb33 sk33 (1 : Int32) [(.int (own_sb c3))] (by decide) ⟨E_b32, SC33, SV33, SA33, SX33⟩ ai S_SC aU S_U S_I neU cs S_CS hcs) hZ2 (own_w hw 44 rfl) (own_w hw 8 rfl) (by decide) (by decide)) (g := (F30 166 [(.ref b34), (.ref b32), (.ref b31), (.ref b31)])) rfl (by rw [hml]; rfl) (Steps.refl _) (a := b31) (argsL := [(.ref b32), (.ref b34)]) (rest := [(.ref b31)]) (lenOf pd_0_3 rfl) rfl (by show 2 * 0 + _ ≤ _; exact Nat.le_of_eq rfl) (hb hby at_166) (fun _ _ => ⟨rfl, rfl, (by decide : 7 + 1 ≤ _), (by decide : 22 + 4 ≤ _)⟩)
      dsimp only [Pt.U, Pt.locs, Pt.cells, Pt.slots] at X37 l37 y37 z37 st37 hQ37
      subst l37 y37 z37
      obtain ⟨rfl, N37q, K37, rb37, rk37, Fs37, Fe37, Fc37, Vr37⟩ := hQ37
      have N37 := Fr.app N36 N37q
      replace S_CS := own_sta_keep S_CS K37 (allS ⟨_, E_b31⟩ all0)
      replace S_SC := own_sta_keep S_SC K37 (allS ⟨_, E_b31⟩ all0)
      replace S_U := own_sta_keep S_U K37 (allS ⟨_, E_b31⟩ all0)
      replace S_I := own_sta_keep S_I K37 (allS ⟨_, E_b31⟩ all0)
      replace V_b28 := V_b28.keep K37 (ninS ne_b28_b31 nin0)
      replace EX_b28 := EX_b28.keep K37
      replace E_b31 := E_b31.keep K37
      replace Zz := Nat.le_trans Zz K37.1
      replace Kp := Kp.trans K37 (allS (Or.inr sz_b31) all0)
      have hg37 := Nat.le_trans hg36 K37.1
      refine ownW_step (T' := T37) (f' := (F30 169 [(.ref b31)])) (fun t k => st37.trans k) ?_
      let F38 : Nat → List Value → JFrame := fun a b => mkF m a #[.val (.int p1), .val (.int p2), .val (.int p3), .val (.int p4), .val (.int p5), .val (.int (1 : Int32)), .val (.int c3), .val (.int c5), .val (.int c7), .val (.int c9), .val (.ref b28), .val (.ref b31), .unset, .unset, .unset] b
      refine ownW_step (T' := T37) (f' := (F38 171 [])) (fun t k => XS.astore X37.here hx rfl (hb hby at_169) rfl rfl (l' := #[.val (.int p1), .val (.int p2), .val (.int p3), .val (.int p4), .val (.int p5), .val (.int (1 : Int32)), .val (.int c3), .val (.int c5), .val (.int c7), .val (.int c9), .val (.ref b28), .val (.ref b31), .unset, .unset, .unset]) rfl k) ?_
      refine ownW_step (T' := T37) (f' := (F38 173 [(.ref b31)])) (fun t k => XS.aload X37.here hx rfl (hb hby at_171) rfl rfl k) ?_
      obtain ⟨cq39, kq39, q39a, q39b, q39c⟩ := isOf hZ2 rfl E_b31
      obtain ⟨_, _, ⟨T39, L39, k39, n39⟩, -, X39, ⟨Lc39, hQ39, l39, y39, z39⟩, st39⟩ := X37.virtualBack hx (y := (⟨"com/example/lit2/lit2/input/Line", "beginsSection", "()Z"⟩ : MethodName)) (z := (⟨"com/example/lit2/lit2/input/Line", "beginsSection", "()Z"⟩ : MethodName)) hown2 (mvT hZ2 (own_w hw 93 rfl)) (mvT hZ2 (own_w hw 94 rfl)) (notFace_of_selects (args := #[]) (mvT hZ2 (own_w hw 96 rfl))) (mvT hZ2 (own_w hw 96 rfl)) (mvT hZ2 (own_w hw 95 rfl)) (by decide) (backOf (W := 0) (rm12_1 l Z a0 hw [] b31 T37.heap n0 Zz (own_sb c3) rb37 rk37 Fs37 Fe37 Fc37 Vr37) hZ2 (own_w hw 97 rfl) (own_w hw 8 rfl) (by decide) (by decide)) q39a q39c (g := (F38 173 [(.ref b31)])) rfl (by rw [hml]; rfl) (Steps.refl _) (argsL := []) (rest := []) (lenOf pd_0_4 rfl) rfl (by show 2 * 0 + _ ≤ _; exact Nat.le_of_eq rfl) (hb hby at_173) (fun _ _ => ⟨rfl, rfl, (by decide : 8 + 0 ≤ _), (by decide : 26 + 0 ≤ _)⟩)
      dsimp only [Pt.U, Pt.locs, Pt.cells, Pt.slots] at X39 l39 y39 z39 st39 hQ39
      subst l39 y39 z39
      obtain ⟨rfl, N39q, E39⟩ := hQ39
      have N39 := Fr.app N37 N39q
      refine ownW_step (T' := T39) (f' := (F38 176 [(.int (own_bs [(own_sb c3)]))])) (fun t k => st39.trans k) ?_
      let F40 : Nat → List Value → JFrame := fun a b => mkF m a #[.val (.int p1), .val (.int p2), .val (.int p3), .val (.int p4), .val (.int p5), .val (.int (1 : Int32)), .val (.int c3), .val (.int c5), .val (.int c7), .val (.int c9), .val (.ref b28), .val (.ref b31), .val (.int (own_bs [(own_sb c3)])), .unset, .unset] b
      refine ownW_step (T' := T39) (f' := (F40 178 [])) (fun t k => XS.istore X39.here hx rfl (hb hby at_176) rfl (l' := #[.val (.int p1), .val (.int p2), .val (.int p3), .val (.int p4), .val (.int p5), .val (.int (1 : Int32)), .val (.int c3), .val (.int c5), .val (.int c7), .val (.int c9), .val (.ref b28), .val (.ref b31), .val (.int (own_bs [(own_sb c3)])), .unset, .unset]) rfl k) ?_
      refine ownW_step (T' := T39) (f' := (F40 180 [(.int (1 : Int32))])) (fun t k => XS.iload X39.here hx rfl (hb hby at_178) rfl k) ?_
      let F41 : Nat → List Value → JFrame := fun a b => mkF m a #[.val (.int p1), .val (.int p2), .val (.int p3), .val (.int p4), .val (.int p5), .val (.int (1 : Int32)), .val (.int c3), .val (.int c5), .val (.int c7), .val (.int c9), .val (.ref b28), .val (.ref b31), .val (.int (own_bs [(own_sb c3)])), .val (.int (1 : Int32)), .unset] b
      refine ownW_step (T' := T39) (f' := (F41 182 [])) (fun t k => XS.istore X39.here hx rfl (hb hby at_180) rfl (l' := #[.val (.int p1), .val (.int p2), .val (.int p3), .val (.int p4), .val (.int p5), .val (.int (1 : Int32)), .val (.int c3), .val (.int c5), .val (.int c7), .val (.int c9), .val (.ref b28), .val (.ref b31), .val (.int (own_bs [(own_sb c3)])), .val (.int (1 : Int32)), .unset]) rfl k) ?_
      refine ownW_step (T' := T39) (f' := (F41 184 [(.int (1 : Int32))])) (fun t k => XS.iload X39.here hx rfl (hb hby at_182) rfl k) ?_
      refine ownW_step (T' := T39) (f' := (F41 185 [(.int (3 : Int32)), (.int (1 : Int32))])) (fun t k => XS.iconst X39.here hx rfl (hb hby at_184) k) ?_
      refine ownW_step (T' := T39) (f' := (F41 199 [])) (fun t k => XS.icmpYes X39.here hx rfl (pc0 := 185) (pc' := 199) rfl (hb hby at_185) rfl (flt (by decide : ¬ ((3 : Int32) < (1 : Int32)))).2.2.2 (by decide) (by decide) k) ?_
      refine ownW_step (T' := T39) (f' := (F41 201 [(.int (1 : Int32))])) (fun t k => XS.iload X39.here hx rfl (hb hby at_199) rfl k) ?_
      refine ownW_step (T' := T39) (f' := (F41 202 [(.int (2 : Int32)), (.int (1 : Int32))])) (fun t k => XS.iconst X39.here hx rfl (hb hby at_201) k) ?_
      refine ownW_step (T' := T39) (f' := (F41 216 [])) (fun t k => XS.icmpYes X39.here hx rfl (pc0 := 202) (pc' := 216) rfl (hb hby at_202) rfl (flt (by decide : ¬ ((2 : Int32) < (1 : Int32)))).2.2.2 (by decide) (by decide) k) ?_
      refine ownW_step (T' := T39) (f' := (F41 218 [(.int (1 : Int32))])) (fun t k => XS.iload X39.here hx rfl (hb hby at_216) rfl k) ?_
      refine ownW_step (T' := T39) (f' := (F41 219 [(.int (1 : Int32)), (.int (1 : Int32))])) (fun t k => XS.iconst X39.here hx rfl (hb hby at_218) k) ?_
      refine ownW_step (T' := T39) (f' := (F41 233 [])) (fun t k => XS.icmpYes X39.here hx rfl (pc0 := 219) (pc' := 233) rfl (hb hby at_219) rfl (flt (by decide : ¬ ((1 : Int32) < (1 : Int32)))).2.2.2 (by decide) (by decide) k) ?_
      have J249_43 : ∀ (T_43 : State) (l_43 : List Loc) (X_43 : Stand p l e room_1 (s.setVm T35.vm) m #[(.int p1), (.int p2), (.int p3), (.int p4), (.int p5)] below meth c T_43 l_43 8 26) (e_43 : T_43.heap = T37.heap) (N_43 : Fr n0 l_43) (xa42 : Int32) (hp0 : ((xa42 = (0 : Int32) ∧ (own_bl c3) = (0 : Int32)) ∨ (¬ (own_bl c3) = (0 : Int32) ∧ xa42 = (1 : Int32)))), OwnEndsW p e below s (Q0 n0) room_1.cells room_1.slots T_43 (mkF m 249 #[.val (.int p1), .val (.int p2), .val (.int p3), .val (.int p4), .val (.int p5), .val (.int (1 : Int32)), .val (.int c3), .val (.int c5), .val (.int c7), .val (.int c9), .val (.ref b28), .val (.ref b31), .val (.int (own_bs [(own_sb c3)])), .val (.int xa42), .unset] []) := by
        intro T_43 l_43 X_43 e_43 N_43 xa42 hp0
        rcases hp0 with ⟨rfl, hbl0⟩ | ⟨hbl0, rfl⟩
        · skip
          let F44 : Nat → List Value → JFrame := fun a b => mkF m a #[.val (.int p1), .val (.int p2), .val (.int p3), .val (.int p4), .val (.int p5), .val (.int (1 : Int32)), .val (.int c3), .val (.int c5), .val (.int c7), .val (.int c9), .val (.ref b28), .val (.ref b31), .val (.int (own_bs [(own_sb c3)])), .val (.int (0 : Int32)), .unset] b
          refine ownW_step (T' := T_43) (f' := (F44 251 [(.int (0 : Int32))])) (fun t k => XS.iload X_43.here hx rfl (hb hby at_249) rfl k) ?_
          refine ownW_step (T' := T_43) (f' := (F44 253 [(.int (1 : Int32)), (.int (0 : Int32))])) (fun t k => XS.iload X_43.here hx rfl (hb hby at_251) rfl k) ?_
          refine ownW_step (T' := T_43) (f' := (F44 262 [])) (fun t k => XS.icmpYes X_43.here hx rfl (pc0 := 253) (pc' := 262) rfl (hb hby at_253) rfl (tlt (by decide : (0 : Int32) < (1 : Int32))).1 (by decide) (by decide) k) ?_
          refine ownW_step (T' := T_43) (f' := (F44 264 [(.ref b28)])) (fun t k => XS.aload X_43.here hx rfl (hb hby at_262) rfl rfl k) ?_
          refine ownW_step (T' := T_43) (f' := (F44 266 [(.int (0 : Int32)), (.ref b28)])) (fun t k => XS.iload X_43.here hx rfl (hb hby at_264) rfl k) ?_
          obtain ⟨cl45, Ar45, q45, S45, M45, H45, G45⟩ := id V_b28
          have hin45 : ¬ ((0 : Int32) < 0 ∨ cl45.slots.size ≤ ((0 : Int32)).toNatClampNeg) := inb_of S45 ⟨by decide, by decide⟩
          have hat45 : cl45.slots[((0 : Int32)).toNatClampNeg]? = some (.int c3) := own_at hin45 H45 0 rfl rfl
          refine ownW_step (T' := T_43) (f' := (F44 267 [(.int c3)])) (fun t k => X_43.caload hx (j := (0 : Int32)) (v := (.int c3)) (by rw [e_43]; exact Ar45.1) (State.isArrayOf_alike hZ2.alike Ar45.2.1) Ar45.2.2 hin45 hat45 (g := (F44 266 [(.int (0 : Int32)), (.ref b28)])) rfl rfl (hb hby at_266) _ k) ?_
          refine ownW_step (T' := T_43) (f' := (F44 269 [(.int (64 : Int32)), (.int c3)])) (fun t k => XS.bipush X_43.here hx rfl (hb hby at_267) k) ?_
          by_cases hc269_46 : c3 = (64 : Int32)
          · skip
            refine ownW_step (T' := T_43) (f' := (F44 278 [])) (fun t k => XS.icmpYes X_43.here hx rfl (pc0 := 269) (pc' := 278) rfl (hb hby at_269) rfl (teq hc269_46).1 (by decide) (by decide) k) ?_
            refine ownW_step (T' := T_43) (f' := (F44 280 [(.int (0 : Int32))])) (fun t k => XS.iload X_43.here hx rfl (hb hby at_278) rfl k) ?_
            refine ownW_step (T' := T_43) (f' := (F44 281 [(.int (1 : Int32)), (.int (0 : Int32))])) (fun t k => XS.iconst X_43.here hx rfl (hb hby at_280) k) ?_
            refine ownW_step (T' := T_43) (f' := (F44 282 [(.int (1 : Int32))])) (fun t k => XS.iadd X_43.here hx rfl (hb hby at_281) rfl k) ?_
            refine ownW_step (T' := T_43) (f' := (F44 284 [(.int (1 : Int32)), (.int (1 : Int32))])) (fun t k => XS.iload X_43.here hx rfl (hb hby at_282) rfl k) ?_
            refine ownW_step (T' := T_43) (f' := (F44 287 [])) (fun t k => XS.icmpNo X_43.here hx rfl (hb hby at_284) rfl (teq (by decide : (1 : Int32) = (1 : Int32))).2 k) ?_
            refine ownW_step (T' := T_43) (f' := (F44 288 [(.int (1 : Int32))])) (fun t k => XS.iconst X_43.here hx rfl (hb hby at_287) k) ?_
            let F47 : Nat → List Value → JFrame := fun a b => mkF m a #[.val (.int p1), .val (.int p2), .val (.int p3), .val (.int p4), .val (.int p5), .val (.int (1 : Int32)), .val (.int c3), .val (.int c5), .val (.int c7), .val (.int c9), .val (.ref b28), .val (.ref b31), .val (.int (own_bs [(own_sb c3)])), .val (.int (0 : Int32)), .val (.int (1 : Int32))] b
            refine ownW_step (T' := T_43) (f' := (F47 290 [])) (fun t k => XS.istore X_43.here hx rfl (hb hby at_288) rfl (l' := #[.val (.int p1), .val (.int p2), .val (.int p3), .val (.int p4), .val (.int p5), .val (.int (1 : Int32)), .val (.int c3), .val (.int c5), .val (.int c7), .val (.int c9), .val (.ref b28), .val (.ref b31), .val (.int (own_bs [(own_sb c3)])), .val (.int (0 : Int32)), .val (.int (1 : Int32))]) rfl k) ?_
            refine ownW_step (T' := T_43) (f' := (F47 305 [])) (fun t k => XS.goto X_43.here hx rfl (pc0 := 290) (pc' := 305) rfl (hb hby at_290) (by decide) (by decide) k) ?_
            refine ownW_step (T' := T_43) (f' := (F47 307 [(.int (own_bs [(own_sb c3)]))])) (fun t k => XS.iload X_43.here hx rfl (hb hby at_305) rfl k) ?_
            refine ownW_step (T' := T_43) (f' := (F47 309 [(.int (1 : Int32)), (.int (own_bs [(own_sb c3)]))])) (fun t k => XS.iload X_43.here hx rfl (hb hby at_307) rfl k) ?_
            refine ownW_step (T' := T_43) (f' := (F47 312 [])) (fun t k => XS.icmpNo X_43.here hx rfl (hb hby at_309) rfl (teq (own_stopY hC3 hc269_46)).2 k) ?_
            refine ownW_step (T' := T_43) (f' := (F47 313 [(.int (1 : Int32))])) (fun t k => XS.iconst X_43.here hx rfl (hb hby at_312) k) ?_
            refine ownW_step (T' := T_43) (f' := (F47 317 [(.int (1 : Int32))])) (fun t k => XS.goto X_43.here hx rfl (pc0 := 313) (pc' := 317) rfl (hb hby at_313) (by decide) (by decide) k) ?_
            exact ownW_retN X_43 hS35 (by rw [e_43]; exact hg37) hx hlk (t := .boolean) Bd.returns (by simp) (hb hby at_317) (by decide) (by decide) ⟨rfl, N_43⟩
          · skip
            refine ownW_step (T' := T_43) (f' := (F44 272 [])) (fun t k => XS.icmpNo X_43.here hx rfl (hb hby at_269) rfl (feq hc269_46).1 k) ?_
            refine ownW_step (T' := T_43) (f' := (F44 273 [(.int (0 : Int32))])) (fun t k => XS.iconst X_43.here hx rfl (hb hby at_272) k) ?_
            let F48 : Nat → List Value → JFrame := fun a b => mkF m a #[.val (.int p1), .val (.int p2), .val (.int p3), .val (.int p4), .val (.int p5), .val (.int (1 : Int32)), .val (.int c3), .val (.int c5), .val (.int c7), .val (.int c9), .val (.ref b28), .val (.ref b31), .val (.int (own_bs [(own_sb c3)])), .val (.int (0 : Int32)), .val (.int (0 : Int32))] b
            refine ownW_step (T' := T_43) (f' := (F48 275 [])) (fun t k => XS.istore X_43.here hx rfl (hb hby at_273) rfl (l' := #[.val (.int p1), .val (.int p2), .val (.int p3), .val (.int p4), .val (.int p5), .val (.int (1 : Int32)), .val (.int c3), .val (.int c5), .val (.int c7), .val (.int c9), .val (.ref b28), .val (.ref b31), .val (.int (own_bs [(own_sb c3)])), .val (.int (0 : Int32)), .val (.int (0 : Int32))]) rfl k) ?_
            refine ownW_step (T' := T_43) (f' := (F48 305 [])) (fun t k => XS.goto X_43.here hx rfl (pc0 := 275) (pc' := 305) rfl (hb hby at_275) (by decide) (by decide) k) ?_
            refine ownW_step (T' := T_43) (f' := (F48 307 [(.int (own_bs [(own_sb c3)]))])) (fun t k => XS.iload X_43.here hx rfl (hb hby at_305) rfl k) ?_
            refine ownW_step (T' := T_43) (f' := (F48 309 [(.int (0 : Int32)), (.int (own_bs [(own_sb c3)]))])) (fun t k => XS.iload X_43.here hx rfl (hb hby at_307) rfl k) ?_
            refine ownW_step (T' := T_43) (f' := (F48 312 [])) (fun t k => XS.icmpNo X_43.here hx rfl (hb hby at_309) rfl (teq (own_stopN hC3 hbl0 hc269_46)).2 k) ?_
            refine ownW_step (T' := T_43) (f' := (F48 313 [(.int (1 : Int32))])) (fun t k => XS.iconst X_43.here hx rfl (hb hby at_312) k) ?_
            refine ownW_step (T' := T_43) (f' := (F48 317 [(.int (1 : Int32))])) (fun t k => XS.goto X_43.here hx rfl (pc0 := 313) (pc' := 317) rfl (hb hby at_313) (by decide) (by decide) k) ?_
            exact ownW_retN X_43 hS35 (by rw [e_43]; exact hg37) hx hlk (t := .boolean) Bd.returns (by simp) (hb hby at_317) (by decide) (by decide) ⟨rfl, N_43⟩
        · skip
          refine ownW_step (T' := T_43) (f' := (F41 251 [(.int (1 : Int32))])) (fun t k => XS.iload X_43.here hx rfl (hb hby at_249) rfl k) ?_
          refine ownW_step (T' := T_43) (f' := (F41 253 [(.int (1 : Int32)), (.int (1 : Int32))])) (fun t k => XS.iload X_43.here hx rfl (hb hby at_251) rfl k) ?_
          refine ownW_step (T' := T_43) (f' := (F41 256 [])) (fun t k => XS.icmpNo X_43.here hx rfl (hb hby at_253) rfl (flt (by decide : ¬ ((1 : Int32) < (1 : Int32)))).1 k) ?_
          refine ownW_step (T' := T_43) (f' := (F41 257 [(.int (0 : Int32))])) (fun t k => XS.iconst X_43.here hx rfl (hb hby at_256) k) ?_
          let F49 : Nat → List Value → JFrame := fun a b => mkF m a #[.val (.int p1), .val (.int p2), .val (.int p3), .val (.int p4), .val (.int p5), .val (.int (1 : Int32)), .val (.int c3), .val (.int c5), .val (.int c7), .val (.int c9), .val (.ref b28), .val (.ref b31), .val (.int (own_bs [(own_sb c3)])), .val (.int (1 : Int32)), .val (.int (0 : Int32))] b
          refine ownW_step (T' := T_43) (f' := (F49 259 [])) (fun t k => XS.istore X_43.here hx rfl (hb hby at_257) rfl (l' := #[.val (.int p1), .val (.int p2), .val (.int p3), .val (.int p4), .val (.int p5), .val (.int (1 : Int32)), .val (.int c3), .val (.int c5), .val (.int c7), .val (.int c9), .val (.ref b28), .val (.ref b31), .val (.int (own_bs [(own_sb c3)])), .val (.int (1 : Int32)), .val (.int (0 : Int32))]) rfl k) ?_
          refine ownW_step (T' := T_43) (f' := (F49 305 [])) (fun t k => XS.goto X_43.here hx rfl (pc0 := 259) (pc' := 305) rfl (hb hby at_259) (by decide) (by decide) k) ?_
          refine ownW_step (T' := T_43) (f' := (F49 307 [(.int (own_bs [(own_sb c3)]))])) (fun t k => XS.iload X_43.here hx rfl (hb hby at_305) rfl k) ?_
          refine ownW_step (T' := T_43) (f' := (F49 309 [(.int (0 : Int32)), (.int (own_bs [(own_sb c3)]))])) (fun t k => XS.iload X_43.here hx rfl (hb hby at_307) rfl k) ?_
          refine ownW_step (T' := T_43) (f' := (F49 312 [])) (fun t k => XS.icmpNo X_43.here hx rfl (hb hby at_309) rfl (teq (own_skip hC3 hbl0)).2 k) ?_
          refine ownW_step (T' := T_43) (f' := (F49 313 [(.int (1 : Int32))])) (fun t k => XS.iconst X_43.here hx rfl (hb hby at_312) k) ?_
          refine ownW_step (T' := T_43) (f' := (F49 317 [(.int (1 : Int32))])) (fun t k => XS.goto X_43.here hx rfl (pc0 := 313) (pc' := 317) rfl (hb hby at_313) (by decide) (by decide) k) ?_
          exact ownW_retN X_43 hS35 (by rw [e_43]; exact hg37) hx hlk (t := .boolean) Bd.returns (by simp) (hb hby at_317) (by decide) (by decide) ⟨rfl, N_43⟩
      refine ownW_step (T' := T39) (f' := (F41 235 [(.int (1 : Int32))])) (fun t k => XS.iload X39.here hx rfl (hb hby at_233) rfl k) ?_
      refine ownW_step (T' := T39) (f' := (F41 238 [])) (fun t k => XS.ifNo X39.here hx rfl (hb hby at_235) rfl ((if0 _ _).trans (tlt (by decide : (0 : Int32) < (1 : Int32))).2.2.2) k) ?_
      refine ownW_step (T' := T39) (f' := (F41 240 [(.int c3)])) (fun t k => XS.iload X39.here hx rfl (hb hby at_238) rfl k) ?_
      obtain ⟨_, _, ⟨T50, L50, k50, n50⟩, -, X50, ⟨Lc50, hQ50, l50, y50, z50⟩, st50⟩ := Jvm.LawKit.callS X39 hx (y := (⟨"com/example/lit2/lit2/input/LineBeginsSectionPinLaw", "blank", "(C)Z"⟩ : MethodName)) hown2 (mvT hZ2 (own_w hw 108 rfl)) (mvT hZ2 (own_w hw 109 rfl)) (mvT hZ2 (own_w hw 3 rfl)) (mvT hZ2 (own_w hw 110 rfl)) (by decide) (backOf (W := 0) (rm16 l Z a0 hw [] c3 T37.heap n0 Zz) hZ2 (own_w hw 110 rfl) (own_w hw 3 rfl) (by decide) (by decide)) (g := (F41 240 [(.int c3)])) rfl (by rw [hml]; rfl) (argsL := [(.int c3)]) (rest := []) (lenOf pd_0_5 rfl) rfl (by show 2 * 0 + _ ≤ _; exact Nat.le_of_eq rfl) (hb hby at_240) (fun _ _ => ⟨rfl, E39, (by decide : 8 + 0 ≤ _), (by decide : 26 + 0 ≤ _)⟩)
      dsimp only [Pt.U, Pt.locs, Pt.cells, Pt.slots] at X50 l50 y50 z50 st50 hQ50
      subst l50 y50 z50
      obtain ⟨rfl, N50q, E50⟩ := hQ50
      have N50 := Fr.app N39 N50q
      refine ownW_step (T' := T50) (f' := (F41 243 [(.int (own_bl c3))])) (fun t k => st50 t k) ?_
      by_cases hc243_51 : (own_bl c3) = (0 : Int32)
      · skip
        refine ownW_step (T' := T50) (f' := (F41 246 [])) (fun t k => XS.ifNo X50.here hx rfl (hb hby at_243) rfl ((if0 _ _).trans (teq hc243_51).2) k) ?_
        refine ownW_step (T' := T50) (f' := (F41 247 [(.int (0 : Int32))])) (fun t k => XS.iconst X50.here hx rfl (hb hby at_246) k) ?_
        let F52 : Nat → List Value → JFrame := fun a b => mkF m a #[.val (.int p1), .val (.int p2), .val (.int p3), .val (.int p4), .val (.int p5), .val (.int (1 : Int32)), .val (.int c3), .val (.int c5), .val (.int c7), .val (.int c9), .val (.ref b28), .val (.ref b31), .val (.int (own_bs [(own_sb c3)])), .val (.int (0 : Int32)), .unset] b
        refine ownW_step (T' := T50) (f' := (F52 249 [])) (fun t k => XS.istore X50.here hx rfl (hb hby at_247) rfl (l' := #[.val (.int p1), .val (.int p2), .val (.int p3), .val (.int p4), .val (.int p5), .val (.int (1 : Int32)), .val (.int c3), .val (.int c5), .val (.int c7), .val (.int c9), .val (.ref b28), .val (.ref b31), .val (.int (own_bs [(own_sb c3)])), .val (.int (0 : Int32)), .unset]) rfl k) ?_
        exact J249_43 T50 _ X50 E50 N50 (0 : Int32) (Or.inl ⟨rfl, hc243_51⟩)
      · skip
        refine ownW_step (T' := T50) (f' := (F41 249 [])) (fun t k => XS.ifYes X50.here hx rfl (pc0 := 243) (pc' := 249) rfl (hb hby at_243) rfl ((if0 _ _).trans (feq hc243_51).2) (by decide) (by decide) k) ?_
        exact J249_43 T50 _ X50 E50 N50 (1 : Int32) (Or.inr ⟨hc243_51, rfl⟩)
    · skip
      let F53 : Nat → List Value → JFrame := fun a b => mkF m a #[.val (.int p1), .val (.int p2), .val (.int p3), .val (.int p4), .val (.int p5), .val (.int (2 : Int32)), .val (.int c3), .val (.int c5), .val (.int c7), .val (.int c9), .unset, .unset, .unset, .unset, .unset] b
      refine ownW_step (T' := T_11) (f' := (F53 35 [(.int (2 : Int32))])) (fun t k => XS.iload X_11.here hx rfl (hb hby at_33) rfl k) ?_
      refine ownW_step (T' := T_11) (f' := (F53 46 [])) (fun t k => XS.ifYes X_11.here hx rfl (pc0 := 35) (pc' := 46) rfl (hb hby at_35) rfl ((if0 _ _).trans (feq (by decide : ¬ ((2 : Int32) = (0 : Int32)))).2) (by decide) (by decide) k) ?_
      refine ownW_step (T' := T_11) (f' := (F53 48 [(.int (2 : Int32))])) (fun t k => XS.iload X_11.here hx rfl (hb hby at_46) rfl k) ?_
      refine ownW_step (T' := T_11) (f' := (F53 49 [(.int (1 : Int32)), (.int (2 : Int32))])) (fun t k => XS.iconst X_11.here hx rfl (hb hby at_48) k) ?_
      refine ownW_step (T' := T_11) (f' := (F53 65 [])) (fun t k => XS.icmpYes X_11.here hx rfl (pc0 := 49) (pc' := 65) rfl (hb hby at_49) rfl (feq (by decide : ¬ ((2 : Int32) = (1 : Int32)))).2 (by decide) (by decide) k) ?_
      refine ownW_step (T' := T_11) (f' := (F53 67 [(.int (2 : Int32))])) (fun t k => XS.iload X_11.here hx rfl (hb hby at_65) rfl k) ?_
      refine ownW_step (T' := T_11) (f' := (F53 68 [(.int (2 : Int32)), (.int (2 : Int32))])) (fun t k => XS.iconst X_11.here hx rfl (hb hby at_67) k) ?_
      refine ownW_step (T' := T_11) (f' := (F53 71 [])) (fun t k => XS.icmpNo X_11.here hx rfl (hb hby at_68) rfl (teq (by decide : (2 : Int32) = (2 : Int32))).2 k) ?_
      refine ownW_step (T' := T_11) (f' := (F53 72 [(.int (2 : Int32))])) (fun t k => XS.iconst X_11.here hx rfl (hb hby at_71) k) ?_
      obtain ⟨T54, h54, k54, X54, e54, E54, A54, EX54, st54⟩ := newPE X_11 hx hZ (own_w hw 5 rfl) e_11 (g := (F53 72 [(.int (2 : Int32))])) rfl (hb hby at_72) rfl (by decide) (cap := 2) (by decide) (by decide) (by decide) (by decide) (ad := "[C") rfl
      obtain ⟨b54, g54⟩ : ∃ z, z = h0.size := ⟨_, rfl⟩
      rw [← g54] at A54 EX54 st54
      have g_b54 : n0 ≤ b54 := Nat.le_trans Zz (Nat.le_of_eq g54.symm)
      have sz_b54 : h0.size ≤ b54 := Nat.le_trans Kp.1 (Nat.le_of_eq g54.symm)
      replace S_CS := S_CS.ext E54
      replace S_SC := S_SC.ext E54
      replace S_U := S_U.ext E54
      replace S_I := S_I.ext E54
      replace Zz := Nat.le_trans Zz E54.1
      replace Kp := Kp.ext E54
      have V_b54 : Arv Z h54 b54 k54 .char (2 : Int32) [(.int (0 : Int32)), (.int (0 : Int32))] (.int (0 : Int32)) := (Arv.new A54 (by decide)).pad (pad_rep [] (.int (0 : Int32)) 2)
      have EX_b54 := EX54
      refine ownW_step (T' := T54) (f' := (F53 74 [(.ref b54)])) (fun t k => st54 t k) ?_
      refine ownW_step (T' := T54) (f' := (F53 75 [(.ref b54), (.ref b54)])) (fun t k => XS.dup X54.here hx rfl (hb hby at_74) rfl rfl k) ?_
      refine ownW_step (T' := T54) (f' := (F53 76 [(.int (0 : Int32)), (.ref b54), (.ref b54)])) (fun t k => XS.iconst X54.here hx rfl (hb hby at_75) k) ?_
      refine ownW_step (T' := T54) (f' := (F53 78 [(.int c3), (.int (0 : Int32)), (.ref b54), (.ref b54)])) (fun t k => XS.iload X54.here hx rfl (hb hby at_76) rfl k) ?_
      obtain ⟨cl55, Ar55, q55, S55, M55, H55, G55⟩ := V_b54
      have hin55 : ¬ ((0 : Int32) < 0 ∨ cl55.slots.size ≤ ((0 : Int32)).toNatClampNeg) := inb_of S55 ⟨by decide, by decide⟩
      obtain ⟨T55, h55, X55, e55, W55, st55⟩ := stC X54 hx hZ e54 Ar55 (j := (0 : Int32)) hin55 (g := (F53 78 [(.int c3), (.int (0 : Int32)), (.ref b54), (.ref b54)])) rfl rfl (hb hby at_78)
      have V_b54 : Arv Z h55 b54 k54 .char (2 : Int32) [(.int c3), (.int (0 : Int32))] (.int (0 : Int32)) := by have q := Arv.set Ar55 q55 S55 M55 H55 G55 (fits_nar_char _) W55 0 rfl (Nat.le_of_ble_eq_true rfl); rw [own_nc hC3] at q; exact q
      replace S_CS := S_CS.wr W55
      replace S_SC := S_SC.wr W55
      replace S_U := S_U.wr W55
      replace S_I := S_I.wr W55
      replace EX_b54 := EX_b54.wr W55
      replace Zz := Nat.le_trans Zz (Keep.of_wr W55).1
      replace Kp := Kp.wr W55 (Or.inr sz_b54)
      have N55 := Fr.snoc X55 N_11 g_b54
      refine ownW_step (T' := T55) (f' := (F53 79 [(.ref b54)])) (fun t k => st55 t k) ?_
      refine ownW_step (T' := T55) (f' := (F53 80 [(.ref b54), (.ref b54)])) (fun t k => XS.dup X55.here hx rfl (hb hby at_79) rfl rfl k) ?_
      refine ownW_step (T' := T55) (f' := (F53 81 [(.int (1 : Int32)), (.ref b54), (.ref b54)])) (fun t k => XS.iconst X55.here hx rfl (hb hby at_80) k) ?_
      refine ownW_step (T' := T55) (f' := (F53 83 [(.int c5), (.int (1 : Int32)), (.ref b54), (.ref b54)])) (fun t k => XS.iload X55.here hx rfl (hb hby at_81) rfl k) ?_
      obtain ⟨cl56, Ar56, q56, S56, M56, H56, G56⟩ := V_b54
      have hin56 : ¬ ((1 : Int32) < 0 ∨ cl56.slots.size ≤ ((1 : Int32)).toNatClampNeg) := inb_of S56 ⟨by decide, by decide⟩
      obtain ⟨T56, h56, X56, e56, W56, st56⟩ := stC X55 hx hZ e55 Ar56 (j := (1 : Int32)) hin56 (g := (F53 83 [(.int c5), (.int (1 : Int32)), (.ref b54), (.ref b54)])) rfl rfl (hb hby at_83)
      have V_b54 : Arv Z h56 b54 k54 .char (2 : Int32) [(.int c3), (.int c5)] (.int (0 : Int32)) := by have q := Arv.set Ar56 q56 S56 M56 H56 G56 (fits_nar_char _) W56 1 rfl (Nat.le_of_ble_eq_true rfl); rw [own_nc hC5] at q; exact q
      replace S_CS := S_CS.wr W56
      replace S_SC := S_SC.wr W56
      replace S_U := S_U.wr W56
      replace S_I := S_I.wr W56
      replace EX_b54 := EX_b54.wr W56
      replace Zz := Nat.le_trans Zz (Keep.of_wr W56).1
      replace Kp := Kp.wr W56 (Or.inr sz_b54)
      have N56 := Fr.snoc X56 N55 g_b54
      refine ownW_step (T' := T56) (f' := (F53 84 [(.ref b54)])) (fun t k => st56 t k) ?_
      let F57 : Nat → List Value → JFrame := fun a b => mkF m a #[.val (.int p1), .val (.int p2), .val (.int p3), .val (.int p4), .val (.int p5), .val (.int (2 : Int32)), .val (.int c3), .val (.int c5), .val (.int c7), .val (.int c9), .val (.ref b54), .unset, .unset, .unset, .unset] b
      refine ownW_step (T' := T56) (f' := (F57 86 [])) (fun t k => XS.astore X56.here hx rfl (hb hby at_84) rfl rfl (l' := #[.val (.int p1), .val (.int p2), .val (.int p3), .val (.int p4), .val (.int p5), .val (.int (2 : Int32)), .val (.int c3), .val (.int c5), .val (.int c7), .val (.int c9), .val (.ref b54), .unset, .unset, .unset, .unset]) rfl k) ?_
      refine ownW_step (T' := T56) (f' := (F57 143 [])) (fun t k => XS.goto X56.here hx rfl (pc0 := 86) (pc' := 143) rfl (hb hby at_86) (by decide) (by decide) k) ?_
      obtain ⟨T58, h58, X58, e58, E58, A58, D58, -, st58⟩ := newO X56 hx hZ hown (own_w hw 6 rfl) (own_w hw 7 rfl) (own_w hw 8 rfl) e56 (g := (F57 143 [])) rfl (hb hby at_143) (by decide) (by decide)
      obtain ⟨b58, g58⟩ : ∃ z, z = h56.size := ⟨_, rfl⟩
      rw [← g58] at A58 D58 st58
      have ne_b54_b58 : b54 ≠ b58 := Nat.ne_of_lt (Nat.lt_of_lt_of_le V_b54.lt (Nat.le_of_eq g58.symm))
      have g_b58 : n0 ≤ b58 := Nat.le_trans Zz (Nat.le_of_eq g58.symm)
      have sz_b58 : h0.size ≤ b58 := Nat.le_trans Kp.1 (Nat.le_of_eq g58.symm)
      replace S_CS := S_CS.ext E58
      replace S_SC := S_SC.ext E58
      replace S_U := S_U.ext E58
      replace S_I := S_I.ext E58
      replace V_b54 := V_b54.ext E58
      replace EX_b54 := EX_b54.ext E58
      replace Zz := Nat.le_trans Zz E58.1
      replace Kp := Kp.ext E58
      have E_b58 := A58
      have F_characters_b58 : Fld Z h58 b58 "com/example/lit2/lit2/input/Line" "characters" "[B" .null := D58 (Or.inr (own_w hw 82 rfl)) (ty := (.array .byte)) (by decide)
      have F_start_b58 : Fld Z h58 b58 "com/example/lit2/lit2/input/Line" "start" "I" (.int (0 : Int32)) := D58 (Or.inr (own_w hw 84 rfl)) (ty := .int) (by decide)
      have F_end_b58 : Fld Z h58 b58 "com/example/lit2/lit2/input/Line" "end" "I" (.int (0 : Int32)) := D58 (Or.inr (own_w hw 86 rfl)) (ty := .int) (by decide)
      have F_location_b58 : Fld Z h58 b58 "com/example/lit2/lit2/input/Line" "location" "Lcom/example/lit2/lit2/model/Location;" .null := D58 (Or.inr (own_w hw 88 rfl)) (ty := (.object "com/example/lit2/lit2/model/Location")) (by decide)
      have F_marks_b58 : Fld Z h58 b58 "com/example/lit2/lit2/input/Line" "marks" "I" (.int (0 : Int32)) := D58 (Or.inr (own_w hw 90 rfl)) (ty := .int) (by decide)
      have F_text_b58 : Fld Z h58 b58 "com/example/lit2/lit2/input/Line" "text" "Ljava/lang/String;" .null := D58 (Or.inl (own_w hw 92 rfl)) (ty := (.object "java/lang/String")) (by decide)
      refine ownW_step (T' := T58) (f' := (F57 146 [(.ref b58)])) (fun t k => st58 t k) ?_
      refine ownW_step (T' := T58) (f' := (F57 147 [(.ref b58), (.ref b58)])) (fun t k => XS.dup X58.here hx rfl (hb hby at_146) rfl rfl k) ?_
      obtain ⟨T59, h59, X59, e59, E59, A59, D59, -, st59⟩ := newO X58 hx hZ hown (own_w hw 9 rfl) (own_w hw 10 rfl) (own_w hw 11 rfl) e58 (g := (F57 147 [(.ref b58), (.ref b58)])) rfl (hb hby at_147) (by decide) (by decide)
      obtain ⟨b59, g59⟩ : ∃ z, z = h58.size := ⟨_, rfl⟩
      rw [← g59] at A59 D59 st59
      have ne_b54_b59 : b54 ≠ b59 := Nat.ne_of_lt (Nat.lt_of_lt_of_le V_b54.lt (Nat.le_of_eq g59.symm))
      have ne_b58_b59 : b58 ≠ b59 := Nat.ne_of_lt (Nat.lt_of_lt_of_le E_b58.lt (Nat.le_of_eq g59.symm))
      have g_b59 : n0 ≤ b59 := Nat.le_trans Zz (Nat.le_of_eq g59.symm)
      have sz_b59 : h0.size ≤ b59 := Nat.le_trans Kp.1 (Nat.le_of_eq g59.symm)
      replace S_CS := S_CS.ext E59
      replace S_SC := S_SC.ext E59
      replace S_U := S_U.ext E59
      replace S_I := S_I.ext E59
      replace V_b54 := V_b54.ext E59
      replace EX_b54 := EX_b54.ext E59
      replace E_b58 := E_b58.ext E59
      replace F_characters_b58 := F_characters_b58.ext E59
      replace F_start_b58 := F_start_b58.ext E59
      replace F_end_b58 := F_end_b58.ext E59
      replace F_location_b58 := F_location_b58.ext E59
      replace F_marks_b58 := F_marks_b58.ext E59
      replace F_text_b58 := F_text_b58.ext E59
      replace Zz := Nat.le_trans Zz E59.1
      replace Kp := Kp.ext E59
      have E_b59 := A59
      have F_value_b59 : Fld Z h59 b59 "java/lang/String" "value" "[B" .null := D59 (Or.inr (own_w hw 24 rfl)) (ty := (.array .byte)) (by decide)
      have F_coder_b59 : Fld Z h59 b59 "java/lang/String" "coder" "B" (.int (0 : Int32)) := D59 (Or.inr (own_w hw 25 rfl)) (ty := .byte) (by decide)
      refine ownW_step (T' := T59) (f' := (F57 150 [(.ref b59), (.ref b58), (.ref b58)])) (fun t k => st59 t k) ?_
      refine ownW_step (T' := T59) (f' := (F57 151 [(.ref b59), (.ref b59), (.ref b58), (.ref b58)])) (fun t k => XS.dup X59.here hx rfl (hb hby at_150) rfl rfl k) ?_
      refine ownW_step (T' := T59) (f' := (F57 153 [(.ref b54), (.ref b59), (.ref b59), (.ref b58), (.ref b58)])) (fun t k => XS.aload X59.here hx rfl (hb hby at_151) rfl rfl k) ?_
      obtain ⟨_, _, ⟨T60, L60, k60, n60⟩, -, X60, ⟨Lc60, hQ60, l60, y60, z60⟩, st60⟩ := X59.specialBack hx (y := (⟨"java/lang/String", "<init>", "([C)V"⟩ : MethodName)) rfl hown (mvT hZ (own_w hw 12 rfl)) (mvT hZ (own_w hw 13 rfl)) (mvT hZ (own_w hw 14 rfl)) (by decide) (backOf (W := 3) (rm2_2 l Z a0 hw [] b59 b54 h59 n0 Zz E_b59 F_value_b59 F_coder_b59 g_b59 k54 c3 c5 hC3 hC5 V_b54 cs S_CS hcs (Ne.symm ne_b54_b59)) hZ (own_w hw 14 rfl) (own_w hw 11 rfl) (by decide) (by decide)) (g := (F57 153 [(.ref b54), (.ref b59), (.ref b59), (.ref b58), (.ref b58)])) rfl (by rw [hml]; rfl) (Steps.refl _) (a := b59) (argsL := [(.ref b54)]) (rest := [(.ref b59), (.ref b58), (.ref b58)]) (lenOf pd_0_1 rfl) rfl (by show 2 * 0 + _ ≤ _; exact Nat.le_of_eq rfl) (hb hby at_153) (fun _ _ => ⟨rfl, e59, (by decide : 3 + 1 ≤ _), (by decide : 12 + 2 ≤ _)⟩)
      dsimp only [Pt.U, Pt.locs, Pt.cells, Pt.slots] at X60 l60 y60 z60 st60 hQ60
      subst l60 y60 z60
      obtain ⟨rfl, N60q, K60, sb60, sk60, SE60, SC60, SV60, SA60, SX60⟩ := hQ60
      have N60 := Fr.app N56 N60q
      replace S_CS := own_sta_keep S_CS K60 (allS ⟨_, E_b59⟩ all0)
      replace S_SC := own_sta_keep S_SC K60 (allS ⟨_, E_b59⟩ all0)
      replace S_U := own_sta_keep S_U K60 (allS ⟨_, E_b59⟩ all0)
      replace S_I := own_sta_keep S_I K60 (allS ⟨_, E_b59⟩ all0)
      replace V_b54 := V_b54.keep K60 (ninS ne_b54_b59 nin0)
      replace EX_b54 := EX_b54.keep K60
      replace E_b58 := E_b58.keep K60
      replace F_characters_b58 := F_characters_b58.keep K60 (ninS ne_b58_b59 nin0)
      replace F_start_b58 := F_start_b58.keep K60 (ninS ne_b58_b59 nin0)
      replace F_end_b58 := F_end_b58.keep K60 (ninS ne_b58_b59 nin0)
      replace F_location_b58 := F_location_b58.keep K60 (ninS ne_b58_b59 nin0)
      replace F_marks_b58 := F_marks_b58.keep K60 (ninS ne_b58_b59 nin0)
      replace F_text_b58 := F_text_b58.keep K60 (ninS ne_b58_b59 nin0)
      replace E_b59 := E_b59.keep K60
      replace Zz := Nat.le_trans Zz K60.1
      replace Kp := Kp.trans K60 (allS (Or.inr sz_b59) all0)
      refine ownW_step (T' := T60) (f' := (F57 156 [(.ref b59), (.ref b58), (.ref b58)])) (fun t k => st60.trans k) ?_
      obtain ⟨T61, h61, X61, e61, E61, A61, D61, -, st61⟩ := newO X60 hx hZ hown (own_w hw 30 rfl) (own_w hw 31 rfl) (own_w hw 32 rfl) rfl (g := (F57 156 [(.ref b59), (.ref b58), (.ref b58)])) rfl (hb hby at_156) (by decide) (by decide)
      obtain ⟨b61, g61⟩ : ∃ z, z = T60.heap.size := ⟨_, rfl⟩
      rw [← g61] at A61 D61 st61
      have ne_b54_b61 : b54 ≠ b61 := Nat.ne_of_lt (Nat.lt_of_lt_of_le V_b54.lt (Nat.le_of_eq g61.symm))
      have ne_b58_b61 : b58 ≠ b61 := Nat.ne_of_lt (Nat.lt_of_lt_of_le E_b58.lt (Nat.le_of_eq g61.symm))
      have ne_b59_b61 : b59 ≠ b61 := Nat.ne_of_lt (Nat.lt_of_lt_of_le E_b59.lt (Nat.le_of_eq g61.symm))
      have ne_sb60_b61 : sb60 ≠ b61 := Nat.ne_of_lt (Nat.lt_of_lt_of_le SA60.lt (Nat.le_of_eq g61.symm))
      have g_b61 : n0 ≤ b61 := Nat.le_trans Zz (Nat.le_of_eq g61.symm)
      have sz_b61 : h0.size ≤ b61 := Nat.le_trans Kp.1 (Nat.le_of_eq g61.symm)
      replace S_CS := S_CS.ext E61
      replace S_SC := S_SC.ext E61
      replace S_U := S_U.ext E61
      replace S_I := S_I.ext E61
      replace V_b54 := V_b54.ext E61
      replace EX_b54 := EX_b54.ext E61
      replace E_b58 := E_b58.ext E61
      replace F_characters_b58 := F_characters_b58.ext E61
      replace F_start_b58 := F_start_b58.ext E61
      replace F_end_b58 := F_end_b58.ext E61
      replace F_location_b58 := F_location_b58.ext E61
      replace F_marks_b58 := F_marks_b58.ext E61
      replace F_text_b58 := F_text_b58.ext E61
      replace E_b59 := E_b59.ext E61
      replace SC60 := SC60.ext E61
      replace SV60 := SV60.ext E61
      replace SA60 := SA60.ext E61
      replace SX60 := SX60.ext E61
      replace Zz := Nat.le_trans Zz E61.1
      replace Kp := Kp.ext E61
      have E_b61 := A61
      have F_file_b61 : Fld Z h61 b61 "com/example/lit2/lit2/model/Location" "file" "Ljava/lang/String;" .null := D61 (Or.inr (own_w hw 39 rfl)) (ty := (.object "java/lang/String")) (by decide)
      have F_line_b61 : Fld Z h61 b61 "com/example/lit2/lit2/model/Location" "line" "I" (.int (0 : Int32)) := D61 (Or.inr (own_w hw 41 rfl)) (ty := .int) (by decide)
      refine ownW_step (T' := T61) (f' := (F57 159 [(.ref b61), (.ref b59), (.ref b58), (.ref b58)])) (fun t k => st61 t k) ?_
      refine ownW_step (T' := T61) (f' := (F57 160 [(.ref b61), (.ref b61), (.ref b59), (.ref b58), (.ref b58)])) (fun t k => XS.dup X61.here hx rfl (hb hby at_159) rfl rfl k) ?_
      obtain ⟨la, T62, h62, k162, X62, e62, E62, hS62, hk62, hZ2, hown2, -, -, st62⟩ := ldcOH (s := s) (vm0 := s.vm) (Z := Z) (a0 := a0) (EL := ownEL) X61 hx hZ hown (own_w hw 33 rfl) (fun d hd => by simp only [Bundle.stringAtoms, Bundle.sN, List.mem_cons, List.not_mem_nil, or_false] at hd; rcases hd with rfl | rfl | rfl | rfl | rfl | rfl | rfl <;> first | exact (own_w hw 11 rfl) | exact (own_w hw 10 rfl) | exact (own_w hw 23 rfl) | exact (own_w hw 24 rfl) | exact (own_w hw 25 rfl) | exact (own_w hw 26 rfl) | exact (own_w hw 27 rfl)) e61 ((State.WarmedH.refl s).since h61.size) (Nat.le_refl _) hEL (own_chv Kp) (g := (F57 160 [(.ref b61), (.ref b61), (.ref b59), (.ref b58), (.ref b58)])) rfl (hb hby at_160) (n := 4) (by decide) (by decide) (by decide) (by decide)
      replace S_CS := S_CS.ext E62
      replace S_SC := S_SC.ext E62
      replace S_U := S_U.ext E62
      replace S_I := S_I.ext E62
      replace V_b54 := V_b54.ext E62
      replace EX_b54 := EX_b54.ext E62
      replace E_b58 := E_b58.ext E62
      replace F_characters_b58 := F_characters_b58.ext E62
      replace F_start_b58 := F_start_b58.ext E62
      replace F_end_b58 := F_end_b58.ext E62
      replace F_location_b58 := F_location_b58.ext E62
      replace F_marks_b58 := F_marks_b58.ext E62
      replace F_text_b58 := F_text_b58.ext E62
      replace E_b59 := E_b59.ext E62
      replace SC60 := SC60.ext E62
      replace SV60 := SV60.ext E62
      replace SA60 := SA60.ext E62
      replace SX60 := SX60.ext E62
      replace E_b61 := E_b61.ext E62
      replace F_file_b61 := F_file_b61.ext E62
      replace F_line_b61 := F_line_b61.ext E62
      replace Zz := Nat.le_trans Zz E62.1
      replace Kp := Kp.ext E62
      refine ownW_step (T' := T62) (f' := (F57 162 [(.ref la), (.ref b61), (.ref b61), (.ref b59), (.ref b58), (.ref b58)])) (fun t k => st62 t k) ?_
      refine ownW_step (T' := T62) (f' := (F57 163 [(.int (1 : Int32)), (.ref la), (.ref b61), (.ref b61), (.ref b59), (.ref b58), (.ref b58)])) (fun t k => XS.iconst X62.here hx rfl (hb hby at_162) k) ?_
      obtain ⟨_, _, ⟨T63, L63, k63, n63⟩, -, X63, ⟨Lc63, hQ63, l63, y63, z63⟩, st63⟩ := X62.specialBack hx (y := (⟨"com/example/lit2/lit2/model/Location", "<init>", "(Ljava/lang/String;I)V"⟩ : MethodName)) rfl hown2 (mvT hZ2 (own_w hw 34 rfl)) (mvT hZ2 (own_w hw 35 rfl)) (mvT hZ2 (own_w hw 36 rfl)) (by decide) (backOf (W := 4) (rm5 l Z a0 hw [] b61 la h62 n0 Zz E_b61 F_file_b61 F_line_b61 g_b61) hZ2 (own_w hw 36 rfl) (own_w hw 32 rfl) (by decide) (by decide)) (g := (F57 163 [(.int (1 : Int32)), (.ref la), (.ref b61), (.ref b61), (.ref b59), (.ref b58), (.ref b58)])) rfl (by rw [hml]; rfl) (Steps.refl _) (a := b61) (argsL := [(.ref la), (.int (1 : Int32))]) (rest := [(.ref b61), (.ref b59), (.ref b58), (.ref b58)]) (lenOf pd_0_2 rfl) rfl (by show 2 * 0 + _ ≤ _; exact Nat.le_of_eq rfl) (hb hby at_163) (fun _ _ => ⟨rfl, e62, (by decide : 7 + 0 ≤ _), (by decide : 24 + 0 ≤ _)⟩)
      dsimp only [Pt.U, Pt.locs, Pt.cells, Pt.slots] at X63 l63 y63 z63 st63 hQ63
      subst l63 y63 z63
      obtain ⟨rfl, N63q, K63⟩ := hQ63
      have N63 := Fr.app N60 N63q
      replace S_CS := own_sta_keep S_CS K63 (allS ⟨_, E_b61⟩ all0)
      replace S_SC := own_sta_keep S_SC K63 (allS ⟨_, E_b61⟩ all0)
      replace S_U := own_sta_keep S_U K63 (allS ⟨_, E_b61⟩ all0)
      replace S_I := own_sta_keep S_I K63 (allS ⟨_, E_b61⟩ all0)
      replace V_b54 := V_b54.keep K63 (ninS ne_b54_b61 nin0)
      replace EX_b54 := EX_b54.keep K63
      replace E_b58 := E_b58.keep K63
      replace F_characters_b58 := F_characters_b58.keep K63 (ninS ne_b58_b61 nin0)
      replace F_start_b58 := F_start_b58.keep K63 (ninS ne_b58_b61 nin0)
      replace F_end_b58 := F_end_b58.keep K63 (ninS ne_b58_b61 nin0)
      replace F_location_b58 := F_location_b58.keep K63 (ninS ne_b58_b61 nin0)
      replace F_marks_b58 := F_marks_b58.keep K63 (ninS ne_b58_b61 nin0)
      replace F_text_b58 := F_text_b58.keep K63 (ninS ne_b58_b61 nin0)
      replace E_b59 := E_b59.keep K63
      replace SC60 := SC60.keep K63 (ninS ne_b59_b61 nin0)
      replace SV60 := SV60.keep K63 (ninS ne_b59_b61 nin0)
      replace SA60 := SA60.keep K63 (ninS ne_sb60_b61 nin0)
      replace SX60 := SX60.keep K63
      replace E_b61 := E_b61.keep K63
      replace Zz := Nat.le_trans Zz K63.1
      replace Kp := Kp.trans K63 (allS (Or.inr sz_b61) all0)
      have hg63 := Nat.le_trans hk62 K63.1
      refine ownW_step (T' := T63) (f' := (F57 166 [(.ref b61), (.ref b59), (.ref b58), (.ref b58)])) (fun t k => st63.trans k) ?_
      obtain ⟨_, _, ⟨T64, L64, k64, n64⟩, -, X64, ⟨Lc64, hQ64, l64, y64, z64⟩, st64⟩ := X63.specialBack hx (y := (⟨"com/example/lit2/lit2/input/Line", "<init>", "(Ljava/lang/String;Lcom/example/lit2/lit2/model/Location;)V"⟩ : MethodName)) rfl hown2 (mvT hZ2 (own_w hw 42 rfl)) (mvT hZ2 (own_w hw 43 rfl)) (mvT hZ2 (own_w hw 44 rfl)) (by decide) (backOf (W := 1) (rm6 l Z a0 hw [] b58 b59 b61 T63.heap n0 Zz E_b58 F_characters_b58 F_start_b58 F_end_b58 F_location_b58 F_marks_b58 F_text_b58 g_b58 sb60 sk60 (2 : Int32) [(.int (own_sb c3)), (.int (own_sb c5))] (by decide) ⟨E_b59, SC60, SV60, SA60, SX60⟩ ai S_SC aU S_U S_I neU cs S_CS hcs) hZ2 (own_w hw 44 rfl) (own_w hw 8 rfl) (by decide) (by decide)) (g := (F57 166 [(.ref b61), (.ref b59), (.ref b58), (.ref b58)])) rfl (by rw [hml]; rfl) (Steps.refl _) (a := b58) (argsL := [(.ref b59), (.ref b61)]) (rest := [(.ref b58)]) (lenOf pd_0_3 rfl) rfl (by show 2 * 0 + _ ≤ _; exact Nat.le_of_eq rfl) (hb hby at_166) (fun _ _ => ⟨rfl, rfl, (by decide : 7 + 1 ≤ _), (by decide : 24 + 4 ≤ _)⟩)
      dsimp only [Pt.U, Pt.locs, Pt.cells, Pt.slots] at X64 l64 y64 z64 st64 hQ64
      subst l64 y64 z64
      obtain ⟨rfl, N64q, K64, rb64, rk64, Fs64, Fe64, Fc64, Vr64⟩ := hQ64
      have N64 := Fr.app N63 N64q
      replace S_CS := own_sta_keep S_CS K64 (allS ⟨_, E_b58⟩ all0)
      replace S_SC := own_sta_keep S_SC K64 (allS ⟨_, E_b58⟩ all0)
      replace S_U := own_sta_keep S_U K64 (allS ⟨_, E_b58⟩ all0)
      replace S_I := own_sta_keep S_I K64 (allS ⟨_, E_b58⟩ all0)
      replace V_b54 := V_b54.keep K64 (ninS ne_b54_b58 nin0)
      replace EX_b54 := EX_b54.keep K64
      replace E_b58 := E_b58.keep K64
      replace Zz := Nat.le_trans Zz K64.1
      replace Kp := Kp.trans K64 (allS (Or.inr sz_b58) all0)
      have hg64 := Nat.le_trans hg63 K64.1
      refine ownW_step (T' := T64) (f' := (F57 169 [(.ref b58)])) (fun t k => st64.trans k) ?_
      let F65 : Nat → List Value → JFrame := fun a b => mkF m a #[.val (.int p1), .val (.int p2), .val (.int p3), .val (.int p4), .val (.int p5), .val (.int (2 : Int32)), .val (.int c3), .val (.int c5), .val (.int c7), .val (.int c9), .val (.ref b54), .val (.ref b58), .unset, .unset, .unset] b
      refine ownW_step (T' := T64) (f' := (F65 171 [])) (fun t k => XS.astore X64.here hx rfl (hb hby at_169) rfl rfl (l' := #[.val (.int p1), .val (.int p2), .val (.int p3), .val (.int p4), .val (.int p5), .val (.int (2 : Int32)), .val (.int c3), .val (.int c5), .val (.int c7), .val (.int c9), .val (.ref b54), .val (.ref b58), .unset, .unset, .unset]) rfl k) ?_
      refine ownW_step (T' := T64) (f' := (F65 173 [(.ref b58)])) (fun t k => XS.aload X64.here hx rfl (hb hby at_171) rfl rfl k) ?_
      obtain ⟨cq66, kq66, q66a, q66b, q66c⟩ := isOf hZ2 rfl E_b58
      obtain ⟨_, _, ⟨T66, L66, k66, n66⟩, -, X66, ⟨Lc66, hQ66, l66, y66, z66⟩, st66⟩ := X64.virtualBack hx (y := (⟨"com/example/lit2/lit2/input/Line", "beginsSection", "()Z"⟩ : MethodName)) (z := (⟨"com/example/lit2/lit2/input/Line", "beginsSection", "()Z"⟩ : MethodName)) hown2 (mvT hZ2 (own_w hw 93 rfl)) (mvT hZ2 (own_w hw 94 rfl)) (notFace_of_selects (args := #[]) (mvT hZ2 (own_w hw 96 rfl))) (mvT hZ2 (own_w hw 96 rfl)) (mvT hZ2 (own_w hw 95 rfl)) (by decide) (backOf (W := 0) (rm12_2 l Z a0 hw [] b58 T64.heap n0 Zz (own_sb c3) (own_sb c5) rb64 rk64 Fs64 Fe64 Fc64 Vr64) hZ2 (own_w hw 97 rfl) (own_w hw 8 rfl) (by decide) (by decide)) q66a q66c (g := (F65 173 [(.ref b58)])) rfl (by rw [hml]; rfl) (Steps.refl _) (argsL := []) (rest := []) (lenOf pd_0_4 rfl) rfl (by show 2 * 0 + _ ≤ _; exact Nat.le_of_eq rfl) (hb hby at_173) (fun _ _ => ⟨rfl, rfl, (by decide : 8 + 0 ≤ _), (by decide : 28 + 0 ≤ _)⟩)
      dsimp only [Pt.U, Pt.locs, Pt.cells, Pt.slots] at X66 l66 y66 z66 st66 hQ66
      subst l66 y66 z66
      obtain ⟨rfl, N66q, E66⟩ := hQ66
      have N66 := Fr.app N64 N66q
      refine ownW_step (T' := T66) (f' := (F65 176 [(.int (own_bs [(own_sb c3), (own_sb c5)]))])) (fun t k => st66.trans k) ?_
      let F67 : Nat → List Value → JFrame := fun a b => mkF m a #[.val (.int p1), .val (.int p2), .val (.int p3), .val (.int p4), .val (.int p5), .val (.int (2 : Int32)), .val (.int c3), .val (.int c5), .val (.int c7), .val (.int c9), .val (.ref b54), .val (.ref b58), .val (.int (own_bs [(own_sb c3), (own_sb c5)])), .unset, .unset] b
      refine ownW_step (T' := T66) (f' := (F67 178 [])) (fun t k => XS.istore X66.here hx rfl (hb hby at_176) rfl (l' := #[.val (.int p1), .val (.int p2), .val (.int p3), .val (.int p4), .val (.int p5), .val (.int (2 : Int32)), .val (.int c3), .val (.int c5), .val (.int c7), .val (.int c9), .val (.ref b54), .val (.ref b58), .val (.int (own_bs [(own_sb c3), (own_sb c5)])), .unset, .unset]) rfl k) ?_
      refine ownW_step (T' := T66) (f' := (F67 180 [(.int (2 : Int32))])) (fun t k => XS.iload X66.here hx rfl (hb hby at_178) rfl k) ?_
      let F68 : Nat → List Value → JFrame := fun a b => mkF m a #[.val (.int p1), .val (.int p2), .val (.int p3), .val (.int p4), .val (.int p5), .val (.int (2 : Int32)), .val (.int c3), .val (.int c5), .val (.int c7), .val (.int c9), .val (.ref b54), .val (.ref b58), .val (.int (own_bs [(own_sb c3), (own_sb c5)])), .val (.int (2 : Int32)), .unset] b
      refine ownW_step (T' := T66) (f' := (F68 182 [])) (fun t k => XS.istore X66.here hx rfl (hb hby at_180) rfl (l' := #[.val (.int p1), .val (.int p2), .val (.int p3), .val (.int p4), .val (.int p5), .val (.int (2 : Int32)), .val (.int c3), .val (.int c5), .val (.int c7), .val (.int c9), .val (.ref b54), .val (.ref b58), .val (.int (own_bs [(own_sb c3), (own_sb c5)])), .val (.int (2 : Int32)), .unset]) rfl k) ?_
      refine ownW_step (T' := T66) (f' := (F68 184 [(.int (2 : Int32))])) (fun t k => XS.iload X66.here hx rfl (hb hby at_182) rfl k) ?_
      refine ownW_step (T' := T66) (f' := (F68 185 [(.int (3 : Int32)), (.int (2 : Int32))])) (fun t k => XS.iconst X66.here hx rfl (hb hby at_184) k) ?_
      refine ownW_step (T' := T66) (f' := (F68 199 [])) (fun t k => XS.icmpYes X66.here hx rfl (pc0 := 185) (pc' := 199) rfl (hb hby at_185) rfl (flt (by decide : ¬ ((3 : Int32) < (2 : Int32)))).2.2.2 (by decide) (by decide) k) ?_
      refine ownW_step (T' := T66) (f' := (F68 201 [(.int (2 : Int32))])) (fun t k => XS.iload X66.here hx rfl (hb hby at_199) rfl k) ?_
      refine ownW_step (T' := T66) (f' := (F68 202 [(.int (2 : Int32)), (.int (2 : Int32))])) (fun t k => XS.iconst X66.here hx rfl (hb hby at_201) k) ?_
      refine ownW_step (T' := T66) (f' := (F68 216 [])) (fun t k => XS.icmpYes X66.here hx rfl (pc0 := 202) (pc' := 216) rfl (hb hby at_202) rfl (flt (by decide : ¬ ((2 : Int32) < (2 : Int32)))).2.2.2 (by decide) (by decide) k) ?_
      have J233_70 : ∀ (T_70 : State) (l_70 : List Loc) (X_70 : Stand p l e room_1 (s.setVm T62.vm) m #[(.int p1), (.int p2), (.int p3), (.int p4), (.int p5)] below meth c T_70 l_70 8 28) (e_70 : T_70.heap = T64.heap) (N_70 : Fr n0 l_70) (xa69 : Int32) (hp1 : ((xa69 = (1 : Int32) ∧ (own_bl c5) = (0 : Int32)) ∨ (¬ (own_bl c5) = (0 : Int32) ∧ xa69 = (2 : Int32)))), OwnEndsW p e below s (Q0 n0) room_1.cells room_1.slots T_70 (mkF m 233 #[.val (.int p1), .val (.int p2), .val (.int p3), .val (.int p4), .val (.int p5), .val (.int (2 : Int32)), .val (.int c3), .val (.int c5), .val (.int c7), .val (.int c9), .val (.ref b54), .val (.ref b58), .val (.int (own_bs [(own_sb c3), (own_sb c5)])), .val (.int xa69), .unset] []) := by
        intro T_70 l_70 X_70 e_70 N_70 xa69 hp1
        have J249_72 : ∀ (T_72 : State) (l_72 : List Loc) (X_72 : Stand p l e room_1 (s.setVm T62.vm) m #[(.int p1), (.int p2), (.int p3), (.int p4), (.int p5)] below meth c T_72 l_72 8 28) (e_72 : T_72.heap = T64.heap) (N_72 : Fr n0 l_72) (xa71 : Int32) (hp0 : ((xa71 = (0 : Int32) ∧ (own_bl c3) = (0 : Int32)) ∨ (¬ (own_bl c3) = (0 : Int32) ∧ ((xa71 = (1 : Int32) ∧ (own_bl c5) = (0 : Int32)) ∨ (¬ (own_bl c5) = (0 : Int32) ∧ xa71 = (2 : Int32)))))), OwnEndsW p e below s (Q0 n0) room_1.cells room_1.slots T_72 (mkF m 249 #[.val (.int p1), .val (.int p2), .val (.int p3), .val (.int p4), .val (.int p5), .val (.int (2 : Int32)), .val (.int c3), .val (.int c5), .val (.int c7), .val (.int c9), .val (.ref b54), .val (.ref b58), .val (.int (own_bs [(own_sb c3), (own_sb c5)])), .val (.int xa71), .unset] []) := by
          intro T_72 l_72 X_72 e_72 N_72 xa71 hp0
          rcases hp0 with ⟨rfl, hbl0⟩ | ⟨hbl0, (⟨rfl, hbl1⟩ | ⟨hbl1, rfl⟩)⟩
          · skip
            let F73 : Nat → List Value → JFrame := fun a b => mkF m a #[.val (.int p1), .val (.int p2), .val (.int p3), .val (.int p4), .val (.int p5), .val (.int (2 : Int32)), .val (.int c3), .val (.int c5), .val (.int c7), .val (.int c9), .val (.ref b54), .val (.ref b58), .val (.int (own_bs [(own_sb c3), (own_sb c5)])), .val (.int (0 : Int32)), .unset] b
            refine ownW_step (T' := T_72) (f' := (F73 251 [(.int (0 : Int32))])) (fun t k => XS.iload X_72.here hx rfl (hb hby at_249) rfl k) ?_
            refine ownW_step (T' := T_72) (f' := (F73 253 [(.int (2 : Int32)), (.int (0 : Int32))])) (fun t k => XS.iload X_72.here hx rfl (hb hby at_251) rfl k) ?_
            refine ownW_step (T' := T_72) (f' := (F73 262 [])) (fun t k => XS.icmpYes X_72.here hx rfl (pc0 := 253) (pc' := 262) rfl (hb hby at_253) rfl (tlt (by decide : (0 : Int32) < (2 : Int32))).1 (by decide) (by decide) k) ?_
            refine ownW_step (T' := T_72) (f' := (F73 264 [(.ref b54)])) (fun t k => XS.aload X_72.here hx rfl (hb hby at_262) rfl rfl k) ?_
            refine ownW_step (T' := T_72) (f' := (F73 266 [(.int (0 : Int32)), (.ref b54)])) (fun t k => XS.iload X_72.here hx rfl (hb hby at_264) rfl k) ?_
            obtain ⟨cl74, Ar74, q74, S74, M74, H74, G74⟩ := id V_b54
            have hin74 : ¬ ((0 : Int32) < 0 ∨ cl74.slots.size ≤ ((0 : Int32)).toNatClampNeg) := inb_of S74 ⟨by decide, by decide⟩
            have hat74 : cl74.slots[((0 : Int32)).toNatClampNeg]? = some (.int c3) := own_at hin74 H74 0 rfl rfl
            refine ownW_step (T' := T_72) (f' := (F73 267 [(.int c3)])) (fun t k => X_72.caload hx (j := (0 : Int32)) (v := (.int c3)) (by rw [e_72]; exact Ar74.1) (State.isArrayOf_alike hZ2.alike Ar74.2.1) Ar74.2.2 hin74 hat74 (g := (F73 266 [(.int (0 : Int32)), (.ref b54)])) rfl rfl (hb hby at_266) _ k) ?_
            refine ownW_step (T' := T_72) (f' := (F73 269 [(.int (64 : Int32)), (.int c3)])) (fun t k => XS.bipush X_72.here hx rfl (hb hby at_267) k) ?_
            by_cases hc269_75 : c3 = (64 : Int32)
            · skip
              refine ownW_step (T' := T_72) (f' := (F73 278 [])) (fun t k => XS.icmpYes X_72.here hx rfl (pc0 := 269) (pc' := 278) rfl (hb hby at_269) rfl (teq hc269_75).1 (by decide) (by decide) k) ?_
              refine ownW_step (T' := T_72) (f' := (F73 280 [(.int (0 : Int32))])) (fun t k => XS.iload X_72.here hx rfl (hb hby at_278) rfl k) ?_
              refine ownW_step (T' := T_72) (f' := (F73 281 [(.int (1 : Int32)), (.int (0 : Int32))])) (fun t k => XS.iconst X_72.here hx rfl (hb hby at_280) k) ?_
              refine ownW_step (T' := T_72) (f' := (F73 282 [(.int (1 : Int32))])) (fun t k => XS.iadd X_72.here hx rfl (hb hby at_281) rfl k) ?_
              refine ownW_step (T' := T_72) (f' := (F73 284 [(.int (2 : Int32)), (.int (1 : Int32))])) (fun t k => XS.iload X_72.here hx rfl (hb hby at_282) rfl k) ?_
              refine ownW_step (T' := T_72) (f' := (F73 293 [])) (fun t k => XS.icmpYes X_72.here hx rfl (pc0 := 284) (pc' := 293) rfl (hb hby at_284) rfl (feq (by decide : ¬ ((1 : Int32) = (2 : Int32)))).2 (by decide) (by decide) k) ?_
              refine ownW_step (T' := T_72) (f' := (F73 295 [(.ref b54)])) (fun t k => XS.aload X_72.here hx rfl (hb hby at_293) rfl rfl k) ?_
              refine ownW_step (T' := T_72) (f' := (F73 297 [(.int (0 : Int32)), (.ref b54)])) (fun t k => XS.iload X_72.here hx rfl (hb hby at_295) rfl k) ?_
              refine ownW_step (T' := T_72) (f' := (F73 298 [(.int (1 : Int32)), (.int (0 : Int32)), (.ref b54)])) (fun t k => XS.iconst X_72.here hx rfl (hb hby at_297) k) ?_
              refine ownW_step (T' := T_72) (f' := (F73 299 [(.int (1 : Int32)), (.ref b54)])) (fun t k => XS.iadd X_72.here hx rfl (hb hby at_298) rfl k) ?_
              obtain ⟨cl76, Ar76, q76, S76, M76, H76, G76⟩ := id V_b54
              have hin76 : ¬ ((1 : Int32) < 0 ∨ cl76.slots.size ≤ ((1 : Int32)).toNatClampNeg) := inb_of S76 ⟨by decide, by decide⟩
              have hat76 : cl76.slots[((1 : Int32)).toNatClampNeg]? = some (.int c5) := own_at hin76 H76 1 rfl rfl
              refine ownW_step (T' := T_72) (f' := (F73 300 [(.int c5)])) (fun t k => X_72.caload hx (j := (1 : Int32)) (v := (.int c5)) (by rw [e_72]; exact Ar76.1) (State.isArrayOf_alike hZ2.alike Ar76.2.1) Ar76.2.2 hin76 hat76 (g := (F73 299 [(.int (1 : Int32)), (.ref b54)])) rfl rfl (hb hby at_299) _ k) ?_
              obtain ⟨_, _, ⟨T77, L77, k77, n77⟩, -, X77, ⟨Lc77, hQ77, l77, y77, z77⟩, st77⟩ := Jvm.LawKit.callS X_72 hx (y := (⟨"com/example/lit2/lit2/input/LineBeginsSectionPinLaw", "follows", "(C)Z"⟩ : MethodName)) hown2 (mvT hZ2 (own_w hw 111 rfl)) (mvT hZ2 (own_w hw 112 rfl)) (mvT hZ2 (own_w hw 3 rfl)) (mvT hZ2 (own_w hw 113 rfl)) (by decide) (backOf (W := 0) (rm17 l Z a0 hw [] c5 T64.heap n0 Zz) hZ2 (own_w hw 113 rfl) (own_w hw 3 rfl) (by decide) (by decide)) (g := (F73 300 [(.int c5)])) rfl (by rw [hml]; rfl) (argsL := [(.int c5)]) (rest := []) (lenOf pd_0_5 rfl) rfl (by show 2 * 0 + _ ≤ _; exact Nat.le_of_eq rfl) (hb hby at_300) (fun _ _ => ⟨rfl, e_72, (by decide : 8 + 0 ≤ _), (by decide : 28 + 0 ≤ _)⟩)
              dsimp only [Pt.U, Pt.locs, Pt.cells, Pt.slots] at X77 l77 y77 z77 st77 hQ77
              subst l77 y77 z77
              obtain ⟨rfl, N77q, E77⟩ := hQ77
              have N77 := Fr.app N_72 N77q
              refine ownW_step (T' := T77) (f' := (F73 303 [(.int (own_fo c5))])) (fun t k => st77 t k) ?_
              let F78 : Nat → List Value → JFrame := fun a b => mkF m a #[.val (.int p1), .val (.int p2), .val (.int p3), .val (.int p4), .val (.int p5), .val (.int (2 : Int32)), .val (.int c3), .val (.int c5), .val (.int c7), .val (.int c9), .val (.ref b54), .val (.ref b58), .val (.int (own_bs [(own_sb c3), (own_sb c5)])), .val (.int (0 : Int32)), .val (.int (own_fo c5))] b
              refine ownW_step (T' := T77) (f' := (F78 305 [])) (fun t k => XS.istore X77.here hx rfl (hb hby at_303) rfl (l' := #[.val (.int p1), .val (.int p2), .val (.int p3), .val (.int p4), .val (.int p5), .val (.int (2 : Int32)), .val (.int c3), .val (.int c5), .val (.int c7), .val (.int c9), .val (.ref b54), .val (.ref b58), .val (.int (own_bs [(own_sb c3), (own_sb c5)])), .val (.int (0 : Int32)), .val (.int (own_fo c5))]) rfl k) ?_
              refine ownW_step (T' := T77) (f' := (F78 307 [(.int (own_bs [(own_sb c3), (own_sb c5)]))])) (fun t k => XS.iload X77.here hx rfl (hb hby at_305) rfl k) ?_
              refine ownW_step (T' := T77) (f' := (F78 309 [(.int (own_fo c5)), (.int (own_bs [(own_sb c3), (own_sb c5)]))])) (fun t k => XS.iload X77.here hx rfl (hb hby at_307) rfl k) ?_
              refine ownW_step (T' := T77) (f' := (F78 312 [])) (fun t k => XS.icmpNo X77.here hx rfl (hb hby at_309) rfl (teq ((own_stopY hC3 hc269_75).trans (own_nxf hC5))).2 k) ?_
              refine ownW_step (T' := T77) (f' := (F78 313 [(.int (1 : Int32))])) (fun t k => XS.iconst X77.here hx rfl (hb hby at_312) k) ?_
              refine ownW_step (T' := T77) (f' := (F78 317 [(.int (1 : Int32))])) (fun t k => XS.goto X77.here hx rfl (pc0 := 313) (pc' := 317) rfl (hb hby at_313) (by decide) (by decide) k) ?_
              exact ownW_retN X77 hS62 (by rw [E77]; exact hg64) hx hlk (t := .boolean) Bd.returns (by simp) (hb hby at_317) (by decide) (by decide) ⟨rfl, N77⟩
            · skip
              refine ownW_step (T' := T_72) (f' := (F73 272 [])) (fun t k => XS.icmpNo X_72.here hx rfl (hb hby at_269) rfl (feq hc269_75).1 k) ?_
              refine ownW_step (T' := T_72) (f' := (F73 273 [(.int (0 : Int32))])) (fun t k => XS.iconst X_72.here hx rfl (hb hby at_272) k) ?_
              let F79 : Nat → List Value → JFrame := fun a b => mkF m a #[.val (.int p1), .val (.int p2), .val (.int p3), .val (.int p4), .val (.int p5), .val (.int (2 : Int32)), .val (.int c3), .val (.int c5), .val (.int c7), .val (.int c9), .val (.ref b54), .val (.ref b58), .val (.int (own_bs [(own_sb c3), (own_sb c5)])), .val (.int (0 : Int32)), .val (.int (0 : Int32))] b
              refine ownW_step (T' := T_72) (f' := (F79 275 [])) (fun t k => XS.istore X_72.here hx rfl (hb hby at_273) rfl (l' := #[.val (.int p1), .val (.int p2), .val (.int p3), .val (.int p4), .val (.int p5), .val (.int (2 : Int32)), .val (.int c3), .val (.int c5), .val (.int c7), .val (.int c9), .val (.ref b54), .val (.ref b58), .val (.int (own_bs [(own_sb c3), (own_sb c5)])), .val (.int (0 : Int32)), .val (.int (0 : Int32))]) rfl k) ?_
              refine ownW_step (T' := T_72) (f' := (F79 305 [])) (fun t k => XS.goto X_72.here hx rfl (pc0 := 275) (pc' := 305) rfl (hb hby at_275) (by decide) (by decide) k) ?_
              refine ownW_step (T' := T_72) (f' := (F79 307 [(.int (own_bs [(own_sb c3), (own_sb c5)]))])) (fun t k => XS.iload X_72.here hx rfl (hb hby at_305) rfl k) ?_
              refine ownW_step (T' := T_72) (f' := (F79 309 [(.int (0 : Int32)), (.int (own_bs [(own_sb c3), (own_sb c5)]))])) (fun t k => XS.iload X_72.here hx rfl (hb hby at_307) rfl k) ?_
              refine ownW_step (T' := T_72) (f' := (F79 312 [])) (fun t k => XS.icmpNo X_72.here hx rfl (hb hby at_309) rfl (teq (own_stopN hC3 hbl0 hc269_75)).2 k) ?_
              refine ownW_step (T' := T_72) (f' := (F79 313 [(.int (1 : Int32))])) (fun t k => XS.iconst X_72.here hx rfl (hb hby at_312) k) ?_
              refine ownW_step (T' := T_72) (f' := (F79 317 [(.int (1 : Int32))])) (fun t k => XS.goto X_72.here hx rfl (pc0 := 313) (pc' := 317) rfl (hb hby at_313) (by decide) (by decide) k) ?_
              exact ownW_retN X_72 hS62 (by rw [e_72]; exact hg64) hx hlk (t := .boolean) Bd.returns (by simp) (hb hby at_317) (by decide) (by decide) ⟨rfl, N_72⟩
          · skip
            let F80 : Nat → List Value → JFrame := fun a b => mkF m a #[.val (.int p1), .val (.int p2), .val (.int p3), .val (.int p4), .val (.int p5), .val (.int (2 : Int32)), .val (.int c3), .val (.int c5), .val (.int c7), .val (.int c9), .val (.ref b54), .val (.ref b58), .val (.int (own_bs [(own_sb c3), (own_sb c5)])), .val (.int (1 : Int32)), .unset] b
            refine ownW_step (T' := T_72) (f' := (F80 251 [(.int (1 : Int32))])) (fun t k => XS.iload X_72.here hx rfl (hb hby at_249) rfl k) ?_
            refine ownW_step (T' := T_72) (f' := (F80 253 [(.int (2 : Int32)), (.int (1 : Int32))])) (fun t k => XS.iload X_72.here hx rfl (hb hby at_251) rfl k) ?_
            refine ownW_step (T' := T_72) (f' := (F80 262 [])) (fun t k => XS.icmpYes X_72.here hx rfl (pc0 := 253) (pc' := 262) rfl (hb hby at_253) rfl (tlt (by decide : (1 : Int32) < (2 : Int32))).1 (by decide) (by decide) k) ?_
            refine ownW_step (T' := T_72) (f' := (F80 264 [(.ref b54)])) (fun t k => XS.aload X_72.here hx rfl (hb hby at_262) rfl rfl k) ?_
            refine ownW_step (T' := T_72) (f' := (F80 266 [(.int (1 : Int32)), (.ref b54)])) (fun t k => XS.iload X_72.here hx rfl (hb hby at_264) rfl k) ?_
            obtain ⟨cl81, Ar81, q81, S81, M81, H81, G81⟩ := id V_b54
            have hin81 : ¬ ((1 : Int32) < 0 ∨ cl81.slots.size ≤ ((1 : Int32)).toNatClampNeg) := inb_of S81 ⟨by decide, by decide⟩
            have hat81 : cl81.slots[((1 : Int32)).toNatClampNeg]? = some (.int c5) := own_at hin81 H81 1 rfl rfl
            refine ownW_step (T' := T_72) (f' := (F80 267 [(.int c5)])) (fun t k => X_72.caload hx (j := (1 : Int32)) (v := (.int c5)) (by rw [e_72]; exact Ar81.1) (State.isArrayOf_alike hZ2.alike Ar81.2.1) Ar81.2.2 hin81 hat81 (g := (F80 266 [(.int (1 : Int32)), (.ref b54)])) rfl rfl (hb hby at_266) _ k) ?_
            refine ownW_step (T' := T_72) (f' := (F80 269 [(.int (64 : Int32)), (.int c5)])) (fun t k => XS.bipush X_72.here hx rfl (hb hby at_267) k) ?_
            by_cases hc269_82 : c5 = (64 : Int32)
            · skip
              refine ownW_step (T' := T_72) (f' := (F80 278 [])) (fun t k => XS.icmpYes X_72.here hx rfl (pc0 := 269) (pc' := 278) rfl (hb hby at_269) rfl (teq hc269_82).1 (by decide) (by decide) k) ?_
              refine ownW_step (T' := T_72) (f' := (F80 280 [(.int (1 : Int32))])) (fun t k => XS.iload X_72.here hx rfl (hb hby at_278) rfl k) ?_
              refine ownW_step (T' := T_72) (f' := (F80 281 [(.int (1 : Int32)), (.int (1 : Int32))])) (fun t k => XS.iconst X_72.here hx rfl (hb hby at_280) k) ?_
              refine ownW_step (T' := T_72) (f' := (F80 282 [(.int (2 : Int32))])) (fun t k => XS.iadd X_72.here hx rfl (hb hby at_281) rfl k) ?_
              refine ownW_step (T' := T_72) (f' := (F80 284 [(.int (2 : Int32)), (.int (2 : Int32))])) (fun t k => XS.iload X_72.here hx rfl (hb hby at_282) rfl k) ?_
              refine ownW_step (T' := T_72) (f' := (F80 287 [])) (fun t k => XS.icmpNo X_72.here hx rfl (hb hby at_284) rfl (teq (by decide : (2 : Int32) = (2 : Int32))).2 k) ?_
              refine ownW_step (T' := T_72) (f' := (F80 288 [(.int (1 : Int32))])) (fun t k => XS.iconst X_72.here hx rfl (hb hby at_287) k) ?_
              let F83 : Nat → List Value → JFrame := fun a b => mkF m a #[.val (.int p1), .val (.int p2), .val (.int p3), .val (.int p4), .val (.int p5), .val (.int (2 : Int32)), .val (.int c3), .val (.int c5), .val (.int c7), .val (.int c9), .val (.ref b54), .val (.ref b58), .val (.int (own_bs [(own_sb c3), (own_sb c5)])), .val (.int (1 : Int32)), .val (.int (1 : Int32))] b
              refine ownW_step (T' := T_72) (f' := (F83 290 [])) (fun t k => XS.istore X_72.here hx rfl (hb hby at_288) rfl (l' := #[.val (.int p1), .val (.int p2), .val (.int p3), .val (.int p4), .val (.int p5), .val (.int (2 : Int32)), .val (.int c3), .val (.int c5), .val (.int c7), .val (.int c9), .val (.ref b54), .val (.ref b58), .val (.int (own_bs [(own_sb c3), (own_sb c5)])), .val (.int (1 : Int32)), .val (.int (1 : Int32))]) rfl k) ?_
              refine ownW_step (T' := T_72) (f' := (F83 305 [])) (fun t k => XS.goto X_72.here hx rfl (pc0 := 290) (pc' := 305) rfl (hb hby at_290) (by decide) (by decide) k) ?_
              refine ownW_step (T' := T_72) (f' := (F83 307 [(.int (own_bs [(own_sb c3), (own_sb c5)]))])) (fun t k => XS.iload X_72.here hx rfl (hb hby at_305) rfl k) ?_
              refine ownW_step (T' := T_72) (f' := (F83 309 [(.int (1 : Int32)), (.int (own_bs [(own_sb c3), (own_sb c5)]))])) (fun t k => XS.iload X_72.here hx rfl (hb hby at_307) rfl k) ?_
              refine ownW_step (T' := T_72) (f' := (F83 312 [])) (fun t k => XS.icmpNo X_72.here hx rfl (hb hby at_309) rfl (teq ((own_skip hC3 hbl0).trans (own_stopY hC5 hc269_82))).2 k) ?_
              refine ownW_step (T' := T_72) (f' := (F83 313 [(.int (1 : Int32))])) (fun t k => XS.iconst X_72.here hx rfl (hb hby at_312) k) ?_
              refine ownW_step (T' := T_72) (f' := (F83 317 [(.int (1 : Int32))])) (fun t k => XS.goto X_72.here hx rfl (pc0 := 313) (pc' := 317) rfl (hb hby at_313) (by decide) (by decide) k) ?_
              exact ownW_retN X_72 hS62 (by rw [e_72]; exact hg64) hx hlk (t := .boolean) Bd.returns (by simp) (hb hby at_317) (by decide) (by decide) ⟨rfl, N_72⟩
            · skip
              refine ownW_step (T' := T_72) (f' := (F80 272 [])) (fun t k => XS.icmpNo X_72.here hx rfl (hb hby at_269) rfl (feq hc269_82).1 k) ?_
              refine ownW_step (T' := T_72) (f' := (F80 273 [(.int (0 : Int32))])) (fun t k => XS.iconst X_72.here hx rfl (hb hby at_272) k) ?_
              let F84 : Nat → List Value → JFrame := fun a b => mkF m a #[.val (.int p1), .val (.int p2), .val (.int p3), .val (.int p4), .val (.int p5), .val (.int (2 : Int32)), .val (.int c3), .val (.int c5), .val (.int c7), .val (.int c9), .val (.ref b54), .val (.ref b58), .val (.int (own_bs [(own_sb c3), (own_sb c5)])), .val (.int (1 : Int32)), .val (.int (0 : Int32))] b
              refine ownW_step (T' := T_72) (f' := (F84 275 [])) (fun t k => XS.istore X_72.here hx rfl (hb hby at_273) rfl (l' := #[.val (.int p1), .val (.int p2), .val (.int p3), .val (.int p4), .val (.int p5), .val (.int (2 : Int32)), .val (.int c3), .val (.int c5), .val (.int c7), .val (.int c9), .val (.ref b54), .val (.ref b58), .val (.int (own_bs [(own_sb c3), (own_sb c5)])), .val (.int (1 : Int32)), .val (.int (0 : Int32))]) rfl k) ?_
              refine ownW_step (T' := T_72) (f' := (F84 305 [])) (fun t k => XS.goto X_72.here hx rfl (pc0 := 275) (pc' := 305) rfl (hb hby at_275) (by decide) (by decide) k) ?_
              refine ownW_step (T' := T_72) (f' := (F84 307 [(.int (own_bs [(own_sb c3), (own_sb c5)]))])) (fun t k => XS.iload X_72.here hx rfl (hb hby at_305) rfl k) ?_
              refine ownW_step (T' := T_72) (f' := (F84 309 [(.int (0 : Int32)), (.int (own_bs [(own_sb c3), (own_sb c5)]))])) (fun t k => XS.iload X_72.here hx rfl (hb hby at_307) rfl k) ?_
              refine ownW_step (T' := T_72) (f' := (F84 312 [])) (fun t k => XS.icmpNo X_72.here hx rfl (hb hby at_309) rfl (teq ((own_skip hC3 hbl0).trans (own_stopN hC5 hbl1 hc269_82))).2 k) ?_
              refine ownW_step (T' := T_72) (f' := (F84 313 [(.int (1 : Int32))])) (fun t k => XS.iconst X_72.here hx rfl (hb hby at_312) k) ?_
              refine ownW_step (T' := T_72) (f' := (F84 317 [(.int (1 : Int32))])) (fun t k => XS.goto X_72.here hx rfl (pc0 := 313) (pc' := 317) rfl (hb hby at_313) (by decide) (by decide) k) ?_
              exact ownW_retN X_72 hS62 (by rw [e_72]; exact hg64) hx hlk (t := .boolean) Bd.returns (by simp) (hb hby at_317) (by decide) (by decide) ⟨rfl, N_72⟩
          · skip
            refine ownW_step (T' := T_72) (f' := (F68 251 [(.int (2 : Int32))])) (fun t k => XS.iload X_72.here hx rfl (hb hby at_249) rfl k) ?_
            refine ownW_step (T' := T_72) (f' := (F68 253 [(.int (2 : Int32)), (.int (2 : Int32))])) (fun t k => XS.iload X_72.here hx rfl (hb hby at_251) rfl k) ?_
            refine ownW_step (T' := T_72) (f' := (F68 256 [])) (fun t k => XS.icmpNo X_72.here hx rfl (hb hby at_253) rfl (flt (by decide : ¬ ((2 : Int32) < (2 : Int32)))).1 k) ?_
            refine ownW_step (T' := T_72) (f' := (F68 257 [(.int (0 : Int32))])) (fun t k => XS.iconst X_72.here hx rfl (hb hby at_256) k) ?_
            let F85 : Nat → List Value → JFrame := fun a b => mkF m a #[.val (.int p1), .val (.int p2), .val (.int p3), .val (.int p4), .val (.int p5), .val (.int (2 : Int32)), .val (.int c3), .val (.int c5), .val (.int c7), .val (.int c9), .val (.ref b54), .val (.ref b58), .val (.int (own_bs [(own_sb c3), (own_sb c5)])), .val (.int (2 : Int32)), .val (.int (0 : Int32))] b
            refine ownW_step (T' := T_72) (f' := (F85 259 [])) (fun t k => XS.istore X_72.here hx rfl (hb hby at_257) rfl (l' := #[.val (.int p1), .val (.int p2), .val (.int p3), .val (.int p4), .val (.int p5), .val (.int (2 : Int32)), .val (.int c3), .val (.int c5), .val (.int c7), .val (.int c9), .val (.ref b54), .val (.ref b58), .val (.int (own_bs [(own_sb c3), (own_sb c5)])), .val (.int (2 : Int32)), .val (.int (0 : Int32))]) rfl k) ?_
            refine ownW_step (T' := T_72) (f' := (F85 305 [])) (fun t k => XS.goto X_72.here hx rfl (pc0 := 259) (pc' := 305) rfl (hb hby at_259) (by decide) (by decide) k) ?_
            refine ownW_step (T' := T_72) (f' := (F85 307 [(.int (own_bs [(own_sb c3), (own_sb c5)]))])) (fun t k => XS.iload X_72.here hx rfl (hb hby at_305) rfl k) ?_
            refine ownW_step (T' := T_72) (f' := (F85 309 [(.int (0 : Int32)), (.int (own_bs [(own_sb c3), (own_sb c5)]))])) (fun t k => XS.iload X_72.here hx rfl (hb hby at_307) rfl k) ?_
            refine ownW_step (T' := T_72) (f' := (F85 312 [])) (fun t k => XS.icmpNo X_72.here hx rfl (hb hby at_309) rfl (teq ((own_skip hC3 hbl0).trans (own_skip hC5 hbl1))).2 k) ?_
            refine ownW_step (T' := T_72) (f' := (F85 313 [(.int (1 : Int32))])) (fun t k => XS.iconst X_72.here hx rfl (hb hby at_312) k) ?_
            refine ownW_step (T' := T_72) (f' := (F85 317 [(.int (1 : Int32))])) (fun t k => XS.goto X_72.here hx rfl (pc0 := 313) (pc' := 317) rfl (hb hby at_313) (by decide) (by decide) k) ?_
            exact ownW_retN X_72 hS62 (by rw [e_72]; exact hg64) hx hlk (t := .boolean) Bd.returns (by simp) (hb hby at_317) (by decide) (by decide) ⟨rfl, N_72⟩
        let F86 : Nat → List Value → JFrame := fun a b => mkF m a #[.val (.int p1), .val (.int p2), .val (.int p3), .val (.int p4), .val (.int p5), .val (.int (2 : Int32)), .val (.int c3), .val (.int c5), .val (.int c7), .val (.int c9), .val (.ref b54), .val (.ref b58), .val (.int (own_bs [(own_sb c3), (own_sb c5)])), .val (.int xa69), .unset] b
        refine ownW_step (T' := T_70) (f' := (F86 235 [(.int (2 : Int32))])) (fun t k => XS.iload X_70.here hx rfl (hb hby at_233) rfl k) ?_
        refine ownW_step (T' := T_70) (f' := (F86 238 [])) (fun t k => XS.ifNo X_70.here hx rfl (hb hby at_235) rfl ((if0 _ _).trans (tlt (by decide : (0 : Int32) < (2 : Int32))).2.2.2) k) ?_
        refine ownW_step (T' := T_70) (f' := (F86 240 [(.int c3)])) (fun t k => XS.iload X_70.here hx rfl (hb hby at_238) rfl k) ?_
        obtain ⟨_, _, ⟨T87, L87, k87, n87⟩, -, X87, ⟨Lc87, hQ87, l87, y87, z87⟩, st87⟩ := Jvm.LawKit.callS X_70 hx (y := (⟨"com/example/lit2/lit2/input/LineBeginsSectionPinLaw", "blank", "(C)Z"⟩ : MethodName)) hown2 (mvT hZ2 (own_w hw 108 rfl)) (mvT hZ2 (own_w hw 109 rfl)) (mvT hZ2 (own_w hw 3 rfl)) (mvT hZ2 (own_w hw 110 rfl)) (by decide) (backOf (W := 0) (rm16 l Z a0 hw [] c3 T64.heap n0 Zz) hZ2 (own_w hw 110 rfl) (own_w hw 3 rfl) (by decide) (by decide)) (g := (F86 240 [(.int c3)])) rfl (by rw [hml]; rfl) (argsL := [(.int c3)]) (rest := []) (lenOf pd_0_5 rfl) rfl (by show 2 * 0 + _ ≤ _; exact Nat.le_of_eq rfl) (hb hby at_240) (fun _ _ => ⟨rfl, e_70, (by decide : 8 + 0 ≤ _), (by decide : 28 + 0 ≤ _)⟩)
        dsimp only [Pt.U, Pt.locs, Pt.cells, Pt.slots] at X87 l87 y87 z87 st87 hQ87
        subst l87 y87 z87
        obtain ⟨rfl, N87q, E87⟩ := hQ87
        have N87 := Fr.app N_70 N87q
        refine ownW_step (T' := T87) (f' := (F86 243 [(.int (own_bl c3))])) (fun t k => st87 t k) ?_
        by_cases hc243_88 : (own_bl c3) = (0 : Int32)
        · skip
          refine ownW_step (T' := T87) (f' := (F86 246 [])) (fun t k => XS.ifNo X87.here hx rfl (hb hby at_243) rfl ((if0 _ _).trans (teq hc243_88).2) k) ?_
          refine ownW_step (T' := T87) (f' := (F86 247 [(.int (0 : Int32))])) (fun t k => XS.iconst X87.here hx rfl (hb hby at_246) k) ?_
          let F89 : Nat → List Value → JFrame := fun a b => mkF m a #[.val (.int p1), .val (.int p2), .val (.int p3), .val (.int p4), .val (.int p5), .val (.int (2 : Int32)), .val (.int c3), .val (.int c5), .val (.int c7), .val (.int c9), .val (.ref b54), .val (.ref b58), .val (.int (own_bs [(own_sb c3), (own_sb c5)])), .val (.int (0 : Int32)), .unset] b
          refine ownW_step (T' := T87) (f' := (F89 249 [])) (fun t k => XS.istore X87.here hx rfl (hb hby at_247) rfl (l' := #[.val (.int p1), .val (.int p2), .val (.int p3), .val (.int p4), .val (.int p5), .val (.int (2 : Int32)), .val (.int c3), .val (.int c5), .val (.int c7), .val (.int c9), .val (.ref b54), .val (.ref b58), .val (.int (own_bs [(own_sb c3), (own_sb c5)])), .val (.int (0 : Int32)), .unset]) rfl k) ?_
          exact J249_72 T87 _ X87 E87 N87 (0 : Int32) (Or.inl ⟨rfl, hc243_88⟩)
        · skip
          refine ownW_step (T' := T87) (f' := (F86 249 [])) (fun t k => XS.ifYes X87.here hx rfl (pc0 := 243) (pc' := 249) rfl (hb hby at_243) rfl ((if0 _ _).trans (feq hc243_88).2) (by decide) (by decide) k) ?_
          exact J249_72 T87 _ X87 E87 N87 xa69 (Or.inr ⟨hc243_88, hp1⟩)
      refine ownW_step (T' := T66) (f' := (F68 218 [(.int (2 : Int32))])) (fun t k => XS.iload X66.here hx rfl (hb hby at_216) rfl k) ?_
      refine ownW_step (T' := T66) (f' := (F68 219 [(.int (1 : Int32)), (.int (2 : Int32))])) (fun t k => XS.iconst X66.here hx rfl (hb hby at_218) k) ?_
      refine ownW_step (T' := T66) (f' := (F68 222 [])) (fun t k => XS.icmpNo X66.here hx rfl (hb hby at_219) rfl (tlt (by decide : (1 : Int32) < (2 : Int32))).2.2.2 k) ?_
      refine ownW_step (T' := T66) (f' := (F68 224 [(.int c5)])) (fun t k => XS.iload X66.here hx rfl (hb hby at_222) rfl k) ?_
      obtain ⟨_, _, ⟨T90, L90, k90, n90⟩, -, X90, ⟨Lc90, hQ90, l90, y90, z90⟩, st90⟩ := Jvm.LawKit.callS X66 hx (y := (⟨"com/example/lit2/lit2/input/LineBeginsSectionPinLaw", "blank", "(C)Z"⟩ : MethodName)) hown2 (mvT hZ2 (own_w hw 108 rfl)) (mvT hZ2 (own_w hw 109 rfl)) (mvT hZ2 (own_w hw 3 rfl)) (mvT hZ2 (own_w hw 110 rfl)) (by decide) (backOf (W := 0) (rm16 l Z a0 hw [] c5 T64.heap n0 Zz) hZ2 (own_w hw 110 rfl) (own_w hw 3 rfl) (by decide) (by decide)) (g := (F68 224 [(.int c5)])) rfl (by rw [hml]; rfl) (argsL := [(.int c5)]) (rest := []) (lenOf pd_0_5 rfl) rfl (by show 2 * 0 + _ ≤ _; exact Nat.le_of_eq rfl) (hb hby at_224) (fun _ _ => ⟨rfl, E66, (by decide : 8 + 0 ≤ _), (by decide : 28 + 0 ≤ _)⟩)
      dsimp only [Pt.U, Pt.locs, Pt.cells, Pt.slots] at X90 l90 y90 z90 st90 hQ90
      subst l90 y90 z90
      obtain ⟨rfl, N90q, E90⟩ := hQ90
      have N90 := Fr.app N66 N90q
      refine ownW_step (T' := T90) (f' := (F68 227 [(.int (own_bl c5))])) (fun t k => st90 t k) ?_
      by_cases hc227_91 : (own_bl c5) = (0 : Int32)
      · skip
        refine ownW_step (T' := T90) (f' := (F68 230 [])) (fun t k => XS.ifNo X90.here hx rfl (hb hby at_227) rfl ((if0 _ _).trans (teq hc227_91).2) k) ?_
        refine ownW_step (T' := T90) (f' := (F68 231 [(.int (1 : Int32))])) (fun t k => XS.iconst X90.here hx rfl (hb hby at_230) k) ?_
        let F92 : Nat → List Value → JFrame := fun a b => mkF m a #[.val (.int p1), .val (.int p2), .val (.int p3), .val (.int p4), .val (.int p5), .val (.int (2 : Int32)), .val (.int c3), .val (.int c5), .val (.int c7), .val (.int c9), .val (.ref b54), .val (.ref b58), .val (.int (own_bs [(own_sb c3), (own_sb c5)])), .val (.int (1 : Int32)), .unset] b
        refine ownW_step (T' := T90) (f' := (F92 233 [])) (fun t k => XS.istore X90.here hx rfl (hb hby at_231) rfl (l' := #[.val (.int p1), .val (.int p2), .val (.int p3), .val (.int p4), .val (.int p5), .val (.int (2 : Int32)), .val (.int c3), .val (.int c5), .val (.int c7), .val (.int c9), .val (.ref b54), .val (.ref b58), .val (.int (own_bs [(own_sb c3), (own_sb c5)])), .val (.int (1 : Int32)), .unset]) rfl k) ?_
        exact J233_70 T90 _ X90 E90 N90 (1 : Int32) (Or.inl ⟨rfl, hc227_91⟩)
      · skip
        refine ownW_step (T' := T90) (f' := (F68 233 [])) (fun t k => XS.ifYes X90.here hx rfl (pc0 := 227) (pc' := 233) rfl (hb hby at_227) rfl ((if0 _ _).trans (feq hc227_91).2) (by decide) (by decide) k) ?_
        exact J233_70 T90 _ X90 E90 N90 (2 : Int32) (Or.inr ⟨hc227_91, rfl⟩)
    · skip
      let F93 : Nat → List Value → JFrame := fun a b => mkF m a #[.val (.int p1), .val (.int p2), .val (.int p3), .val (.int p4), .val (.int p5), .val (.int (3 : Int32)), .val (.int c3), .val (.int c5), .val (.int c7), .val (.int c9), .unset, .unset, .unset, .unset, .unset] b
      refine ownW_step (T' := T_11) (f' := (F93 35 [(.int (3 : Int32))])) (fun t k => XS.iload X_11.here hx rfl (hb hby at_33) rfl k) ?_
      refine ownW_step (T' := T_11) (f' := (F93 46 [])) (fun t k => XS.ifYes X_11.here hx rfl (pc0 := 35) (pc' := 46) rfl (hb hby at_35) rfl ((if0 _ _).trans (feq (by decide : ¬ ((3 : Int32) = (0 : Int32)))).2) (by decide) (by decide) k) ?_
      refine ownW_step (T' := T_11) (f' := (F93 48 [(.int (3 : Int32))])) (fun t k => XS.iload X_11.here hx rfl (hb hby at_46) rfl k) ?_
      refine ownW_step (T' := T_11) (f' := (F93 49 [(.int (1 : Int32)), (.int (3 : Int32))])) (fun t k => XS.iconst X_11.here hx rfl (hb hby at_48) k) ?_
      refine ownW_step (T' := T_11) (f' := (F93 65 [])) (fun t k => XS.icmpYes X_11.here hx rfl (pc0 := 49) (pc' := 65) rfl (hb hby at_49) rfl (feq (by decide : ¬ ((3 : Int32) = (1 : Int32)))).2 (by decide) (by decide) k) ?_
      refine ownW_step (T' := T_11) (f' := (F93 67 [(.int (3 : Int32))])) (fun t k => XS.iload X_11.here hx rfl (hb hby at_65) rfl k) ?_
      refine ownW_step (T' := T_11) (f' := (F93 68 [(.int (2 : Int32)), (.int (3 : Int32))])) (fun t k => XS.iconst X_11.here hx rfl (hb hby at_67) k) ?_
      refine ownW_step (T' := T_11) (f' := (F93 89 [])) (fun t k => XS.icmpYes X_11.here hx rfl (pc0 := 68) (pc' := 89) rfl (hb hby at_68) rfl (feq (by decide : ¬ ((3 : Int32) = (2 : Int32)))).2 (by decide) (by decide) k) ?_
      refine ownW_step (T' := T_11) (f' := (F93 91 [(.int (3 : Int32))])) (fun t k => XS.iload X_11.here hx rfl (hb hby at_89) rfl k) ?_
      refine ownW_step (T' := T_11) (f' := (F93 92 [(.int (3 : Int32)), (.int (3 : Int32))])) (fun t k => XS.iconst X_11.here hx rfl (hb hby at_91) k) ?_
      refine ownW_step (T' := T_11) (f' := (F93 95 [])) (fun t k => XS.icmpNo X_11.here hx rfl (hb hby at_92) rfl (teq (by decide : (3 : Int32) = (3 : Int32))).2 k) ?_
      refine ownW_step (T' := T_11) (f' := (F93 96 [(.int (3 : Int32))])) (fun t k => XS.iconst X_11.here hx rfl (hb hby at_95) k) ?_
      obtain ⟨T94, h94, k94, X94, e94, E94, A94, EX94, st94⟩ := newPE X_11 hx hZ (own_w hw 5 rfl) e_11 (g := (F93 96 [(.int (3 : Int32))])) rfl (hb hby at_96) rfl (by decide) (cap := 3) (by decide) (by decide) (by decide) (by decide) (ad := "[C") rfl
      obtain ⟨b94, g94⟩ : ∃ z, z = h0.size := ⟨_, rfl⟩
      rw [← g94] at A94 EX94 st94
      have g_b94 : n0 ≤ b94 := Nat.le_trans Zz (Nat.le_of_eq g94.symm)
      have sz_b94 : h0.size ≤ b94 := Nat.le_trans Kp.1 (Nat.le_of_eq g94.symm)
      replace S_CS := S_CS.ext E94
      replace S_SC := S_SC.ext E94
      replace S_U := S_U.ext E94
      replace S_I := S_I.ext E94
      replace Zz := Nat.le_trans Zz E94.1
      replace Kp := Kp.ext E94
      have V_b94 : Arv Z h94 b94 k94 .char (3 : Int32) [(.int (0 : Int32)), (.int (0 : Int32)), (.int (0 : Int32))] (.int (0 : Int32)) := (Arv.new A94 (by decide)).pad (pad_rep [] (.int (0 : Int32)) 3)
      have EX_b94 := EX94
      refine ownW_step (T' := T94) (f' := (F93 98 [(.ref b94)])) (fun t k => st94 t k) ?_
      refine ownW_step (T' := T94) (f' := (F93 99 [(.ref b94), (.ref b94)])) (fun t k => XS.dup X94.here hx rfl (hb hby at_98) rfl rfl k) ?_
      refine ownW_step (T' := T94) (f' := (F93 100 [(.int (0 : Int32)), (.ref b94), (.ref b94)])) (fun t k => XS.iconst X94.here hx rfl (hb hby at_99) k) ?_
      refine ownW_step (T' := T94) (f' := (F93 102 [(.int c3), (.int (0 : Int32)), (.ref b94), (.ref b94)])) (fun t k => XS.iload X94.here hx rfl (hb hby at_100) rfl k) ?_
      obtain ⟨cl95, Ar95, q95, S95, M95, H95, G95⟩ := V_b94
      have hin95 : ¬ ((0 : Int32) < 0 ∨ cl95.slots.size ≤ ((0 : Int32)).toNatClampNeg) := inb_of S95 ⟨by decide, by decide⟩
      obtain ⟨T95, h95, X95, e95, W95, st95⟩ := stC X94 hx hZ e94 Ar95 (j := (0 : Int32)) hin95 (g := (F93 102 [(.int c3), (.int (0 : Int32)), (.ref b94), (.ref b94)])) rfl rfl (hb hby at_102)
      have V_b94 : Arv Z h95 b94 k94 .char (3 : Int32) [(.int c3), (.int (0 : Int32)), (.int (0 : Int32))] (.int (0 : Int32)) := by have q := Arv.set Ar95 q95 S95 M95 H95 G95 (fits_nar_char _) W95 0 rfl (Nat.le_of_ble_eq_true rfl); rw [own_nc hC3] at q; exact q
      replace S_CS := S_CS.wr W95
      replace S_SC := S_SC.wr W95
      replace S_U := S_U.wr W95
      replace S_I := S_I.wr W95
      replace EX_b94 := EX_b94.wr W95
      replace Zz := Nat.le_trans Zz (Keep.of_wr W95).1
      replace Kp := Kp.wr W95 (Or.inr sz_b94)
      have N95 := Fr.snoc X95 N_11 g_b94
      refine ownW_step (T' := T95) (f' := (F93 103 [(.ref b94)])) (fun t k => st95 t k) ?_
      refine ownW_step (T' := T95) (f' := (F93 104 [(.ref b94), (.ref b94)])) (fun t k => XS.dup X95.here hx rfl (hb hby at_103) rfl rfl k) ?_
      refine ownW_step (T' := T95) (f' := (F93 105 [(.int (1 : Int32)), (.ref b94), (.ref b94)])) (fun t k => XS.iconst X95.here hx rfl (hb hby at_104) k) ?_
      refine ownW_step (T' := T95) (f' := (F93 107 [(.int c5), (.int (1 : Int32)), (.ref b94), (.ref b94)])) (fun t k => XS.iload X95.here hx rfl (hb hby at_105) rfl k) ?_
      obtain ⟨cl96, Ar96, q96, S96, M96, H96, G96⟩ := V_b94
      have hin96 : ¬ ((1 : Int32) < 0 ∨ cl96.slots.size ≤ ((1 : Int32)).toNatClampNeg) := inb_of S96 ⟨by decide, by decide⟩
      obtain ⟨T96, h96, X96, e96, W96, st96⟩ := stC X95 hx hZ e95 Ar96 (j := (1 : Int32)) hin96 (g := (F93 107 [(.int c5), (.int (1 : Int32)), (.ref b94), (.ref b94)])) rfl rfl (hb hby at_107)
      have V_b94 : Arv Z h96 b94 k94 .char (3 : Int32) [(.int c3), (.int c5), (.int (0 : Int32))] (.int (0 : Int32)) := by have q := Arv.set Ar96 q96 S96 M96 H96 G96 (fits_nar_char _) W96 1 rfl (Nat.le_of_ble_eq_true rfl); rw [own_nc hC5] at q; exact q
      replace S_CS := S_CS.wr W96
      replace S_SC := S_SC.wr W96
      replace S_U := S_U.wr W96
      replace S_I := S_I.wr W96
      replace EX_b94 := EX_b94.wr W96
      replace Zz := Nat.le_trans Zz (Keep.of_wr W96).1
      replace Kp := Kp.wr W96 (Or.inr sz_b94)
      have N96 := Fr.snoc X96 N95 g_b94
      refine ownW_step (T' := T96) (f' := (F93 108 [(.ref b94)])) (fun t k => st96 t k) ?_
      refine ownW_step (T' := T96) (f' := (F93 109 [(.ref b94), (.ref b94)])) (fun t k => XS.dup X96.here hx rfl (hb hby at_108) rfl rfl k) ?_
      refine ownW_step (T' := T96) (f' := (F93 110 [(.int (2 : Int32)), (.ref b94), (.ref b94)])) (fun t k => XS.iconst X96.here hx rfl (hb hby at_109) k) ?_
      refine ownW_step (T' := T96) (f' := (F93 112 [(.int c7), (.int (2 : Int32)), (.ref b94), (.ref b94)])) (fun t k => XS.iload X96.here hx rfl (hb hby at_110) rfl k) ?_
      obtain ⟨cl97, Ar97, q97, S97, M97, H97, G97⟩ := V_b94
      have hin97 : ¬ ((2 : Int32) < 0 ∨ cl97.slots.size ≤ ((2 : Int32)).toNatClampNeg) := inb_of S97 ⟨by decide, by decide⟩
      obtain ⟨T97, h97, X97, e97, W97, st97⟩ := stC X96 hx hZ e96 Ar97 (j := (2 : Int32)) hin97 (g := (F93 112 [(.int c7), (.int (2 : Int32)), (.ref b94), (.ref b94)])) rfl rfl (hb hby at_112)
      have V_b94 : Arv Z h97 b94 k94 .char (3 : Int32) [(.int c3), (.int c5), (.int c7)] (.int (0 : Int32)) := by have q := Arv.set Ar97 q97 S97 M97 H97 G97 (fits_nar_char _) W97 2 rfl (Nat.le_of_ble_eq_true rfl); rw [own_nc hC7] at q; exact q
      replace S_CS := S_CS.wr W97
      replace S_SC := S_SC.wr W97
      replace S_U := S_U.wr W97
      replace S_I := S_I.wr W97
      replace EX_b94 := EX_b94.wr W97
      replace Zz := Nat.le_trans Zz (Keep.of_wr W97).1
      replace Kp := Kp.wr W97 (Or.inr sz_b94)
      have N97 := Fr.snoc X97 N96 g_b94
      refine ownW_step (T' := T97) (f' := (F93 113 [(.ref b94)])) (fun t k => st97 t k) ?_
      let F98 : Nat → List Value → JFrame := fun a b => mkF m a #[.val (.int p1), .val (.int p2), .val (.int p3), .val (.int p4), .val (.int p5), .val (.int (3 : Int32)), .val (.int c3), .val (.int c5), .val (.int c7), .val (.int c9), .val (.ref b94), .unset, .unset, .unset, .unset] b
      refine ownW_step (T' := T97) (f' := (F98 115 [])) (fun t k => XS.astore X97.here hx rfl (hb hby at_113) rfl rfl (l' := #[.val (.int p1), .val (.int p2), .val (.int p3), .val (.int p4), .val (.int p5), .val (.int (3 : Int32)), .val (.int c3), .val (.int c5), .val (.int c7), .val (.int c9), .val (.ref b94), .unset, .unset, .unset, .unset]) rfl k) ?_
      refine ownW_step (T' := T97) (f' := (F98 143 [])) (fun t k => XS.goto X97.here hx rfl (pc0 := 115) (pc' := 143) rfl (hb hby at_115) (by decide) (by decide) k) ?_
      obtain ⟨T99, h99, X99, e99, E99, A99, D99, -, st99⟩ := newO X97 hx hZ hown (own_w hw 6 rfl) (own_w hw 7 rfl) (own_w hw 8 rfl) e97 (g := (F98 143 [])) rfl (hb hby at_143) (by decide) (by decide)
      obtain ⟨b99, g99⟩ : ∃ z, z = h97.size := ⟨_, rfl⟩
      rw [← g99] at A99 D99 st99
      have ne_b94_b99 : b94 ≠ b99 := Nat.ne_of_lt (Nat.lt_of_lt_of_le V_b94.lt (Nat.le_of_eq g99.symm))
      have g_b99 : n0 ≤ b99 := Nat.le_trans Zz (Nat.le_of_eq g99.symm)
      have sz_b99 : h0.size ≤ b99 := Nat.le_trans Kp.1 (Nat.le_of_eq g99.symm)
      replace S_CS := S_CS.ext E99
      replace S_SC := S_SC.ext E99
      replace S_U := S_U.ext E99
      replace S_I := S_I.ext E99
      replace V_b94 := V_b94.ext E99
      replace EX_b94 := EX_b94.ext E99
      replace Zz := Nat.le_trans Zz E99.1
      replace Kp := Kp.ext E99
      have E_b99 := A99
      have F_characters_b99 : Fld Z h99 b99 "com/example/lit2/lit2/input/Line" "characters" "[B" .null := D99 (Or.inr (own_w hw 82 rfl)) (ty := (.array .byte)) (by decide)
      have F_start_b99 : Fld Z h99 b99 "com/example/lit2/lit2/input/Line" "start" "I" (.int (0 : Int32)) := D99 (Or.inr (own_w hw 84 rfl)) (ty := .int) (by decide)
      have F_end_b99 : Fld Z h99 b99 "com/example/lit2/lit2/input/Line" "end" "I" (.int (0 : Int32)) := D99 (Or.inr (own_w hw 86 rfl)) (ty := .int) (by decide)
      have F_location_b99 : Fld Z h99 b99 "com/example/lit2/lit2/input/Line" "location" "Lcom/example/lit2/lit2/model/Location;" .null := D99 (Or.inr (own_w hw 88 rfl)) (ty := (.object "com/example/lit2/lit2/model/Location")) (by decide)
      have F_marks_b99 : Fld Z h99 b99 "com/example/lit2/lit2/input/Line" "marks" "I" (.int (0 : Int32)) := D99 (Or.inr (own_w hw 90 rfl)) (ty := .int) (by decide)
      have F_text_b99 : Fld Z h99 b99 "com/example/lit2/lit2/input/Line" "text" "Ljava/lang/String;" .null := D99 (Or.inl (own_w hw 92 rfl)) (ty := (.object "java/lang/String")) (by decide)
      refine ownW_step (T' := T99) (f' := (F98 146 [(.ref b99)])) (fun t k => st99 t k) ?_
      refine ownW_step (T' := T99) (f' := (F98 147 [(.ref b99), (.ref b99)])) (fun t k => XS.dup X99.here hx rfl (hb hby at_146) rfl rfl k) ?_
      obtain ⟨T100, h100, X100, e100, E100, A100, D100, -, st100⟩ := newO X99 hx hZ hown (own_w hw 9 rfl) (own_w hw 10 rfl) (own_w hw 11 rfl) e99 (g := (F98 147 [(.ref b99), (.ref b99)])) rfl (hb hby at_147) (by decide) (by decide)
      obtain ⟨b100, g100⟩ : ∃ z, z = h99.size := ⟨_, rfl⟩
      rw [← g100] at A100 D100 st100
      have ne_b94_b100 : b94 ≠ b100 := Nat.ne_of_lt (Nat.lt_of_lt_of_le V_b94.lt (Nat.le_of_eq g100.symm))
      have ne_b99_b100 : b99 ≠ b100 := Nat.ne_of_lt (Nat.lt_of_lt_of_le E_b99.lt (Nat.le_of_eq g100.symm))
      have g_b100 : n0 ≤ b100 := Nat.le_trans Zz (Nat.le_of_eq g100.symm)
      have sz_b100 : h0.size ≤ b100 := Nat.le_trans Kp.1 (Nat.le_of_eq g100.symm)
      replace S_CS := S_CS.ext E100
      replace S_SC := S_SC.ext E100
      replace S_U := S_U.ext E100
      replace S_I := S_I.ext E100
      replace V_b94 := V_b94.ext E100
      replace EX_b94 := EX_b94.ext E100
      replace E_b99 := E_b99.ext E100
      replace F_characters_b99 := F_characters_b99.ext E100
      replace F_start_b99 := F_start_b99.ext E100
      replace F_end_b99 := F_end_b99.ext E100
      replace F_location_b99 := F_location_b99.ext E100
      replace F_marks_b99 := F_marks_b99.ext E100
      replace F_text_b99 := F_text_b99.ext E100
      replace Zz := Nat.le_trans Zz E100.1
      replace Kp := Kp.ext E100
      have E_b100 := A100
      have F_value_b100 : Fld Z h100 b100 "java/lang/String" "value" "[B" .null := D100 (Or.inr (own_w hw 24 rfl)) (ty := (.array .byte)) (by decide)
      have F_coder_b100 : Fld Z h100 b100 "java/lang/String" "coder" "B" (.int (0 : Int32)) := D100 (Or.inr (own_w hw 25 rfl)) (ty := .byte) (by decide)
      refine ownW_step (T' := T100) (f' := (F98 150 [(.ref b100), (.ref b99), (.ref b99)])) (fun t k => st100 t k) ?_
      refine ownW_step (T' := T100) (f' := (F98 151 [(.ref b100), (.ref b100), (.ref b99), (.ref b99)])) (fun t k => XS.dup X100.here hx rfl (hb hby at_150) rfl rfl k) ?_
      refine ownW_step (T' := T100) (f' := (F98 153 [(.ref b94), (.ref b100), (.ref b100), (.ref b99), (.ref b99)])) (fun t k => XS.aload X100.here hx rfl (hb hby at_151) rfl rfl k) ?_
      obtain ⟨_, _, ⟨T101, L101, k101, n101⟩, -, X101, ⟨Lc101, hQ101, l101, y101, z101⟩, st101⟩ := X100.specialBack hx (y := (⟨"java/lang/String", "<init>", "([C)V"⟩ : MethodName)) rfl hown (mvT hZ (own_w hw 12 rfl)) (mvT hZ (own_w hw 13 rfl)) (mvT hZ (own_w hw 14 rfl)) (by decide) (backOf (W := 3) (rm2_3 l Z a0 hw [] b100 b94 h100 n0 Zz E_b100 F_value_b100 F_coder_b100 g_b100 k94 c3 c5 c7 hC3 hC5 hC7 V_b94 cs S_CS hcs (Ne.symm ne_b94_b100)) hZ (own_w hw 14 rfl) (own_w hw 11 rfl) (by decide) (by decide)) (g := (F98 153 [(.ref b94), (.ref b100), (.ref b100), (.ref b99), (.ref b99)])) rfl (by rw [hml]; rfl) (Steps.refl _) (a := b100) (argsL := [(.ref b94)]) (rest := [(.ref b100), (.ref b99), (.ref b99)]) (lenOf pd_0_1 rfl) rfl (by show 2 * 0 + _ ≤ _; exact Nat.le_of_eq rfl) (hb hby at_153) (fun _ _ => ⟨rfl, e100, (by decide : 3 + 1 ≤ _), (by decide : 13 + 3 ≤ _)⟩)
      dsimp only [Pt.U, Pt.locs, Pt.cells, Pt.slots] at X101 l101 y101 z101 st101 hQ101
      subst l101 y101 z101
      obtain ⟨rfl, N101q, K101, sb101, sk101, SE101, SC101, SV101, SA101, SX101⟩ := hQ101
      have N101 := Fr.app N97 N101q
      replace S_CS := own_sta_keep S_CS K101 (allS ⟨_, E_b100⟩ all0)
      replace S_SC := own_sta_keep S_SC K101 (allS ⟨_, E_b100⟩ all0)
      replace S_U := own_sta_keep S_U K101 (allS ⟨_, E_b100⟩ all0)
      replace S_I := own_sta_keep S_I K101 (allS ⟨_, E_b100⟩ all0)
      replace V_b94 := V_b94.keep K101 (ninS ne_b94_b100 nin0)
      replace EX_b94 := EX_b94.keep K101
      replace E_b99 := E_b99.keep K101
      replace F_characters_b99 := F_characters_b99.keep K101 (ninS ne_b99_b100 nin0)
      replace F_start_b99 := F_start_b99.keep K101 (ninS ne_b99_b100 nin0)
      replace F_end_b99 := F_end_b99.keep K101 (ninS ne_b99_b100 nin0)
      replace F_location_b99 := F_location_b99.keep K101 (ninS ne_b99_b100 nin0)
      replace F_marks_b99 := F_marks_b99.keep K101 (ninS ne_b99_b100 nin0)
      replace F_text_b99 := F_text_b99.keep K101 (ninS ne_b99_b100 nin0)
      replace E_b100 := E_b100.keep K101
      replace Zz := Nat.le_trans Zz K101.1
      replace Kp := Kp.trans K101 (allS (Or.inr sz_b100) all0)
      refine ownW_step (T' := T101) (f' := (F98 156 [(.ref b100), (.ref b99), (.ref b99)])) (fun t k => st101.trans k) ?_
      obtain ⟨T102, h102, X102, e102, E102, A102, D102, -, st102⟩ := newO X101 hx hZ hown (own_w hw 30 rfl) (own_w hw 31 rfl) (own_w hw 32 rfl) rfl (g := (F98 156 [(.ref b100), (.ref b99), (.ref b99)])) rfl (hb hby at_156) (by decide) (by decide)
      obtain ⟨b102, g102⟩ : ∃ z, z = T101.heap.size := ⟨_, rfl⟩
      rw [← g102] at A102 D102 st102
      have ne_b94_b102 : b94 ≠ b102 := Nat.ne_of_lt (Nat.lt_of_lt_of_le V_b94.lt (Nat.le_of_eq g102.symm))
      have ne_b99_b102 : b99 ≠ b102 := Nat.ne_of_lt (Nat.lt_of_lt_of_le E_b99.lt (Nat.le_of_eq g102.symm))
      have ne_b100_b102 : b100 ≠ b102 := Nat.ne_of_lt (Nat.lt_of_lt_of_le E_b100.lt (Nat.le_of_eq g102.symm))
      have ne_sb101_b102 : sb101 ≠ b102 := Nat.ne_of_lt (Nat.lt_of_lt_of_le SA101.lt (Nat.le_of_eq g102.symm))
      have g_b102 : n0 ≤ b102 := Nat.le_trans Zz (Nat.le_of_eq g102.symm)
      have sz_b102 : h0.size ≤ b102 := Nat.le_trans Kp.1 (Nat.le_of_eq g102.symm)
      replace S_CS := S_CS.ext E102
      replace S_SC := S_SC.ext E102
      replace S_U := S_U.ext E102
      replace S_I := S_I.ext E102
      replace V_b94 := V_b94.ext E102
      replace EX_b94 := EX_b94.ext E102
      replace E_b99 := E_b99.ext E102
      replace F_characters_b99 := F_characters_b99.ext E102
      replace F_start_b99 := F_start_b99.ext E102
      replace F_end_b99 := F_end_b99.ext E102
      replace F_location_b99 := F_location_b99.ext E102
      replace F_marks_b99 := F_marks_b99.ext E102
      replace F_text_b99 := F_text_b99.ext E102
      replace E_b100 := E_b100.ext E102
      replace SC101 := SC101.ext E102
      replace SV101 := SV101.ext E102
      replace SA101 := SA101.ext E102
      replace SX101 := SX101.ext E102
      replace Zz := Nat.le_trans Zz E102.1
      replace Kp := Kp.ext E102
      have E_b102 := A102
      have F_file_b102 : Fld Z h102 b102 "com/example/lit2/lit2/model/Location" "file" "Ljava/lang/String;" .null := D102 (Or.inr (own_w hw 39 rfl)) (ty := (.object "java/lang/String")) (by decide)
      have F_line_b102 : Fld Z h102 b102 "com/example/lit2/lit2/model/Location" "line" "I" (.int (0 : Int32)) := D102 (Or.inr (own_w hw 41 rfl)) (ty := .int) (by decide)
      refine ownW_step (T' := T102) (f' := (F98 159 [(.ref b102), (.ref b100), (.ref b99), (.ref b99)])) (fun t k => st102 t k) ?_
      refine ownW_step (T' := T102) (f' := (F98 160 [(.ref b102), (.ref b102), (.ref b100), (.ref b99), (.ref b99)])) (fun t k => XS.dup X102.here hx rfl (hb hby at_159) rfl rfl k) ?_
      obtain ⟨la, T103, h103, k1103, X103, e103, E103, hS103, hk103, hZ2, hown2, -, -, st103⟩ := ldcOH (s := s) (vm0 := s.vm) (Z := Z) (a0 := a0) (EL := ownEL) X102 hx hZ hown (own_w hw 33 rfl) (fun d hd => by simp only [Bundle.stringAtoms, Bundle.sN, List.mem_cons, List.not_mem_nil, or_false] at hd; rcases hd with rfl | rfl | rfl | rfl | rfl | rfl | rfl <;> first | exact (own_w hw 11 rfl) | exact (own_w hw 10 rfl) | exact (own_w hw 23 rfl) | exact (own_w hw 24 rfl) | exact (own_w hw 25 rfl) | exact (own_w hw 26 rfl) | exact (own_w hw 27 rfl)) e102 ((State.WarmedH.refl s).since h102.size) (Nat.le_refl _) hEL (own_chv Kp) (g := (F98 160 [(.ref b102), (.ref b102), (.ref b100), (.ref b99), (.ref b99)])) rfl (hb hby at_160) (n := 4) (by decide) (by decide) (by decide) (by decide)
      replace S_CS := S_CS.ext E103
      replace S_SC := S_SC.ext E103
      replace S_U := S_U.ext E103
      replace S_I := S_I.ext E103
      replace V_b94 := V_b94.ext E103
      replace EX_b94 := EX_b94.ext E103
      replace E_b99 := E_b99.ext E103
      replace F_characters_b99 := F_characters_b99.ext E103
      replace F_start_b99 := F_start_b99.ext E103
      replace F_end_b99 := F_end_b99.ext E103
      replace F_location_b99 := F_location_b99.ext E103
      replace F_marks_b99 := F_marks_b99.ext E103
      replace F_text_b99 := F_text_b99.ext E103
      replace E_b100 := E_b100.ext E103
      replace SC101 := SC101.ext E103
      replace SV101 := SV101.ext E103
      replace SA101 := SA101.ext E103
      replace SX101 := SX101.ext E103
      replace E_b102 := E_b102.ext E103
      replace F_file_b102 := F_file_b102.ext E103
      replace F_line_b102 := F_line_b102.ext E103
      replace Zz := Nat.le_trans Zz E103.1
      replace Kp := Kp.ext E103
      refine ownW_step (T' := T103) (f' := (F98 162 [(.ref la), (.ref b102), (.ref b102), (.ref b100), (.ref b99), (.ref b99)])) (fun t k => st103 t k) ?_
      refine ownW_step (T' := T103) (f' := (F98 163 [(.int (1 : Int32)), (.ref la), (.ref b102), (.ref b102), (.ref b100), (.ref b99), (.ref b99)])) (fun t k => XS.iconst X103.here hx rfl (hb hby at_162) k) ?_
      obtain ⟨_, _, ⟨T104, L104, k104, n104⟩, -, X104, ⟨Lc104, hQ104, l104, y104, z104⟩, st104⟩ := X103.specialBack hx (y := (⟨"com/example/lit2/lit2/model/Location", "<init>", "(Ljava/lang/String;I)V"⟩ : MethodName)) rfl hown2 (mvT hZ2 (own_w hw 34 rfl)) (mvT hZ2 (own_w hw 35 rfl)) (mvT hZ2 (own_w hw 36 rfl)) (by decide) (backOf (W := 4) (rm5 l Z a0 hw [] b102 la h103 n0 Zz E_b102 F_file_b102 F_line_b102 g_b102) hZ2 (own_w hw 36 rfl) (own_w hw 32 rfl) (by decide) (by decide)) (g := (F98 163 [(.int (1 : Int32)), (.ref la), (.ref b102), (.ref b102), (.ref b100), (.ref b99), (.ref b99)])) rfl (by rw [hml]; rfl) (Steps.refl _) (a := b102) (argsL := [(.ref la), (.int (1 : Int32))]) (rest := [(.ref b102), (.ref b100), (.ref b99), (.ref b99)]) (lenOf pd_0_2 rfl) rfl (by show 2 * 0 + _ ≤ _; exact Nat.le_of_eq rfl) (hb hby at_163) (fun _ _ => ⟨rfl, e103, (by decide : 7 + 0 ≤ _), (by decide : 26 + 0 ≤ _)⟩)
      dsimp only [Pt.U, Pt.locs, Pt.cells, Pt.slots] at X104 l104 y104 z104 st104 hQ104
      subst l104 y104 z104
      obtain ⟨rfl, N104q, K104⟩ := hQ104
      have N104 := Fr.app N101 N104q
      replace S_CS := own_sta_keep S_CS K104 (allS ⟨_, E_b102⟩ all0)
      replace S_SC := own_sta_keep S_SC K104 (allS ⟨_, E_b102⟩ all0)
      replace S_U := own_sta_keep S_U K104 (allS ⟨_, E_b102⟩ all0)
      replace S_I := own_sta_keep S_I K104 (allS ⟨_, E_b102⟩ all0)
      replace V_b94 := V_b94.keep K104 (ninS ne_b94_b102 nin0)
      replace EX_b94 := EX_b94.keep K104
      replace E_b99 := E_b99.keep K104
      replace F_characters_b99 := F_characters_b99.keep K104 (ninS ne_b99_b102 nin0)
      replace F_start_b99 := F_start_b99.keep K104 (ninS ne_b99_b102 nin0)
      replace F_end_b99 := F_end_b99.keep K104 (ninS ne_b99_b102 nin0)
      replace F_location_b99 := F_location_b99.keep K104 (ninS ne_b99_b102 nin0)
      replace F_marks_b99 := F_marks_b99.keep K104 (ninS ne_b99_b102 nin0)
      replace F_text_b99 := F_text_b99.keep K104 (ninS ne_b99_b102 nin0)
      replace E_b100 := E_b100.keep K104
      replace SC101 := SC101.keep K104 (ninS ne_b100_b102 nin0)
      replace SV101 := SV101.keep K104 (ninS ne_b100_b102 nin0)
      replace SA101 := SA101.keep K104 (ninS ne_sb101_b102 nin0)
      replace SX101 := SX101.keep K104
      replace E_b102 := E_b102.keep K104
      replace Zz := Nat.le_trans Zz K104.1
      replace Kp := Kp.trans K104 (allS (Or.inr sz_b102) all0)
      have hg104 := Nat.le_trans hk103 K104.1
      refine ownW_step (T' := T104) (f' := (F98 166 [(.ref b102), (.ref b100), (.ref b99), (.ref b99)])) (fun t k => st104.trans k) ?_
      obtain ⟨_, _, ⟨T105, L105, k105, n105⟩, -, X105, ⟨Lc105, hQ105, l105, y105, z105⟩, st105⟩ := X104.specialBack hx (y := (⟨"com/example/lit2/lit2/input/Line", "<init>", "(Ljava/lang/String;Lcom/example/lit2/lit2/model/Location;)V"⟩ : MethodName)) rfl hown2 (mvT hZ2 (own_w hw 42 rfl)) (mvT hZ2 (own_w hw 43 rfl)) (mvT hZ2 (own_w hw 44 rfl)) (by decide) (backOf (W := 1) (rm6 l Z a0 hw [] b99 b100 b102 T104.heap n0 Zz E_b99 F_characters_b99 F_start_b99 F_end_b99 F_location_b99 F_marks_b99 F_text_b99 g_b99 sb101 sk101 (3 : Int32) [(.int (own_sb c3)), (.int (own_sb c5)), (.int (own_sb c7))] (by decide) ⟨E_b100, SC101, SV101, SA101, SX101⟩ ai S_SC aU S_U S_I neU cs S_CS hcs) hZ2 (own_w hw 44 rfl) (own_w hw 8 rfl) (by decide) (by decide)) (g := (F98 166 [(.ref b102), (.ref b100), (.ref b99), (.ref b99)])) rfl (by rw [hml]; rfl) (Steps.refl _) (a := b99) (argsL := [(.ref b100), (.ref b102)]) (rest := [(.ref b99)]) (lenOf pd_0_3 rfl) rfl (by show 2 * 0 + _ ≤ _; exact Nat.le_of_eq rfl) (hb hby at_166) (fun _ _ => ⟨rfl, rfl, (by decide : 7 + 1 ≤ _), (by decide : 26 + 4 ≤ _)⟩)
      dsimp only [Pt.U, Pt.locs, Pt.cells, Pt.slots] at X105 l105 y105 z105 st105 hQ105
      subst l105 y105 z105
      obtain ⟨rfl, N105q, K105, rb105, rk105, Fs105, Fe105, Fc105, Vr105⟩ := hQ105
      have N105 := Fr.app N104 N105q
      replace S_CS := own_sta_keep S_CS K105 (allS ⟨_, E_b99⟩ all0)
      replace S_SC := own_sta_keep S_SC K105 (allS ⟨_, E_b99⟩ all0)
      replace S_U := own_sta_keep S_U K105 (allS ⟨_, E_b99⟩ all0)
      replace S_I := own_sta_keep S_I K105 (allS ⟨_, E_b99⟩ all0)
      replace V_b94 := V_b94.keep K105 (ninS ne_b94_b99 nin0)
      replace EX_b94 := EX_b94.keep K105
      replace E_b99 := E_b99.keep K105
      replace Zz := Nat.le_trans Zz K105.1
      replace Kp := Kp.trans K105 (allS (Or.inr sz_b99) all0)
      have hg105 := Nat.le_trans hg104 K105.1
      refine ownW_step (T' := T105) (f' := (F98 169 [(.ref b99)])) (fun t k => st105.trans k) ?_
      let F106 : Nat → List Value → JFrame := fun a b => mkF m a #[.val (.int p1), .val (.int p2), .val (.int p3), .val (.int p4), .val (.int p5), .val (.int (3 : Int32)), .val (.int c3), .val (.int c5), .val (.int c7), .val (.int c9), .val (.ref b94), .val (.ref b99), .unset, .unset, .unset] b
      refine ownW_step (T' := T105) (f' := (F106 171 [])) (fun t k => XS.astore X105.here hx rfl (hb hby at_169) rfl rfl (l' := #[.val (.int p1), .val (.int p2), .val (.int p3), .val (.int p4), .val (.int p5), .val (.int (3 : Int32)), .val (.int c3), .val (.int c5), .val (.int c7), .val (.int c9), .val (.ref b94), .val (.ref b99), .unset, .unset, .unset]) rfl k) ?_
      refine ownW_step (T' := T105) (f' := (F106 173 [(.ref b99)])) (fun t k => XS.aload X105.here hx rfl (hb hby at_171) rfl rfl k) ?_
      obtain ⟨cq107, kq107, q107a, q107b, q107c⟩ := isOf hZ2 rfl E_b99
      obtain ⟨_, _, ⟨T107, L107, k107, n107⟩, -, X107, ⟨Lc107, hQ107, l107, y107, z107⟩, st107⟩ := X105.virtualBack hx (y := (⟨"com/example/lit2/lit2/input/Line", "beginsSection", "()Z"⟩ : MethodName)) (z := (⟨"com/example/lit2/lit2/input/Line", "beginsSection", "()Z"⟩ : MethodName)) hown2 (mvT hZ2 (own_w hw 93 rfl)) (mvT hZ2 (own_w hw 94 rfl)) (notFace_of_selects (args := #[]) (mvT hZ2 (own_w hw 96 rfl))) (mvT hZ2 (own_w hw 96 rfl)) (mvT hZ2 (own_w hw 95 rfl)) (by decide) (backOf (W := 0) (rm12_3 l Z a0 hw [] b99 T105.heap n0 Zz (own_sb c3) (own_sb c5) (own_sb c7) rb105 rk105 Fs105 Fe105 Fc105 Vr105) hZ2 (own_w hw 97 rfl) (own_w hw 8 rfl) (by decide) (by decide)) q107a q107c (g := (F106 173 [(.ref b99)])) rfl (by rw [hml]; rfl) (Steps.refl _) (argsL := []) (rest := []) (lenOf pd_0_4 rfl) rfl (by show 2 * 0 + _ ≤ _; exact Nat.le_of_eq rfl) (hb hby at_173) (fun _ _ => ⟨rfl, rfl, (by decide : 8 + 0 ≤ _), (by decide : 30 + 0 ≤ _)⟩)
      dsimp only [Pt.U, Pt.locs, Pt.cells, Pt.slots] at X107 l107 y107 z107 st107 hQ107
      subst l107 y107 z107
      obtain ⟨rfl, N107q, E107⟩ := hQ107
      have N107 := Fr.app N105 N107q
      refine ownW_step (T' := T107) (f' := (F106 176 [(.int (own_bs [(own_sb c3), (own_sb c5), (own_sb c7)]))])) (fun t k => st107.trans k) ?_
      let F108 : Nat → List Value → JFrame := fun a b => mkF m a #[.val (.int p1), .val (.int p2), .val (.int p3), .val (.int p4), .val (.int p5), .val (.int (3 : Int32)), .val (.int c3), .val (.int c5), .val (.int c7), .val (.int c9), .val (.ref b94), .val (.ref b99), .val (.int (own_bs [(own_sb c3), (own_sb c5), (own_sb c7)])), .unset, .unset] b
      refine ownW_step (T' := T107) (f' := (F108 178 [])) (fun t k => XS.istore X107.here hx rfl (hb hby at_176) rfl (l' := #[.val (.int p1), .val (.int p2), .val (.int p3), .val (.int p4), .val (.int p5), .val (.int (3 : Int32)), .val (.int c3), .val (.int c5), .val (.int c7), .val (.int c9), .val (.ref b94), .val (.ref b99), .val (.int (own_bs [(own_sb c3), (own_sb c5), (own_sb c7)])), .unset, .unset]) rfl k) ?_
      refine ownW_step (T' := T107) (f' := (F108 180 [(.int (3 : Int32))])) (fun t k => XS.iload X107.here hx rfl (hb hby at_178) rfl k) ?_
      let F109 : Nat → List Value → JFrame := fun a b => mkF m a #[.val (.int p1), .val (.int p2), .val (.int p3), .val (.int p4), .val (.int p5), .val (.int (3 : Int32)), .val (.int c3), .val (.int c5), .val (.int c7), .val (.int c9), .val (.ref b94), .val (.ref b99), .val (.int (own_bs [(own_sb c3), (own_sb c5), (own_sb c7)])), .val (.int (3 : Int32)), .unset] b
      refine ownW_step (T' := T107) (f' := (F109 182 [])) (fun t k => XS.istore X107.here hx rfl (hb hby at_180) rfl (l' := #[.val (.int p1), .val (.int p2), .val (.int p3), .val (.int p4), .val (.int p5), .val (.int (3 : Int32)), .val (.int c3), .val (.int c5), .val (.int c7), .val (.int c9), .val (.ref b94), .val (.ref b99), .val (.int (own_bs [(own_sb c3), (own_sb c5), (own_sb c7)])), .val (.int (3 : Int32)), .unset]) rfl k) ?_
      refine ownW_step (T' := T107) (f' := (F109 184 [(.int (3 : Int32))])) (fun t k => XS.iload X107.here hx rfl (hb hby at_182) rfl k) ?_
      refine ownW_step (T' := T107) (f' := (F109 185 [(.int (3 : Int32)), (.int (3 : Int32))])) (fun t k => XS.iconst X107.here hx rfl (hb hby at_184) k) ?_
      refine ownW_step (T' := T107) (f' := (F109 199 [])) (fun t k => XS.icmpYes X107.here hx rfl (pc0 := 185) (pc' := 199) rfl (hb hby at_185) rfl (flt (by decide : ¬ ((3 : Int32) < (3 : Int32)))).2.2.2 (by decide) (by decide) k) ?_
      have J216_111 : ∀ (T_111 : State) (l_111 : List Loc) (X_111 : Stand p l e room_1 (s.setVm T103.vm) m #[(.int p1), (.int p2), (.int p3), (.int p4), (.int p5)] below meth c T_111 l_111 8 30) (e_111 : T_111.heap = T105.heap) (N_111 : Fr n0 l_111) (xa110 : Int32) (hp2 : ((xa110 = (2 : Int32) ∧ (own_bl c7) = (0 : Int32)) ∨ (¬ (own_bl c7) = (0 : Int32) ∧ xa110 = (3 : Int32)))), OwnEndsW p e below s (Q0 n0) room_1.cells room_1.slots T_111 (mkF m 216 #[.val (.int p1), .val (.int p2), .val (.int p3), .val (.int p4), .val (.int p5), .val (.int (3 : Int32)), .val (.int c3), .val (.int c5), .val (.int c7), .val (.int c9), .val (.ref b94), .val (.ref b99), .val (.int (own_bs [(own_sb c3), (own_sb c5), (own_sb c7)])), .val (.int xa110), .unset] []) := by
        intro T_111 l_111 X_111 e_111 N_111 xa110 hp2
        have J233_113 : ∀ (T_113 : State) (l_113 : List Loc) (X_113 : Stand p l e room_1 (s.setVm T103.vm) m #[(.int p1), (.int p2), (.int p3), (.int p4), (.int p5)] below meth c T_113 l_113 8 30) (e_113 : T_113.heap = T105.heap) (N_113 : Fr n0 l_113) (xa112 : Int32) (hp1 : ((xa112 = (1 : Int32) ∧ (own_bl c5) = (0 : Int32)) ∨ (¬ (own_bl c5) = (0 : Int32) ∧ ((xa112 = (2 : Int32) ∧ (own_bl c7) = (0 : Int32)) ∨ (¬ (own_bl c7) = (0 : Int32) ∧ xa112 = (3 : Int32)))))), OwnEndsW p e below s (Q0 n0) room_1.cells room_1.slots T_113 (mkF m 233 #[.val (.int p1), .val (.int p2), .val (.int p3), .val (.int p4), .val (.int p5), .val (.int (3 : Int32)), .val (.int c3), .val (.int c5), .val (.int c7), .val (.int c9), .val (.ref b94), .val (.ref b99), .val (.int (own_bs [(own_sb c3), (own_sb c5), (own_sb c7)])), .val (.int xa112), .unset] []) := by
          intro T_113 l_113 X_113 e_113 N_113 xa112 hp1
          have J249_115 : ∀ (T_115 : State) (l_115 : List Loc) (X_115 : Stand p l e room_1 (s.setVm T103.vm) m #[(.int p1), (.int p2), (.int p3), (.int p4), (.int p5)] below meth c T_115 l_115 8 30) (e_115 : T_115.heap = T105.heap) (N_115 : Fr n0 l_115) (xa114 : Int32) (hp0 : ((xa114 = (0 : Int32) ∧ (own_bl c3) = (0 : Int32)) ∨ (¬ (own_bl c3) = (0 : Int32) ∧ ((xa114 = (1 : Int32) ∧ (own_bl c5) = (0 : Int32)) ∨ (¬ (own_bl c5) = (0 : Int32) ∧ ((xa114 = (2 : Int32) ∧ (own_bl c7) = (0 : Int32)) ∨ (¬ (own_bl c7) = (0 : Int32) ∧ xa114 = (3 : Int32)))))))), OwnEndsW p e below s (Q0 n0) room_1.cells room_1.slots T_115 (mkF m 249 #[.val (.int p1), .val (.int p2), .val (.int p3), .val (.int p4), .val (.int p5), .val (.int (3 : Int32)), .val (.int c3), .val (.int c5), .val (.int c7), .val (.int c9), .val (.ref b94), .val (.ref b99), .val (.int (own_bs [(own_sb c3), (own_sb c5), (own_sb c7)])), .val (.int xa114), .unset] []) := by
            intro T_115 l_115 X_115 e_115 N_115 xa114 hp0
            rcases hp0 with ⟨rfl, hbl0⟩ | ⟨hbl0, (⟨rfl, hbl1⟩ | ⟨hbl1, (⟨rfl, hbl2⟩ | ⟨hbl2, rfl⟩)⟩)⟩
            · skip
              let F116 : Nat → List Value → JFrame := fun a b => mkF m a #[.val (.int p1), .val (.int p2), .val (.int p3), .val (.int p4), .val (.int p5), .val (.int (3 : Int32)), .val (.int c3), .val (.int c5), .val (.int c7), .val (.int c9), .val (.ref b94), .val (.ref b99), .val (.int (own_bs [(own_sb c3), (own_sb c5), (own_sb c7)])), .val (.int (0 : Int32)), .unset] b
              refine ownW_step (T' := T_115) (f' := (F116 251 [(.int (0 : Int32))])) (fun t k => XS.iload X_115.here hx rfl (hb hby at_249) rfl k) ?_
              refine ownW_step (T' := T_115) (f' := (F116 253 [(.int (3 : Int32)), (.int (0 : Int32))])) (fun t k => XS.iload X_115.here hx rfl (hb hby at_251) rfl k) ?_
              refine ownW_step (T' := T_115) (f' := (F116 262 [])) (fun t k => XS.icmpYes X_115.here hx rfl (pc0 := 253) (pc' := 262) rfl (hb hby at_253) rfl (tlt (by decide : (0 : Int32) < (3 : Int32))).1 (by decide) (by decide) k) ?_
              refine ownW_step (T' := T_115) (f' := (F116 264 [(.ref b94)])) (fun t k => XS.aload X_115.here hx rfl (hb hby at_262) rfl rfl k) ?_
              refine ownW_step (T' := T_115) (f' := (F116 266 [(.int (0 : Int32)), (.ref b94)])) (fun t k => XS.iload X_115.here hx rfl (hb hby at_264) rfl k) ?_
              obtain ⟨cl117, Ar117, q117, S117, M117, H117, G117⟩ := id V_b94
              have hin117 : ¬ ((0 : Int32) < 0 ∨ cl117.slots.size ≤ ((0 : Int32)).toNatClampNeg) := inb_of S117 ⟨by decide, by decide⟩
              have hat117 : cl117.slots[((0 : Int32)).toNatClampNeg]? = some (.int c3) := own_at hin117 H117 0 rfl rfl
              refine ownW_step (T' := T_115) (f' := (F116 267 [(.int c3)])) (fun t k => X_115.caload hx (j := (0 : Int32)) (v := (.int c3)) (by rw [e_115]; exact Ar117.1) (State.isArrayOf_alike hZ2.alike Ar117.2.1) Ar117.2.2 hin117 hat117 (g := (F116 266 [(.int (0 : Int32)), (.ref b94)])) rfl rfl (hb hby at_266) _ k) ?_
              refine ownW_step (T' := T_115) (f' := (F116 269 [(.int (64 : Int32)), (.int c3)])) (fun t k => XS.bipush X_115.here hx rfl (hb hby at_267) k) ?_
              by_cases hc269_118 : c3 = (64 : Int32)
              · skip
                refine ownW_step (T' := T_115) (f' := (F116 278 [])) (fun t k => XS.icmpYes X_115.here hx rfl (pc0 := 269) (pc' := 278) rfl (hb hby at_269) rfl (teq hc269_118).1 (by decide) (by decide) k) ?_
                refine ownW_step (T' := T_115) (f' := (F116 280 [(.int (0 : Int32))])) (fun t k => XS.iload X_115.here hx rfl (hb hby at_278) rfl k) ?_
                refine ownW_step (T' := T_115) (f' := (F116 281 [(.int (1 : Int32)), (.int (0 : Int32))])) (fun t k => XS.iconst X_115.here hx rfl (hb hby at_280) k) ?_
                refine ownW_step (T' := T_115) (f' := (F116 282 [(.int (1 : Int32))])) (fun t k => XS.iadd X_115.here hx rfl (hb hby at_281) rfl k) ?_
                refine ownW_step (T' := T_115) (f' := (F116 284 [(.int (3 : Int32)), (.int (1 : Int32))])) (fun t k => XS.iload X_115.here hx rfl (hb hby at_282) rfl k) ?_
                refine ownW_step (T' := T_115) (f' := (F116 293 [])) (fun t k => XS.icmpYes X_115.here hx rfl (pc0 := 284) (pc' := 293) rfl (hb hby at_284) rfl (feq (by decide : ¬ ((1 : Int32) = (3 : Int32)))).2 (by decide) (by decide) k) ?_
                refine ownW_step (T' := T_115) (f' := (F116 295 [(.ref b94)])) (fun t k => XS.aload X_115.here hx rfl (hb hby at_293) rfl rfl k) ?_
                refine ownW_step (T' := T_115) (f' := (F116 297 [(.int (0 : Int32)), (.ref b94)])) (fun t k => XS.iload X_115.here hx rfl (hb hby at_295) rfl k) ?_
                refine ownW_step (T' := T_115) (f' := (F116 298 [(.int (1 : Int32)), (.int (0 : Int32)), (.ref b94)])) (fun t k => XS.iconst X_115.here hx rfl (hb hby at_297) k) ?_
                refine ownW_step (T' := T_115) (f' := (F116 299 [(.int (1 : Int32)), (.ref b94)])) (fun t k => XS.iadd X_115.here hx rfl (hb hby at_298) rfl k) ?_
                obtain ⟨cl119, Ar119, q119, S119, M119, H119, G119⟩ := id V_b94
                have hin119 : ¬ ((1 : Int32) < 0 ∨ cl119.slots.size ≤ ((1 : Int32)).toNatClampNeg) := inb_of S119 ⟨by decide, by decide⟩
                have hat119 : cl119.slots[((1 : Int32)).toNatClampNeg]? = some (.int c5) := own_at hin119 H119 1 rfl rfl
                refine ownW_step (T' := T_115) (f' := (F116 300 [(.int c5)])) (fun t k => X_115.caload hx (j := (1 : Int32)) (v := (.int c5)) (by rw [e_115]; exact Ar119.1) (State.isArrayOf_alike hZ2.alike Ar119.2.1) Ar119.2.2 hin119 hat119 (g := (F116 299 [(.int (1 : Int32)), (.ref b94)])) rfl rfl (hb hby at_299) _ k) ?_
                obtain ⟨_, _, ⟨T120, L120, k120, n120⟩, -, X120, ⟨Lc120, hQ120, l120, y120, z120⟩, st120⟩ := Jvm.LawKit.callS X_115 hx (y := (⟨"com/example/lit2/lit2/input/LineBeginsSectionPinLaw", "follows", "(C)Z"⟩ : MethodName)) hown2 (mvT hZ2 (own_w hw 111 rfl)) (mvT hZ2 (own_w hw 112 rfl)) (mvT hZ2 (own_w hw 3 rfl)) (mvT hZ2 (own_w hw 113 rfl)) (by decide) (backOf (W := 0) (rm17 l Z a0 hw [] c5 T105.heap n0 Zz) hZ2 (own_w hw 113 rfl) (own_w hw 3 rfl) (by decide) (by decide)) (g := (F116 300 [(.int c5)])) rfl (by rw [hml]; rfl) (argsL := [(.int c5)]) (rest := []) (lenOf pd_0_5 rfl) rfl (by show 2 * 0 + _ ≤ _; exact Nat.le_of_eq rfl) (hb hby at_300) (fun _ _ => ⟨rfl, e_115, (by decide : 8 + 0 ≤ _), (by decide : 30 + 0 ≤ _)⟩)
                dsimp only [Pt.U, Pt.locs, Pt.cells, Pt.slots] at X120 l120 y120 z120 st120 hQ120
                subst l120 y120 z120
                obtain ⟨rfl, N120q, E120⟩ := hQ120
                have N120 := Fr.app N_115 N120q
                refine ownW_step (T' := T120) (f' := (F116 303 [(.int (own_fo c5))])) (fun t k => st120 t k) ?_
                let F121 : Nat → List Value → JFrame := fun a b => mkF m a #[.val (.int p1), .val (.int p2), .val (.int p3), .val (.int p4), .val (.int p5), .val (.int (3 : Int32)), .val (.int c3), .val (.int c5), .val (.int c7), .val (.int c9), .val (.ref b94), .val (.ref b99), .val (.int (own_bs [(own_sb c3), (own_sb c5), (own_sb c7)])), .val (.int (0 : Int32)), .val (.int (own_fo c5))] b
                refine ownW_step (T' := T120) (f' := (F121 305 [])) (fun t k => XS.istore X120.here hx rfl (hb hby at_303) rfl (l' := #[.val (.int p1), .val (.int p2), .val (.int p3), .val (.int p4), .val (.int p5), .val (.int (3 : Int32)), .val (.int c3), .val (.int c5), .val (.int c7), .val (.int c9), .val (.ref b94), .val (.ref b99), .val (.int (own_bs [(own_sb c3), (own_sb c5), (own_sb c7)])), .val (.int (0 : Int32)), .val (.int (own_fo c5))]) rfl k) ?_
                refine ownW_step (T' := T120) (f' := (F121 307 [(.int (own_bs [(own_sb c3), (own_sb c5), (own_sb c7)]))])) (fun t k => XS.iload X120.here hx rfl (hb hby at_305) rfl k) ?_
                refine ownW_step (T' := T120) (f' := (F121 309 [(.int (own_fo c5)), (.int (own_bs [(own_sb c3), (own_sb c5), (own_sb c7)]))])) (fun t k => XS.iload X120.here hx rfl (hb hby at_307) rfl k) ?_
                refine ownW_step (T' := T120) (f' := (F121 312 [])) (fun t k => XS.icmpNo X120.here hx rfl (hb hby at_309) rfl (teq ((own_stopY hC3 hc269_118).trans (own_nxf hC5))).2 k) ?_
                refine ownW_step (T' := T120) (f' := (F121 313 [(.int (1 : Int32))])) (fun t k => XS.iconst X120.here hx rfl (hb hby at_312) k) ?_
                refine ownW_step (T' := T120) (f' := (F121 317 [(.int (1 : Int32))])) (fun t k => XS.goto X120.here hx rfl (pc0 := 313) (pc' := 317) rfl (hb hby at_313) (by decide) (by decide) k) ?_
                exact ownW_retN X120 hS103 (by rw [E120]; exact hg105) hx hlk (t := .boolean) Bd.returns (by simp) (hb hby at_317) (by decide) (by decide) ⟨rfl, N120⟩
              · skip
                refine ownW_step (T' := T_115) (f' := (F116 272 [])) (fun t k => XS.icmpNo X_115.here hx rfl (hb hby at_269) rfl (feq hc269_118).1 k) ?_
                refine ownW_step (T' := T_115) (f' := (F116 273 [(.int (0 : Int32))])) (fun t k => XS.iconst X_115.here hx rfl (hb hby at_272) k) ?_
                let F122 : Nat → List Value → JFrame := fun a b => mkF m a #[.val (.int p1), .val (.int p2), .val (.int p3), .val (.int p4), .val (.int p5), .val (.int (3 : Int32)), .val (.int c3), .val (.int c5), .val (.int c7), .val (.int c9), .val (.ref b94), .val (.ref b99), .val (.int (own_bs [(own_sb c3), (own_sb c5), (own_sb c7)])), .val (.int (0 : Int32)), .val (.int (0 : Int32))] b
                refine ownW_step (T' := T_115) (f' := (F122 275 [])) (fun t k => XS.istore X_115.here hx rfl (hb hby at_273) rfl (l' := #[.val (.int p1), .val (.int p2), .val (.int p3), .val (.int p4), .val (.int p5), .val (.int (3 : Int32)), .val (.int c3), .val (.int c5), .val (.int c7), .val (.int c9), .val (.ref b94), .val (.ref b99), .val (.int (own_bs [(own_sb c3), (own_sb c5), (own_sb c7)])), .val (.int (0 : Int32)), .val (.int (0 : Int32))]) rfl k) ?_
                refine ownW_step (T' := T_115) (f' := (F122 305 [])) (fun t k => XS.goto X_115.here hx rfl (pc0 := 275) (pc' := 305) rfl (hb hby at_275) (by decide) (by decide) k) ?_
                refine ownW_step (T' := T_115) (f' := (F122 307 [(.int (own_bs [(own_sb c3), (own_sb c5), (own_sb c7)]))])) (fun t k => XS.iload X_115.here hx rfl (hb hby at_305) rfl k) ?_
                refine ownW_step (T' := T_115) (f' := (F122 309 [(.int (0 : Int32)), (.int (own_bs [(own_sb c3), (own_sb c5), (own_sb c7)]))])) (fun t k => XS.iload X_115.here hx rfl (hb hby at_307) rfl k) ?_
                refine ownW_step (T' := T_115) (f' := (F122 312 [])) (fun t k => XS.icmpNo X_115.here hx rfl (hb hby at_309) rfl (teq (own_stopN hC3 hbl0 hc269_118)).2 k) ?_
                refine ownW_step (T' := T_115) (f' := (F122 313 [(.int (1 : Int32))])) (fun t k => XS.iconst X_115.here hx rfl (hb hby at_312) k) ?_
                refine ownW_step (T' := T_115) (f' := (F122 317 [(.int (1 : Int32))])) (fun t k => XS.goto X_115.here hx rfl (pc0 := 313) (pc' := 317) rfl (hb hby at_313) (by decide) (by decide) k) ?_
                exact ownW_retN X_115 hS103 (by rw [e_115]; exact hg105) hx hlk (t := .boolean) Bd.returns (by simp) (hb hby at_317) (by decide) (by decide) ⟨rfl, N_115⟩
            · skip
              let F123 : Nat → List Value → JFrame := fun a b => mkF m a #[.val (.int p1), .val (.int p2), .val (.int p3), .val (.int p4), .val (.int p5), .val (.int (3 : Int32)), .val (.int c3), .val (.int c5), .val (.int c7), .val (.int c9), .val (.ref b94), .val (.ref b99), .val (.int (own_bs [(own_sb c3), (own_sb c5), (own_sb c7)])), .val (.int (1 : Int32)), .unset] b
              refine ownW_step (T' := T_115) (f' := (F123 251 [(.int (1 : Int32))])) (fun t k => XS.iload X_115.here hx rfl (hb hby at_249) rfl k) ?_
              refine ownW_step (T' := T_115) (f' := (F123 253 [(.int (3 : Int32)), (.int (1 : Int32))])) (fun t k => XS.iload X_115.here hx rfl (hb hby at_251) rfl k) ?_
              refine ownW_step (T' := T_115) (f' := (F123 262 [])) (fun t k => XS.icmpYes X_115.here hx rfl (pc0 := 253) (pc' := 262) rfl (hb hby at_253) rfl (tlt (by decide : (1 : Int32) < (3 : Int32))).1 (by decide) (by decide) k) ?_
              refine ownW_step (T' := T_115) (f' := (F123 264 [(.ref b94)])) (fun t k => XS.aload X_115.here hx rfl (hb hby at_262) rfl rfl k) ?_
              refine ownW_step (T' := T_115) (f' := (F123 266 [(.int (1 : Int32)), (.ref b94)])) (fun t k => XS.iload X_115.here hx rfl (hb hby at_264) rfl k) ?_
              obtain ⟨cl124, Ar124, q124, S124, M124, H124, G124⟩ := id V_b94
              have hin124 : ¬ ((1 : Int32) < 0 ∨ cl124.slots.size ≤ ((1 : Int32)).toNatClampNeg) := inb_of S124 ⟨by decide, by decide⟩
              have hat124 : cl124.slots[((1 : Int32)).toNatClampNeg]? = some (.int c5) := own_at hin124 H124 1 rfl rfl
              refine ownW_step (T' := T_115) (f' := (F123 267 [(.int c5)])) (fun t k => X_115.caload hx (j := (1 : Int32)) (v := (.int c5)) (by rw [e_115]; exact Ar124.1) (State.isArrayOf_alike hZ2.alike Ar124.2.1) Ar124.2.2 hin124 hat124 (g := (F123 266 [(.int (1 : Int32)), (.ref b94)])) rfl rfl (hb hby at_266) _ k) ?_
              refine ownW_step (T' := T_115) (f' := (F123 269 [(.int (64 : Int32)), (.int c5)])) (fun t k => XS.bipush X_115.here hx rfl (hb hby at_267) k) ?_
              by_cases hc269_125 : c5 = (64 : Int32)
              · skip
                refine ownW_step (T' := T_115) (f' := (F123 278 [])) (fun t k => XS.icmpYes X_115.here hx rfl (pc0 := 269) (pc' := 278) rfl (hb hby at_269) rfl (teq hc269_125).1 (by decide) (by decide) k) ?_
                refine ownW_step (T' := T_115) (f' := (F123 280 [(.int (1 : Int32))])) (fun t k => XS.iload X_115.here hx rfl (hb hby at_278) rfl k) ?_
                refine ownW_step (T' := T_115) (f' := (F123 281 [(.int (1 : Int32)), (.int (1 : Int32))])) (fun t k => XS.iconst X_115.here hx rfl (hb hby at_280) k) ?_
                refine ownW_step (T' := T_115) (f' := (F123 282 [(.int (2 : Int32))])) (fun t k => XS.iadd X_115.here hx rfl (hb hby at_281) rfl k) ?_
                refine ownW_step (T' := T_115) (f' := (F123 284 [(.int (3 : Int32)), (.int (2 : Int32))])) (fun t k => XS.iload X_115.here hx rfl (hb hby at_282) rfl k) ?_
                refine ownW_step (T' := T_115) (f' := (F123 293 [])) (fun t k => XS.icmpYes X_115.here hx rfl (pc0 := 284) (pc' := 293) rfl (hb hby at_284) rfl (feq (by decide : ¬ ((2 : Int32) = (3 : Int32)))).2 (by decide) (by decide) k) ?_
                refine ownW_step (T' := T_115) (f' := (F123 295 [(.ref b94)])) (fun t k => XS.aload X_115.here hx rfl (hb hby at_293) rfl rfl k) ?_
                refine ownW_step (T' := T_115) (f' := (F123 297 [(.int (1 : Int32)), (.ref b94)])) (fun t k => XS.iload X_115.here hx rfl (hb hby at_295) rfl k) ?_
                refine ownW_step (T' := T_115) (f' := (F123 298 [(.int (1 : Int32)), (.int (1 : Int32)), (.ref b94)])) (fun t k => XS.iconst X_115.here hx rfl (hb hby at_297) k) ?_
                refine ownW_step (T' := T_115) (f' := (F123 299 [(.int (2 : Int32)), (.ref b94)])) (fun t k => XS.iadd X_115.here hx rfl (hb hby at_298) rfl k) ?_
                obtain ⟨cl126, Ar126, q126, S126, M126, H126, G126⟩ := id V_b94
                have hin126 : ¬ ((2 : Int32) < 0 ∨ cl126.slots.size ≤ ((2 : Int32)).toNatClampNeg) := inb_of S126 ⟨by decide, by decide⟩
                have hat126 : cl126.slots[((2 : Int32)).toNatClampNeg]? = some (.int c7) := own_at hin126 H126 2 rfl rfl
                refine ownW_step (T' := T_115) (f' := (F123 300 [(.int c7)])) (fun t k => X_115.caload hx (j := (2 : Int32)) (v := (.int c7)) (by rw [e_115]; exact Ar126.1) (State.isArrayOf_alike hZ2.alike Ar126.2.1) Ar126.2.2 hin126 hat126 (g := (F123 299 [(.int (2 : Int32)), (.ref b94)])) rfl rfl (hb hby at_299) _ k) ?_
                obtain ⟨_, _, ⟨T127, L127, k127, n127⟩, -, X127, ⟨Lc127, hQ127, l127, y127, z127⟩, st127⟩ := Jvm.LawKit.callS X_115 hx (y := (⟨"com/example/lit2/lit2/input/LineBeginsSectionPinLaw", "follows", "(C)Z"⟩ : MethodName)) hown2 (mvT hZ2 (own_w hw 111 rfl)) (mvT hZ2 (own_w hw 112 rfl)) (mvT hZ2 (own_w hw 3 rfl)) (mvT hZ2 (own_w hw 113 rfl)) (by decide) (backOf (W := 0) (rm17 l Z a0 hw [] c7 T105.heap n0 Zz) hZ2 (own_w hw 113 rfl) (own_w hw 3 rfl) (by decide) (by decide)) (g := (F123 300 [(.int c7)])) rfl (by rw [hml]; rfl) (argsL := [(.int c7)]) (rest := []) (lenOf pd_0_5 rfl) rfl (by show 2 * 0 + _ ≤ _; exact Nat.le_of_eq rfl) (hb hby at_300) (fun _ _ => ⟨rfl, e_115, (by decide : 8 + 0 ≤ _), (by decide : 30 + 0 ≤ _)⟩)
                dsimp only [Pt.U, Pt.locs, Pt.cells, Pt.slots] at X127 l127 y127 z127 st127 hQ127
                subst l127 y127 z127
                obtain ⟨rfl, N127q, E127⟩ := hQ127
                have N127 := Fr.app N_115 N127q
                refine ownW_step (T' := T127) (f' := (F123 303 [(.int (own_fo c7))])) (fun t k => st127 t k) ?_
                let F128 : Nat → List Value → JFrame := fun a b => mkF m a #[.val (.int p1), .val (.int p2), .val (.int p3), .val (.int p4), .val (.int p5), .val (.int (3 : Int32)), .val (.int c3), .val (.int c5), .val (.int c7), .val (.int c9), .val (.ref b94), .val (.ref b99), .val (.int (own_bs [(own_sb c3), (own_sb c5), (own_sb c7)])), .val (.int (1 : Int32)), .val (.int (own_fo c7))] b
                refine ownW_step (T' := T127) (f' := (F128 305 [])) (fun t k => XS.istore X127.here hx rfl (hb hby at_303) rfl (l' := #[.val (.int p1), .val (.int p2), .val (.int p3), .val (.int p4), .val (.int p5), .val (.int (3 : Int32)), .val (.int c3), .val (.int c5), .val (.int c7), .val (.int c9), .val (.ref b94), .val (.ref b99), .val (.int (own_bs [(own_sb c3), (own_sb c5), (own_sb c7)])), .val (.int (1 : Int32)), .val (.int (own_fo c7))]) rfl k) ?_
                refine ownW_step (T' := T127) (f' := (F128 307 [(.int (own_bs [(own_sb c3), (own_sb c5), (own_sb c7)]))])) (fun t k => XS.iload X127.here hx rfl (hb hby at_305) rfl k) ?_
                refine ownW_step (T' := T127) (f' := (F128 309 [(.int (own_fo c7)), (.int (own_bs [(own_sb c3), (own_sb c5), (own_sb c7)]))])) (fun t k => XS.iload X127.here hx rfl (hb hby at_307) rfl k) ?_
                refine ownW_step (T' := T127) (f' := (F128 312 [])) (fun t k => XS.icmpNo X127.here hx rfl (hb hby at_309) rfl (teq ((own_skip hC3 hbl0).trans ((own_stopY hC5 hc269_125).trans (own_nxf hC7)))).2 k) ?_
                refine ownW_step (T' := T127) (f' := (F128 313 [(.int (1 : Int32))])) (fun t k => XS.iconst X127.here hx rfl (hb hby at_312) k) ?_
                refine ownW_step (T' := T127) (f' := (F128 317 [(.int (1 : Int32))])) (fun t k => XS.goto X127.here hx rfl (pc0 := 313) (pc' := 317) rfl (hb hby at_313) (by decide) (by decide) k) ?_
                exact ownW_retN X127 hS103 (by rw [E127]; exact hg105) hx hlk (t := .boolean) Bd.returns (by simp) (hb hby at_317) (by decide) (by decide) ⟨rfl, N127⟩
              · skip
                refine ownW_step (T' := T_115) (f' := (F123 272 [])) (fun t k => XS.icmpNo X_115.here hx rfl (hb hby at_269) rfl (feq hc269_125).1 k) ?_
                refine ownW_step (T' := T_115) (f' := (F123 273 [(.int (0 : Int32))])) (fun t k => XS.iconst X_115.here hx rfl (hb hby at_272) k) ?_
                let F129 : Nat → List Value → JFrame := fun a b => mkF m a #[.val (.int p1), .val (.int p2), .val (.int p3), .val (.int p4), .val (.int p5), .val (.int (3 : Int32)), .val (.int c3), .val (.int c5), .val (.int c7), .val (.int c9), .val (.ref b94), .val (.ref b99), .val (.int (own_bs [(own_sb c3), (own_sb c5), (own_sb c7)])), .val (.int (1 : Int32)), .val (.int (0 : Int32))] b
                refine ownW_step (T' := T_115) (f' := (F129 275 [])) (fun t k => XS.istore X_115.here hx rfl (hb hby at_273) rfl (l' := #[.val (.int p1), .val (.int p2), .val (.int p3), .val (.int p4), .val (.int p5), .val (.int (3 : Int32)), .val (.int c3), .val (.int c5), .val (.int c7), .val (.int c9), .val (.ref b94), .val (.ref b99), .val (.int (own_bs [(own_sb c3), (own_sb c5), (own_sb c7)])), .val (.int (1 : Int32)), .val (.int (0 : Int32))]) rfl k) ?_
                refine ownW_step (T' := T_115) (f' := (F129 305 [])) (fun t k => XS.goto X_115.here hx rfl (pc0 := 275) (pc' := 305) rfl (hb hby at_275) (by decide) (by decide) k) ?_
                refine ownW_step (T' := T_115) (f' := (F129 307 [(.int (own_bs [(own_sb c3), (own_sb c5), (own_sb c7)]))])) (fun t k => XS.iload X_115.here hx rfl (hb hby at_305) rfl k) ?_
                refine ownW_step (T' := T_115) (f' := (F129 309 [(.int (0 : Int32)), (.int (own_bs [(own_sb c3), (own_sb c5), (own_sb c7)]))])) (fun t k => XS.iload X_115.here hx rfl (hb hby at_307) rfl k) ?_
                refine ownW_step (T' := T_115) (f' := (F129 312 [])) (fun t k => XS.icmpNo X_115.here hx rfl (hb hby at_309) rfl (teq ((own_skip hC3 hbl0).trans (own_stopN hC5 hbl1 hc269_125))).2 k) ?_
                refine ownW_step (T' := T_115) (f' := (F129 313 [(.int (1 : Int32))])) (fun t k => XS.iconst X_115.here hx rfl (hb hby at_312) k) ?_
                refine ownW_step (T' := T_115) (f' := (F129 317 [(.int (1 : Int32))])) (fun t k => XS.goto X_115.here hx rfl (pc0 := 313) (pc' := 317) rfl (hb hby at_313) (by decide) (by decide) k) ?_
                exact ownW_retN X_115 hS103 (by rw [e_115]; exact hg105) hx hlk (t := .boolean) Bd.returns (by simp) (hb hby at_317) (by decide) (by decide) ⟨rfl, N_115⟩
            · skip
              let F130 : Nat → List Value → JFrame := fun a b => mkF m a #[.val (.int p1), .val (.int p2), .val (.int p3), .val (.int p4), .val (.int p5), .val (.int (3 : Int32)), .val (.int c3), .val (.int c5), .val (.int c7), .val (.int c9), .val (.ref b94), .val (.ref b99), .val (.int (own_bs [(own_sb c3), (own_sb c5), (own_sb c7)])), .val (.int (2 : Int32)), .unset] b
              refine ownW_step (T' := T_115) (f' := (F130 251 [(.int (2 : Int32))])) (fun t k => XS.iload X_115.here hx rfl (hb hby at_249) rfl k) ?_
              refine ownW_step (T' := T_115) (f' := (F130 253 [(.int (3 : Int32)), (.int (2 : Int32))])) (fun t k => XS.iload X_115.here hx rfl (hb hby at_251) rfl k) ?_
              refine ownW_step (T' := T_115) (f' := (F130 262 [])) (fun t k => XS.icmpYes X_115.here hx rfl (pc0 := 253) (pc' := 262) rfl (hb hby at_253) rfl (tlt (by decide : (2 : Int32) < (3 : Int32))).1 (by decide) (by decide) k) ?_
              refine ownW_step (T' := T_115) (f' := (F130 264 [(.ref b94)])) (fun t k => XS.aload X_115.here hx rfl (hb hby at_262) rfl rfl k) ?_
              refine ownW_step (T' := T_115) (f' := (F130 266 [(.int (2 : Int32)), (.ref b94)])) (fun t k => XS.iload X_115.here hx rfl (hb hby at_264) rfl k) ?_
              obtain ⟨cl131, Ar131, q131, S131, M131, H131, G131⟩ := id V_b94
              have hin131 : ¬ ((2 : Int32) < 0 ∨ cl131.slots.size ≤ ((2 : Int32)).toNatClampNeg) := inb_of S131 ⟨by decide, by decide⟩
              have hat131 : cl131.slots[((2 : Int32)).toNatClampNeg]? = some (.int c7) := own_at hin131 H131 2 rfl rfl
              refine ownW_step (T' := T_115) (f' := (F130 267 [(.int c7)])) (fun t k => X_115.caload hx (j := (2 : Int32)) (v := (.int c7)) (by rw [e_115]; exact Ar131.1) (State.isArrayOf_alike hZ2.alike Ar131.2.1) Ar131.2.2 hin131 hat131 (g := (F130 266 [(.int (2 : Int32)), (.ref b94)])) rfl rfl (hb hby at_266) _ k) ?_
              refine ownW_step (T' := T_115) (f' := (F130 269 [(.int (64 : Int32)), (.int c7)])) (fun t k => XS.bipush X_115.here hx rfl (hb hby at_267) k) ?_
              by_cases hc269_132 : c7 = (64 : Int32)
              · skip
                refine ownW_step (T' := T_115) (f' := (F130 278 [])) (fun t k => XS.icmpYes X_115.here hx rfl (pc0 := 269) (pc' := 278) rfl (hb hby at_269) rfl (teq hc269_132).1 (by decide) (by decide) k) ?_
                refine ownW_step (T' := T_115) (f' := (F130 280 [(.int (2 : Int32))])) (fun t k => XS.iload X_115.here hx rfl (hb hby at_278) rfl k) ?_
                refine ownW_step (T' := T_115) (f' := (F130 281 [(.int (1 : Int32)), (.int (2 : Int32))])) (fun t k => XS.iconst X_115.here hx rfl (hb hby at_280) k) ?_
                refine ownW_step (T' := T_115) (f' := (F130 282 [(.int (3 : Int32))])) (fun t k => XS.iadd X_115.here hx rfl (hb hby at_281) rfl k) ?_
                refine ownW_step (T' := T_115) (f' := (F130 284 [(.int (3 : Int32)), (.int (3 : Int32))])) (fun t k => XS.iload X_115.here hx rfl (hb hby at_282) rfl k) ?_
                refine ownW_step (T' := T_115) (f' := (F130 287 [])) (fun t k => XS.icmpNo X_115.here hx rfl (hb hby at_284) rfl (teq (by decide : (3 : Int32) = (3 : Int32))).2 k) ?_
                refine ownW_step (T' := T_115) (f' := (F130 288 [(.int (1 : Int32))])) (fun t k => XS.iconst X_115.here hx rfl (hb hby at_287) k) ?_
                let F133 : Nat → List Value → JFrame := fun a b => mkF m a #[.val (.int p1), .val (.int p2), .val (.int p3), .val (.int p4), .val (.int p5), .val (.int (3 : Int32)), .val (.int c3), .val (.int c5), .val (.int c7), .val (.int c9), .val (.ref b94), .val (.ref b99), .val (.int (own_bs [(own_sb c3), (own_sb c5), (own_sb c7)])), .val (.int (2 : Int32)), .val (.int (1 : Int32))] b
                refine ownW_step (T' := T_115) (f' := (F133 290 [])) (fun t k => XS.istore X_115.here hx rfl (hb hby at_288) rfl (l' := #[.val (.int p1), .val (.int p2), .val (.int p3), .val (.int p4), .val (.int p5), .val (.int (3 : Int32)), .val (.int c3), .val (.int c5), .val (.int c7), .val (.int c9), .val (.ref b94), .val (.ref b99), .val (.int (own_bs [(own_sb c3), (own_sb c5), (own_sb c7)])), .val (.int (2 : Int32)), .val (.int (1 : Int32))]) rfl k) ?_
                refine ownW_step (T' := T_115) (f' := (F133 305 [])) (fun t k => XS.goto X_115.here hx rfl (pc0 := 290) (pc' := 305) rfl (hb hby at_290) (by decide) (by decide) k) ?_
                refine ownW_step (T' := T_115) (f' := (F133 307 [(.int (own_bs [(own_sb c3), (own_sb c5), (own_sb c7)]))])) (fun t k => XS.iload X_115.here hx rfl (hb hby at_305) rfl k) ?_
                refine ownW_step (T' := T_115) (f' := (F133 309 [(.int (1 : Int32)), (.int (own_bs [(own_sb c3), (own_sb c5), (own_sb c7)]))])) (fun t k => XS.iload X_115.here hx rfl (hb hby at_307) rfl k) ?_
                refine ownW_step (T' := T_115) (f' := (F133 312 [])) (fun t k => XS.icmpNo X_115.here hx rfl (hb hby at_309) rfl (teq ((own_skip hC3 hbl0).trans ((own_skip hC5 hbl1).trans (own_stopY hC7 hc269_132)))).2 k) ?_
                refine ownW_step (T' := T_115) (f' := (F133 313 [(.int (1 : Int32))])) (fun t k => XS.iconst X_115.here hx rfl (hb hby at_312) k) ?_
                refine ownW_step (T' := T_115) (f' := (F133 317 [(.int (1 : Int32))])) (fun t k => XS.goto X_115.here hx rfl (pc0 := 313) (pc' := 317) rfl (hb hby at_313) (by decide) (by decide) k) ?_
                exact ownW_retN X_115 hS103 (by rw [e_115]; exact hg105) hx hlk (t := .boolean) Bd.returns (by simp) (hb hby at_317) (by decide) (by decide) ⟨rfl, N_115⟩
              · skip
                refine ownW_step (T' := T_115) (f' := (F130 272 [])) (fun t k => XS.icmpNo X_115.here hx rfl (hb hby at_269) rfl (feq hc269_132).1 k) ?_
                refine ownW_step (T' := T_115) (f' := (F130 273 [(.int (0 : Int32))])) (fun t k => XS.iconst X_115.here hx rfl (hb hby at_272) k) ?_
                let F134 : Nat → List Value → JFrame := fun a b => mkF m a #[.val (.int p1), .val (.int p2), .val (.int p3), .val (.int p4), .val (.int p5), .val (.int (3 : Int32)), .val (.int c3), .val (.int c5), .val (.int c7), .val (.int c9), .val (.ref b94), .val (.ref b99), .val (.int (own_bs [(own_sb c3), (own_sb c5), (own_sb c7)])), .val (.int (2 : Int32)), .val (.int (0 : Int32))] b
                refine ownW_step (T' := T_115) (f' := (F134 275 [])) (fun t k => XS.istore X_115.here hx rfl (hb hby at_273) rfl (l' := #[.val (.int p1), .val (.int p2), .val (.int p3), .val (.int p4), .val (.int p5), .val (.int (3 : Int32)), .val (.int c3), .val (.int c5), .val (.int c7), .val (.int c9), .val (.ref b94), .val (.ref b99), .val (.int (own_bs [(own_sb c3), (own_sb c5), (own_sb c7)])), .val (.int (2 : Int32)), .val (.int (0 : Int32))]) rfl k) ?_
                refine ownW_step (T' := T_115) (f' := (F134 305 [])) (fun t k => XS.goto X_115.here hx rfl (pc0 := 275) (pc' := 305) rfl (hb hby at_275) (by decide) (by decide) k) ?_
                refine ownW_step (T' := T_115) (f' := (F134 307 [(.int (own_bs [(own_sb c3), (own_sb c5), (own_sb c7)]))])) (fun t k => XS.iload X_115.here hx rfl (hb hby at_305) rfl k) ?_
                refine ownW_step (T' := T_115) (f' := (F134 309 [(.int (0 : Int32)), (.int (own_bs [(own_sb c3), (own_sb c5), (own_sb c7)]))])) (fun t k => XS.iload X_115.here hx rfl (hb hby at_307) rfl k) ?_
                refine ownW_step (T' := T_115) (f' := (F134 312 [])) (fun t k => XS.icmpNo X_115.here hx rfl (hb hby at_309) rfl (teq ((own_skip hC3 hbl0).trans ((own_skip hC5 hbl1).trans (own_stopN hC7 hbl2 hc269_132)))).2 k) ?_
                refine ownW_step (T' := T_115) (f' := (F134 313 [(.int (1 : Int32))])) (fun t k => XS.iconst X_115.here hx rfl (hb hby at_312) k) ?_
                refine ownW_step (T' := T_115) (f' := (F134 317 [(.int (1 : Int32))])) (fun t k => XS.goto X_115.here hx rfl (pc0 := 313) (pc' := 317) rfl (hb hby at_313) (by decide) (by decide) k) ?_
                exact ownW_retN X_115 hS103 (by rw [e_115]; exact hg105) hx hlk (t := .boolean) Bd.returns (by simp) (hb hby at_317) (by decide) (by decide) ⟨rfl, N_115⟩
            · skip
              refine ownW_step (T' := T_115) (f' := (F109 251 [(.int (3 : Int32))])) (fun t k => XS.iload X_115.here hx rfl (hb hby at_249) rfl k) ?_
              refine ownW_step (T' := T_115) (f' := (F109 253 [(.int (3 : Int32)), (.int (3 : Int32))])) (fun t k => XS.iload X_115.here hx rfl (hb hby at_251) rfl k) ?_
              refine ownW_step (T' := T_115) (f' := (F109 256 [])) (fun t k => XS.icmpNo X_115.here hx rfl (hb hby at_253) rfl (flt (by decide : ¬ ((3 : Int32) < (3 : Int32)))).1 k) ?_
              refine ownW_step (T' := T_115) (f' := (F109 257 [(.int (0 : Int32))])) (fun t k => XS.iconst X_115.here hx rfl (hb hby at_256) k) ?_
              let F135 : Nat → List Value → JFrame := fun a b => mkF m a #[.val (.int p1), .val (.int p2), .val (.int p3), .val (.int p4), .val (.int p5), .val (.int (3 : Int32)), .val (.int c3), .val (.int c5), .val (.int c7), .val (.int c9), .val (.ref b94), .val (.ref b99), .val (.int (own_bs [(own_sb c3), (own_sb c5), (own_sb c7)])), .val (.int (3 : Int32)), .val (.int (0 : Int32))] b
              refine ownW_step (T' := T_115) (f' := (F135 259 [])) (fun t k => XS.istore X_115.here hx rfl (hb hby at_257) rfl (l' := #[.val (.int p1), .val (.int p2), .val (.int p3), .val (.int p4), .val (.int p5), .val (.int (3 : Int32)), .val (.int c3), .val (.int c5), .val (.int c7), .val (.int c9), .val (.ref b94), .val (.ref b99), .val (.int (own_bs [(own_sb c3), (own_sb c5), (own_sb c7)])), .val (.int (3 : Int32)), .val (.int (0 : Int32))]) rfl k) ?_
              refine ownW_step (T' := T_115) (f' := (F135 305 [])) (fun t k => XS.goto X_115.here hx rfl (pc0 := 259) (pc' := 305) rfl (hb hby at_259) (by decide) (by decide) k) ?_
              refine ownW_step (T' := T_115) (f' := (F135 307 [(.int (own_bs [(own_sb c3), (own_sb c5), (own_sb c7)]))])) (fun t k => XS.iload X_115.here hx rfl (hb hby at_305) rfl k) ?_
              refine ownW_step (T' := T_115) (f' := (F135 309 [(.int (0 : Int32)), (.int (own_bs [(own_sb c3), (own_sb c5), (own_sb c7)]))])) (fun t k => XS.iload X_115.here hx rfl (hb hby at_307) rfl k) ?_
              refine ownW_step (T' := T_115) (f' := (F135 312 [])) (fun t k => XS.icmpNo X_115.here hx rfl (hb hby at_309) rfl (teq ((own_skip hC3 hbl0).trans ((own_skip hC5 hbl1).trans (own_skip hC7 hbl2)))).2 k) ?_
              refine ownW_step (T' := T_115) (f' := (F135 313 [(.int (1 : Int32))])) (fun t k => XS.iconst X_115.here hx rfl (hb hby at_312) k) ?_
              refine ownW_step (T' := T_115) (f' := (F135 317 [(.int (1 : Int32))])) (fun t k => XS.goto X_115.here hx rfl (pc0 := 313) (pc' := 317) rfl (hb hby at_313) (by decide) (by decide) k) ?_
              exact ownW_retN X_115 hS103 (by rw [e_115]; exact hg105) hx hlk (t := .boolean) Bd.returns (by simp) (hb hby at_317) (by decide) (by decide) ⟨rfl, N_115⟩
          let F136 : Nat → List Value → JFrame := fun a b => mkF m a #[.val (.int p1), .val (.int p2), .val (.int p3), .val (.int p4), .val (.int p5), .val (.int (3 : Int32)), .val (.int c3), .val (.int c5), .val (.int c7), .val (.int c9), .val (.ref b94), .val (.ref b99), .val (.int (own_bs [(own_sb c3), (own_sb c5), (own_sb c7)])), .val (.int xa112), .unset] b
          refine ownW_step (T' := T_113) (f' := (F136 235 [(.int (3 : Int32))])) (fun t k => XS.iload X_113.here hx rfl (hb hby at_233) rfl k) ?_
          refine ownW_step (T' := T_113) (f' := (F136 238 [])) (fun t k => XS.ifNo X_113.here hx rfl (hb hby at_235) rfl ((if0 _ _).trans (tlt (by decide : (0 : Int32) < (3 : Int32))).2.2.2) k) ?_
          refine ownW_step (T' := T_113) (f' := (F136 240 [(.int c3)])) (fun t k => XS.iload X_113.here hx rfl (hb hby at_238) rfl k) ?_
          obtain ⟨_, _, ⟨T137, L137, k137, n137⟩, -, X137, ⟨Lc137, hQ137, l137, y137, z137⟩, st137⟩ := Jvm.LawKit.callS X_113 hx (y := (⟨"com/example/lit2/lit2/input/LineBeginsSectionPinLaw", "blank", "(C)Z"⟩ : MethodName)) hown2 (mvT hZ2 (own_w hw 108 rfl)) (mvT hZ2 (own_w hw 109 rfl)) (mvT hZ2 (own_w hw 3 rfl)) (mvT hZ2 (own_w hw 110 rfl)) (by decide) (backOf (W := 0) (rm16 l Z a0 hw [] c3 T105.heap n0 Zz) hZ2 (own_w hw 110 rfl) (own_w hw 3 rfl) (by decide) (by decide)) (g := (F136 240 [(.int c3)])) rfl (by rw [hml]; rfl) (argsL := [(.int c3)]) (rest := []) (lenOf pd_0_5 rfl) rfl (by show 2 * 0 + _ ≤ _; exact Nat.le_of_eq rfl) (hb hby at_240) (fun _ _ => ⟨rfl, e_113, (by decide : 8 + 0 ≤ _), (by decide : 30 + 0 ≤ _)⟩)
          dsimp only [Pt.U, Pt.locs, Pt.cells, Pt.slots] at X137 l137 y137 z137 st137 hQ137
          subst l137 y137 z137
          obtain ⟨rfl, N137q, E137⟩ := hQ137
          have N137 := Fr.app N_113 N137q
          refine ownW_step (T' := T137) (f' := (F136 243 [(.int (own_bl c3))])) (fun t k => st137 t k) ?_
          by_cases hc243_138 : (own_bl c3) = (0 : Int32)
          · skip
            refine ownW_step (T' := T137) (f' := (F136 246 [])) (fun t k => XS.ifNo X137.here hx rfl (hb hby at_243) rfl ((if0 _ _).trans (teq hc243_138).2) k) ?_
            refine ownW_step (T' := T137) (f' := (F136 247 [(.int (0 : Int32))])) (fun t k => XS.iconst X137.here hx rfl (hb hby at_246) k) ?_
            let F139 : Nat → List Value → JFrame := fun a b => mkF m a #[.val (.int p1), .val (.int p2), .val (.int p3), .val (.int p4), .val (.int p5), .val (.int (3 : Int32)), .val (.int c3), .val (.int c5), .val (.int c7), .val (.int c9), .val (.ref b94), .val (.ref b99), .val (.int (own_bs [(own_sb c3), (own_sb c5), (own_sb c7)])), .val (.int (0 : Int32)), .unset] b
            refine ownW_step (T' := T137) (f' := (F139 249 [])) (fun t k => XS.istore X137.here hx rfl (hb hby at_247) rfl (l' := #[.val (.int p1), .val (.int p2), .val (.int p3), .val (.int p4), .val (.int p5), .val (.int (3 : Int32)), .val (.int c3), .val (.int c5), .val (.int c7), .val (.int c9), .val (.ref b94), .val (.ref b99), .val (.int (own_bs [(own_sb c3), (own_sb c5), (own_sb c7)])), .val (.int (0 : Int32)), .unset]) rfl k) ?_
            exact J249_115 T137 _ X137 E137 N137 (0 : Int32) (Or.inl ⟨rfl, hc243_138⟩)
          · skip
            refine ownW_step (T' := T137) (f' := (F136 249 [])) (fun t k => XS.ifYes X137.here hx rfl (pc0 := 243) (pc' := 249) rfl (hb hby at_243) rfl ((if0 _ _).trans (feq hc243_138).2) (by decide) (by decide) k) ?_
            exact J249_115 T137 _ X137 E137 N137 xa112 (Or.inr ⟨hc243_138, hp1⟩)
        let F140 : Nat → List Value → JFrame := fun a b => mkF m a #[.val (.int p1), .val (.int p2), .val (.int p3), .val (.int p4), .val (.int p5), .val (.int (3 : Int32)), .val (.int c3), .val (.int c5), .val (.int c7), .val (.int c9), .val (.ref b94), .val (.ref b99), .val (.int (own_bs [(own_sb c3), (own_sb c5), (own_sb c7)])), .val (.int xa110), .unset] b
        refine ownW_step (T' := T_111) (f' := (F140 218 [(.int (3 : Int32))])) (fun t k => XS.iload X_111.here hx rfl (hb hby at_216) rfl k) ?_
        refine ownW_step (T' := T_111) (f' := (F140 219 [(.int (1 : Int32)), (.int (3 : Int32))])) (fun t k => XS.iconst X_111.here hx rfl (hb hby at_218) k) ?_
        refine ownW_step (T' := T_111) (f' := (F140 222 [])) (fun t k => XS.icmpNo X_111.here hx rfl (hb hby at_219) rfl (tlt (by decide : (1 : Int32) < (3 : Int32))).2.2.2 k) ?_
        refine ownW_step (T' := T_111) (f' := (F140 224 [(.int c5)])) (fun t k => XS.iload X_111.here hx rfl (hb hby at_222) rfl k) ?_
        obtain ⟨_, _, ⟨T141, L141, k141, n141⟩, -, X141, ⟨Lc141, hQ141, l141, y141, z141⟩, st141⟩ := Jvm.LawKit.callS X_111 hx (y := (⟨"com/example/lit2/lit2/input/LineBeginsSectionPinLaw", "blank", "(C)Z"⟩ : MethodName)) hown2 (mvT hZ2 (own_w hw 108 rfl)) (mvT hZ2 (own_w hw 109 rfl)) (mvT hZ2 (own_w hw 3 rfl)) (mvT hZ2 (own_w hw 110 rfl)) (by decide) (backOf (W := 0) (rm16 l Z a0 hw [] c5 T105.heap n0 Zz) hZ2 (own_w hw 110 rfl) (own_w hw 3 rfl) (by decide) (by decide)) (g := (F140 224 [(.int c5)])) rfl (by rw [hml]; rfl) (argsL := [(.int c5)]) (rest := []) (lenOf pd_0_5 rfl) rfl (by show 2 * 0 + _ ≤ _; exact Nat.le_of_eq rfl) (hb hby at_224) (fun _ _ => ⟨rfl, e_111, (by decide : 8 + 0 ≤ _), (by decide : 30 + 0 ≤ _)⟩)
        dsimp only [Pt.U, Pt.locs, Pt.cells, Pt.slots] at X141 l141 y141 z141 st141 hQ141
        subst l141 y141 z141
        obtain ⟨rfl, N141q, E141⟩ := hQ141
        have N141 := Fr.app N_111 N141q
        refine ownW_step (T' := T141) (f' := (F140 227 [(.int (own_bl c5))])) (fun t k => st141 t k) ?_
        by_cases hc227_142 : (own_bl c5) = (0 : Int32)
        · skip
          refine ownW_step (T' := T141) (f' := (F140 230 [])) (fun t k => XS.ifNo X141.here hx rfl (hb hby at_227) rfl ((if0 _ _).trans (teq hc227_142).2) k) ?_
          refine ownW_step (T' := T141) (f' := (F140 231 [(.int (1 : Int32))])) (fun t k => XS.iconst X141.here hx rfl (hb hby at_230) k) ?_
          let F143 : Nat → List Value → JFrame := fun a b => mkF m a #[.val (.int p1), .val (.int p2), .val (.int p3), .val (.int p4), .val (.int p5), .val (.int (3 : Int32)), .val (.int c3), .val (.int c5), .val (.int c7), .val (.int c9), .val (.ref b94), .val (.ref b99), .val (.int (own_bs [(own_sb c3), (own_sb c5), (own_sb c7)])), .val (.int (1 : Int32)), .unset] b
          refine ownW_step (T' := T141) (f' := (F143 233 [])) (fun t k => XS.istore X141.here hx rfl (hb hby at_231) rfl (l' := #[.val (.int p1), .val (.int p2), .val (.int p3), .val (.int p4), .val (.int p5), .val (.int (3 : Int32)), .val (.int c3), .val (.int c5), .val (.int c7), .val (.int c9), .val (.ref b94), .val (.ref b99), .val (.int (own_bs [(own_sb c3), (own_sb c5), (own_sb c7)])), .val (.int (1 : Int32)), .unset]) rfl k) ?_
          exact J233_113 T141 _ X141 E141 N141 (1 : Int32) (Or.inl ⟨rfl, hc227_142⟩)
        · skip
          refine ownW_step (T' := T141) (f' := (F140 233 [])) (fun t k => XS.ifYes X141.here hx rfl (pc0 := 227) (pc' := 233) rfl (hb hby at_227) rfl ((if0 _ _).trans (feq hc227_142).2) (by decide) (by decide) k) ?_
          exact J233_113 T141 _ X141 E141 N141 xa110 (Or.inr ⟨hc227_142, hp2⟩)
      refine ownW_step (T' := T107) (f' := (F109 201 [(.int (3 : Int32))])) (fun t k => XS.iload X107.here hx rfl (hb hby at_199) rfl k) ?_
      refine ownW_step (T' := T107) (f' := (F109 202 [(.int (2 : Int32)), (.int (3 : Int32))])) (fun t k => XS.iconst X107.here hx rfl (hb hby at_201) k) ?_
      refine ownW_step (T' := T107) (f' := (F109 205 [])) (fun t k => XS.icmpNo X107.here hx rfl (hb hby at_202) rfl (tlt (by decide : (2 : Int32) < (3 : Int32))).2.2.2 k) ?_
      refine ownW_step (T' := T107) (f' := (F109 207 [(.int c7)])) (fun t k => XS.iload X107.here hx rfl (hb hby at_205) rfl k) ?_
      obtain ⟨_, _, ⟨T144, L144, k144, n144⟩, -, X144, ⟨Lc144, hQ144, l144, y144, z144⟩, st144⟩ := Jvm.LawKit.callS X107 hx (y := (⟨"com/example/lit2/lit2/input/LineBeginsSectionPinLaw", "blank", "(C)Z"⟩ : MethodName)) hown2 (mvT hZ2 (own_w hw 108 rfl)) (mvT hZ2 (own_w hw 109 rfl)) (mvT hZ2 (own_w hw 3 rfl)) (mvT hZ2 (own_w hw 110 rfl)) (by decide) (backOf (W := 0) (rm16 l Z a0 hw [] c7 T105.heap n0 Zz) hZ2 (own_w hw 110 rfl) (own_w hw 3 rfl) (by decide) (by decide)) (g := (F109 207 [(.int c7)])) rfl (by rw [hml]; rfl) (argsL := [(.int c7)]) (rest := []) (lenOf pd_0_5 rfl) rfl (by show 2 * 0 + _ ≤ _; exact Nat.le_of_eq rfl) (hb hby at_207) (fun _ _ => ⟨rfl, E107, (by decide : 8 + 0 ≤ _), (by decide : 30 + 0 ≤ _)⟩)
      dsimp only [Pt.U, Pt.locs, Pt.cells, Pt.slots] at X144 l144 y144 z144 st144 hQ144
      subst l144 y144 z144
      obtain ⟨rfl, N144q, E144⟩ := hQ144
      have N144 := Fr.app N107 N144q
      refine ownW_step (T' := T144) (f' := (F109 210 [(.int (own_bl c7))])) (fun t k => st144 t k) ?_
      by_cases hc210_145 : (own_bl c7) = (0 : Int32)
      · skip
        refine ownW_step (T' := T144) (f' := (F109 213 [])) (fun t k => XS.ifNo X144.here hx rfl (hb hby at_210) rfl ((if0 _ _).trans (teq hc210_145).2) k) ?_
        refine ownW_step (T' := T144) (f' := (F109 214 [(.int (2 : Int32))])) (fun t k => XS.iconst X144.here hx rfl (hb hby at_213) k) ?_
        let F146 : Nat → List Value → JFrame := fun a b => mkF m a #[.val (.int p1), .val (.int p2), .val (.int p3), .val (.int p4), .val (.int p5), .val (.int (3 : Int32)), .val (.int c3), .val (.int c5), .val (.int c7), .val (.int c9), .val (.ref b94), .val (.ref b99), .val (.int (own_bs [(own_sb c3), (own_sb c5), (own_sb c7)])), .val (.int (2 : Int32)), .unset] b
        refine ownW_step (T' := T144) (f' := (F146 216 [])) (fun t k => XS.istore X144.here hx rfl (hb hby at_214) rfl (l' := #[.val (.int p1), .val (.int p2), .val (.int p3), .val (.int p4), .val (.int p5), .val (.int (3 : Int32)), .val (.int c3), .val (.int c5), .val (.int c7), .val (.int c9), .val (.ref b94), .val (.ref b99), .val (.int (own_bs [(own_sb c3), (own_sb c5), (own_sb c7)])), .val (.int (2 : Int32)), .unset]) rfl k) ?_
        exact J216_111 T144 _ X144 E144 N144 (2 : Int32) (Or.inl ⟨rfl, hc210_145⟩)
      · skip
        refine ownW_step (T' := T144) (f' := (F109 216 [])) (fun t k => XS.ifYes X144.here hx rfl (pc0 := 210) (pc' := 216) rfl (hb hby at_210) rfl ((if0 _ _).trans (feq hc210_145).2) (by decide) (by decide) k) ?_
        exact J216_111 T144 _ X144 E144 N144 (3 : Int32) (Or.inr ⟨hc210_145, rfl⟩)
    · skip
      let F147 : Nat → List Value → JFrame := fun a b => mkF m a #[.val (.int p1), .val (.int p2), .val (.int p3), .val (.int p4), .val (.int p5), .val (.int (4 : Int32)), .val (.int c3), .val (.int c5), .val (.int c7), .val (.int c9), .unset, .unset, .unset, .unset, .unset] b
      refine ownW_step (T' := T_11) (f' := (F147 35 [(.int (4 : Int32))])) (fun t k => XS.iload X_11.here hx rfl (hb hby at_33) rfl k) ?_
      refine ownW_step (T' := T_11) (f' := (F147 46 [])) (fun t k => XS.ifYes X_11.here hx rfl (pc0 := 35) (pc' := 46) rfl (hb hby at_35) rfl ((if0 _ _).trans (feq (by decide : ¬ ((4 : Int32) = (0 : Int32)))).2) (by decide) (by decide) k) ?_
      refine ownW_step (T' := T_11) (f' := (F147 48 [(.int (4 : Int32))])) (fun t k => XS.iload X_11.here hx rfl (hb hby at_46) rfl k) ?_
      refine ownW_step (T' := T_11) (f' := (F147 49 [(.int (1 : Int32)), (.int (4 : Int32))])) (fun t k => XS.iconst X_11.here hx rfl (hb hby at_48) k) ?_
      refine ownW_step (T' := T_11) (f' := (F147 65 [])) (fun t k => XS.icmpYes X_11.here hx rfl (pc0 := 49) (pc' := 65) rfl (hb hby at_49) rfl (feq (by decide : ¬ ((4 : Int32) = (1 : Int32)))).2 (by decide) (by decide) k) ?_
      refine ownW_step (T' := T_11) (f' := (F147 67 [(.int (4 : Int32))])) (fun t k => XS.iload X_11.here hx rfl (hb hby at_65) rfl k) ?_
      refine ownW_step (T' := T_11) (f' := (F147 68 [(.int (2 : Int32)), (.int (4 : Int32))])) (fun t k => XS.iconst X_11.here hx rfl (hb hby at_67) k) ?_
      refine ownW_step (T' := T_11) (f' := (F147 89 [])) (fun t k => XS.icmpYes X_11.here hx rfl (pc0 := 68) (pc' := 89) rfl (hb hby at_68) rfl (feq (by decide : ¬ ((4 : Int32) = (2 : Int32)))).2 (by decide) (by decide) k) ?_
      refine ownW_step (T' := T_11) (f' := (F147 91 [(.int (4 : Int32))])) (fun t k => XS.iload X_11.here hx rfl (hb hby at_89) rfl k) ?_
      refine ownW_step (T' := T_11) (f' := (F147 92 [(.int (3 : Int32)), (.int (4 : Int32))])) (fun t k => XS.iconst X_11.here hx rfl (hb hby at_91) k) ?_
      refine ownW_step (T' := T_11) (f' := (F147 118 [])) (fun t k => XS.icmpYes X_11.here hx rfl (pc0 := 92) (pc' := 118) rfl (hb hby at_92) rfl (feq (by decide : ¬ ((4 : Int32) = (3 : Int32)))).2 (by decide) (by decide) k) ?_
      refine ownW_step (T' := T_11) (f' := (F147 119 [(.int (4 : Int32))])) (fun t k => XS.iconst X_11.here hx rfl (hb hby at_118) k) ?_
      obtain ⟨T148, h148, k148, X148, e148, E148, A148, EX148, st148⟩ := newPE X_11 hx hZ (own_w hw 5 rfl) e_11 (g := (F147 119 [(.int (4 : Int32))])) rfl (hb hby at_119) rfl (by decide) (cap := 4) (by decide) (by decide) (by decide) (by decide) (ad := "[C") rfl
      obtain ⟨b148, g148⟩ : ∃ z, z = h0.size := ⟨_, rfl⟩
      rw [← g148] at A148 EX148 st148
      have g_b148 : n0 ≤ b148 := Nat.le_trans Zz (Nat.le_of_eq g148.symm)
      have sz_b148 : h0.size ≤ b148 := Nat.le_trans Kp.1 (Nat.le_of_eq g148.symm)
      replace S_CS := S_CS.ext E148
      replace S_SC := S_SC.ext E148
      replace S_U := S_U.ext E148
      replace S_I := S_I.ext E148
      replace Zz := Nat.le_trans Zz E148.1
      replace Kp := Kp.ext E148
      have V_b148 : Arv Z h148 b148 k148 .char (4 : Int32) [(.int (0 : Int32)), (.int (0 : Int32)), (.int (0 : Int32)), (.int (0 : Int32))] (.int (0 : Int32)) := (Arv.new A148 (by decide)).pad (pad_rep [] (.int (0 : Int32)) 4)
      have EX_b148 := EX148
      refine ownW_step (T' := T148) (f' := (F147 121 [(.ref b148)])) (fun t k => st148 t k) ?_
      refine ownW_step (T' := T148) (f' := (F147 122 [(.ref b148), (.ref b148)])) (fun t k => XS.dup X148.here hx rfl (hb hby at_121) rfl rfl k) ?_
      refine ownW_step (T' := T148) (f' := (F147 123 [(.int (0 : Int32)), (.ref b148), (.ref b148)])) (fun t k => XS.iconst X148.here hx rfl (hb hby at_122) k) ?_
      refine ownW_step (T' := T148) (f' := (F147 125 [(.int c3), (.int (0 : Int32)), (.ref b148), (.ref b148)])) (fun t k => XS.iload X148.here hx rfl (hb hby at_123) rfl k) ?_
      obtain ⟨cl149, Ar149, q149, S149, M149, H149, G149⟩ := V_b148
      have hin149 : ¬ ((0 : Int32) < 0 ∨ cl149.slots.size ≤ ((0 : Int32)).toNatClampNeg) := inb_of S149 ⟨by decide, by decide⟩
      obtain ⟨T149, h149, X149, e149, W149, st149⟩ := stC X148 hx hZ e148 Ar149 (j := (0 : Int32)) hin149 (g := (F147 125 [(.int c3), (.int (0 : Int32)), (.ref b148), (.ref b148)])) rfl rfl (hb hby at_125)
      have V_b148 : Arv Z h149 b148 k148 .char (4 : Int32) [(.int c3), (.int (0 : Int32)), (.int (0 : Int32)), (.int (0 : Int32))] (.int (0 : Int32)) := by have q := Arv.set Ar149 q149 S149 M149 H149 G149 (fits_nar_char _) W149 0 rfl (Nat.le_of_ble_eq_true rfl); rw [own_nc hC3] at q; exact q
      replace S_CS := S_CS.wr W149
      replace S_SC := S_SC.wr W149
      replace S_U := S_U.wr W149
      replace S_I := S_I.wr W149
      replace EX_b148 := EX_b148.wr W149
      replace Zz := Nat.le_trans Zz (Keep.of_wr W149).1
      replace Kp := Kp.wr W149 (Or.inr sz_b148)
      have N149 := Fr.snoc X149 N_11 g_b148
      refine ownW_step (T' := T149) (f' := (F147 126 [(.ref b148)])) (fun t k => st149 t k) ?_
      refine ownW_step (T' := T149) (f' := (F147 127 [(.ref b148), (.ref b148)])) (fun t k => XS.dup X149.here hx rfl (hb hby at_126) rfl rfl k) ?_
      refine ownW_step (T' := T149) (f' := (F147 128 [(.int (1 : Int32)), (.ref b148), (.ref b148)])) (fun t k => XS.iconst X149.here hx rfl (hb hby at_127) k) ?_
      refine ownW_step (T' := T149) (f' := (F147 130 [(.int c5), (.int (1 : Int32)), (.ref b148), (.ref b148)])) (fun t k => XS.iload X149.here hx rfl (hb hby at_128) rfl k) ?_
      obtain ⟨cl150, Ar150, q150, S150, M150, H150, G150⟩ := V_b148
      have hin150 : ¬ ((1 : Int32) < 0 ∨ cl150.slots.size ≤ ((1 : Int32)).toNatClampNeg) := inb_of S150 ⟨by decide, by decide⟩
      obtain ⟨T150, h150, X150, e150, W150, st150⟩ := stC X149 hx hZ e149 Ar150 (j := (1 : Int32)) hin150 (g := (F147 130 [(.int c5), (.int (1 : Int32)), (.ref b148), (.ref b148)])) rfl rfl (hb hby at_130)
      have V_b148 : Arv Z h150 b148 k148 .char (4 : Int32) [(.int c3), (.int c5), (.int (0 : Int32)), (.int (0 : Int32))] (.int (0 : Int32)) := by have q := Arv.set Ar150 q150 S150 M150 H150 G150 (fits_nar_char _) W150 1 rfl (Nat.le_of_ble_eq_true rfl); rw [own_nc hC5] at q; exact q
      replace S_CS := S_CS.wr W150
      replace S_SC := S_SC.wr W150
      replace S_U := S_U.wr W150
      replace S_I := S_I.wr W150
      replace EX_b148 := EX_b148.wr W150
      replace Zz := Nat.le_trans Zz (Keep.of_wr W150).1
      replace Kp := Kp.wr W150 (Or.inr sz_b148)
      have N150 := Fr.snoc X150 N149 g_b148
      refine ownW_step (T' := T150) (f' := (F147 131 [(.ref b148)])) (fun t k => st150 t k) ?_
      refine ownW_step (T' := T150) (f' := (F147 132 [(.ref b148), (.ref b148)])) (fun t k => XS.dup X150.here hx rfl (hb hby at_131) rfl rfl k) ?_
      refine ownW_step (T' := T150) (f' := (F147 133 [(.int (2 : Int32)), (.ref b148), (.ref b148)])) (fun t k => XS.iconst X150.here hx rfl (hb hby at_132) k) ?_
      refine ownW_step (T' := T150) (f' := (F147 135 [(.int c7), (.int (2 : Int32)), (.ref b148), (.ref b148)])) (fun t k => XS.iload X150.here hx rfl (hb hby at_133) rfl k) ?_
      obtain ⟨cl151, Ar151, q151, S151, M151, H151, G151⟩ := V_b148
      have hin151 : ¬ ((2 : Int32) < 0 ∨ cl151.slots.size ≤ ((2 : Int32)).toNatClampNeg) := inb_of S151 ⟨by decide, by decide⟩
      obtain ⟨T151, h151, X151, e151, W151, st151⟩ := stC X150 hx hZ e150 Ar151 (j := (2 : Int32)) hin151 (g := (F147 135 [(.int c7), (.int (2 : Int32)), (.ref b148), (.ref b148)])) rfl rfl (hb hby at_135)
      have V_b148 : Arv Z h151 b148 k148 .char (4 : Int32) [(.int c3), (.int c5), (.int c7), (.int (0 : Int32))] (.int (0 : Int32)) := by have q := Arv.set Ar151 q151 S151 M151 H151 G151 (fits_nar_char _) W151 2 rfl (Nat.le_of_ble_eq_true rfl); rw [own_nc hC7] at q; exact q
      replace S_CS := S_CS.wr W151
      replace S_SC := S_SC.wr W151
      replace S_U := S_U.wr W151
      replace S_I := S_I.wr W151
      replace EX_b148 := EX_b148.wr W151
      replace Zz := Nat.le_trans Zz (Keep.of_wr W151).1
      replace Kp := Kp.wr W151 (Or.inr sz_b148)
      have N151 := Fr.snoc X151 N150 g_b148
      refine ownW_step (T' := T151) (f' := (F147 136 [(.ref b148)])) (fun t k => st151 t k) ?_
      refine ownW_step (T' := T151) (f' := (F147 137 [(.ref b148), (.ref b148)])) (fun t k => XS.dup X151.here hx rfl (hb hby at_136) rfl rfl k) ?_
      refine ownW_step (T' := T151) (f' := (F147 138 [(.int (3 : Int32)), (.ref b148), (.ref b148)])) (fun t k => XS.iconst X151.here hx rfl (hb hby at_137) k) ?_
      refine ownW_step (T' := T151) (f' := (F147 140 [(.int c9), (.int (3 : Int32)), (.ref b148), (.ref b148)])) (fun t k => XS.iload X151.here hx rfl (hb hby at_138) rfl k) ?_
      obtain ⟨cl152, Ar152, q152, S152, M152, H152, G152⟩ := V_b148
      have hin152 : ¬ ((3 : Int32) < 0 ∨ cl152.slots.size ≤ ((3 : Int32)).toNatClampNeg) := inb_of S152 ⟨by decide, by decide⟩
      obtain ⟨T152, h152, X152, e152, W152, st152⟩ := stC X151 hx hZ e151 Ar152 (j := (3 : Int32)) hin152 (g := (F147 140 [(.int c9), (.int (3 : Int32)), (.ref b148), (.ref b148)])) rfl rfl (hb hby at_140)
      have V_b148 : Arv Z h152 b148 k148 .char (4 : Int32) [(.int c3), (.int c5), (.int c7), (.int c9)] (.int (0 : Int32)) := by have q := Arv.set Ar152 q152 S152 M152 H152 G152 (fits_nar_char _) W152 3 rfl (Nat.le_of_ble_eq_true rfl); rw [own_nc hC9] at q; exact q
      replace S_CS := S_CS.wr W152
      replace S_SC := S_SC.wr W152
      replace S_U := S_U.wr W152
      replace S_I := S_I.wr W152
      replace EX_b148 := EX_b148.wr W152
      replace Zz := Nat.le_trans Zz (Keep.of_wr W152).1
      replace Kp := Kp.wr W152 (Or.inr sz_b148)
      have N152 := Fr.snoc X152 N151 g_b148
      refine ownW_step (T' := T152) (f' := (F147 141 [(.ref b148)])) (fun t k => st152 t k) ?_
      let F153 : Nat → List Value → JFrame := fun a b => mkF m a #[.val (.int p1), .val (.int p2), .val (.int p3), .val (.int p4), .val (.int p5), .val (.int (4 : Int32)), .val (.int c3), .val (.int c5), .val (.int c7), .val (.int c9), .val (.ref b148), .unset, .unset, .unset, .unset] b
      refine ownW_step (T' := T152) (f' := (F153 143 [])) (fun t k => XS.astore X152.here hx rfl (hb hby at_141) rfl rfl (l' := #[.val (.int p1), .val (.int p2), .val (.int p3), .val (.int p4), .val (.int p5), .val (.int (4 : Int32)), .val (.int c3), .val (.int c5), .val (.int c7), .val (.int c9), .val (.ref b148), .unset, .unset, .unset, .unset]) rfl k) ?_
      obtain ⟨T154, h154, X154, e154, E154, A154, D154, -, st154⟩ := newO X152 hx hZ hown (own_w hw 6 rfl) (own_w hw 7 rfl) (own_w hw 8 rfl) e152 (g := (F153 143 [])) rfl (hb hby at_143) (by decide) (by decide)
      obtain ⟨b154, g154⟩ : ∃ z, z = h152.size := ⟨_, rfl⟩
      rw [← g154] at A154 D154 st154
      have ne_b148_b154 : b148 ≠ b154 := Nat.ne_of_lt (Nat.lt_of_lt_of_le V_b148.lt (Nat.le_of_eq g154.symm))
      have g_b154 : n0 ≤ b154 := Nat.le_trans Zz (Nat.le_of_eq g154.symm)
      have sz_b154 : h0.size ≤ b154 := Nat.le_trans Kp.1 (Nat.le_of_eq g154.symm)
      replace S_CS := S_CS.ext E154
      replace S_SC := S_SC.ext E154
      replace S_U := S_U.ext E154
      replace S_I := S_I.ext E154
      replace V_b148 := V_b148.ext E154
      replace EX_b148 := EX_b148.ext E154
      replace Zz := Nat.le_trans Zz E154.1
      replace Kp := Kp.ext E154
      have E_b154 := A154
      have F_characters_b154 : Fld Z h154 b154 "com/example/lit2/lit2/input/Line" "characters" "[B" .null := D154 (Or.inr (own_w hw 82 rfl)) (ty := (.array .byte)) (by decide)
      have F_start_b154 : Fld Z h154 b154 "com/example/lit2/lit2/input/Line" "start" "I" (.int (0 : Int32)) := D154 (Or.inr (own_w hw 84 rfl)) (ty := .int) (by decide)
      have F_end_b154 : Fld Z h154 b154 "com/example/lit2/lit2/input/Line" "end" "I" (.int (0 : Int32)) := D154 (Or.inr (own_w hw 86 rfl)) (ty := .int) (by decide)
      have F_location_b154 : Fld Z h154 b154 "com/example/lit2/lit2/input/Line" "location" "Lcom/example/lit2/lit2/model/Location;" .null := D154 (Or.inr (own_w hw 88 rfl)) (ty := (.object "com/example/lit2/lit2/model/Location")) (by decide)
      have F_marks_b154 : Fld Z h154 b154 "com/example/lit2/lit2/input/Line" "marks" "I" (.int (0 : Int32)) := D154 (Or.inr (own_w hw 90 rfl)) (ty := .int) (by decide)
      have F_text_b154 : Fld Z h154 b154 "com/example/lit2/lit2/input/Line" "text" "Ljava/lang/String;" .null := D154 (Or.inl (own_w hw 92 rfl)) (ty := (.object "java/lang/String")) (by decide)
      refine ownW_step (T' := T154) (f' := (F153 146 [(.ref b154)])) (fun t k => st154 t k) ?_
      refine ownW_step (T' := T154) (f' := (F153 147 [(.ref b154), (.ref b154)])) (fun t k => XS.dup X154.here hx rfl (hb hby at_146) rfl rfl k) ?_
      obtain ⟨T155, h155, X155, e155, E155, A155, D155, -, st155⟩ := newO X154 hx hZ hown (own_w hw 9 rfl) (own_w hw 10 rfl) (own_w hw 11 rfl) e154 (g := (F153 147 [(.ref b154), (.ref b154)])) rfl (hb hby at_147) (by decide) (by decide)
      obtain ⟨b155, g155⟩ : ∃ z, z = h154.size := ⟨_, rfl⟩
      rw [← g155] at A155 D155 st155
      have ne_b148_b155 : b148 ≠ b155 := Nat.ne_of_lt (Nat.lt_of_lt_of_le V_b148.lt (Nat.le_of_eq g155.symm))
      have ne_b154_b155 : b154 ≠ b155 := Nat.ne_of_lt (Nat.lt_of_lt_of_le E_b154.lt (Nat.le_of_eq g155.symm))
      have g_b155 : n0 ≤ b155 := Nat.le_trans Zz (Nat.le_of_eq g155.symm)
      have sz_b155 : h0.size ≤ b155 := Nat.le_trans Kp.1 (Nat.le_of_eq g155.symm)
      replace S_CS := S_CS.ext E155
      replace S_SC := S_SC.ext E155
      replace S_U := S_U.ext E155
      replace S_I := S_I.ext E155
      replace V_b148 := V_b148.ext E155
      replace EX_b148 := EX_b148.ext E155
      replace E_b154 := E_b154.ext E155
      replace F_characters_b154 := F_characters_b154.ext E155
      replace F_start_b154 := F_start_b154.ext E155
      replace F_end_b154 := F_end_b154.ext E155
      replace F_location_b154 := F_location_b154.ext E155
      replace F_marks_b154 := F_marks_b154.ext E155
      replace F_text_b154 := F_text_b154.ext E155
      replace Zz := Nat.le_trans Zz E155.1
      replace Kp := Kp.ext E155
      have E_b155 := A155
      have F_value_b155 : Fld Z h155 b155 "java/lang/String" "value" "[B" .null := D155 (Or.inr (own_w hw 24 rfl)) (ty := (.array .byte)) (by decide)
      have F_coder_b155 : Fld Z h155 b155 "java/lang/String" "coder" "B" (.int (0 : Int32)) := D155 (Or.inr (own_w hw 25 rfl)) (ty := .byte) (by decide)
      refine ownW_step (T' := T155) (f' := (F153 150 [(.ref b155), (.ref b154), (.ref b154)])) (fun t k => st155 t k) ?_
      refine ownW_step (T' := T155) (f' := (F153 151 [(.ref b155), (.ref b155), (.ref b154), (.ref b154)])) (fun t k => XS.dup X155.here hx rfl (hb hby at_150) rfl rfl k) ?_
      refine ownW_step (T' := T155) (f' := (F153 153 [(.ref b148), (.ref b155), (.ref b155), (.ref b154), (.ref b154)])) (fun t k => XS.aload X155.here hx rfl (hb hby at_151) rfl rfl k) ?_
      obtain ⟨_, _, ⟨T156, L156, k156, n156⟩, -, X156, ⟨Lc156, hQ156, l156, y156, z156⟩, st156⟩ := X155.specialBack hx (y := (⟨"java/lang/String", "<init>", "([C)V"⟩ : MethodName)) rfl hown (mvT hZ (own_w hw 12 rfl)) (mvT hZ (own_w hw 13 rfl)) (mvT hZ (own_w hw 14 rfl)) (by decide) (backOf (W := 3) (rm2_4 l Z a0 hw [] b155 b148 h155 n0 Zz E_b155 F_value_b155 F_coder_b155 g_b155 k148 c3 c5 c7 c9 hC3 hC5 hC7 hC9 V_b148 cs S_CS hcs (Ne.symm ne_b148_b155)) hZ (own_w hw 14 rfl) (own_w hw 11 rfl) (by decide) (by decide)) (g := (F153 153 [(.ref b148), (.ref b155), (.ref b155), (.ref b154), (.ref b154)])) rfl (by rw [hml]; rfl) (Steps.refl _) (a := b155) (argsL := [(.ref b148)]) (rest := [(.ref b155), (.ref b154), (.ref b154)]) (lenOf pd_0_1 rfl) rfl (by show 2 * 0 + _ ≤ _; exact Nat.le_of_eq rfl) (hb hby at_153) (fun _ _ => ⟨rfl, e155, (by decide : 3 + 1 ≤ _), (by decide : 14 + 4 ≤ _)⟩)
      dsimp only [Pt.U, Pt.locs, Pt.cells, Pt.slots] at X156 l156 y156 z156 st156 hQ156
      subst l156 y156 z156
      obtain ⟨rfl, N156q, K156, sb156, sk156, SE156, SC156, SV156, SA156, SX156⟩ := hQ156
      have N156 := Fr.app N152 N156q
      replace S_CS := own_sta_keep S_CS K156 (allS ⟨_, E_b155⟩ all0)
      replace S_SC := own_sta_keep S_SC K156 (allS ⟨_, E_b155⟩ all0)
      replace S_U := own_sta_keep S_U K156 (allS ⟨_, E_b155⟩ all0)
      replace S_I := own_sta_keep S_I K156 (allS ⟨_, E_b155⟩ all0)
      replace V_b148 := V_b148.keep K156 (ninS ne_b148_b155 nin0)
      replace EX_b148 := EX_b148.keep K156
      replace E_b154 := E_b154.keep K156
      replace F_characters_b154 := F_characters_b154.keep K156 (ninS ne_b154_b155 nin0)
      replace F_start_b154 := F_start_b154.keep K156 (ninS ne_b154_b155 nin0)
      replace F_end_b154 := F_end_b154.keep K156 (ninS ne_b154_b155 nin0)
      replace F_location_b154 := F_location_b154.keep K156 (ninS ne_b154_b155 nin0)
      replace F_marks_b154 := F_marks_b154.keep K156 (ninS ne_b154_b155 nin0)
      replace F_text_b154 := F_text_b154.keep K156 (ninS ne_b154_b155 nin0)
      replace E_b155 := E_b155.keep K156
      replace Zz := Nat.le_trans Zz K156.1
      replace Kp := Kp.trans K156 (allS (Or.inr sz_b155) all0)
      refine ownW_step (T' := T156) (f' := (F153 156 [(.ref b155), (.ref b154), (.ref b154)])) (fun t k => st156.trans k) ?_
      obtain ⟨T157, h157, X157, e157, E157, A157, D157, -, st157⟩ := newO X156 hx hZ hown (own_w hw 30 rfl) (own_w hw 31 rfl) (own_w hw 32 rfl) rfl (g := (F153 156 [(.ref b155), (.ref b154), (.ref b154)])) rfl (hb hby at_156) (by decide) (by decide)
      obtain ⟨b157, g157⟩ : ∃ z, z = T156.heap.size := ⟨_, rfl⟩
      rw [← g157] at A157 D157 st157
      have ne_b148_b157 : b148 ≠ b157 := Nat.ne_of_lt (Nat.lt_of_lt_of_le V_b148.lt (Nat.le_of_eq g157.symm))
      have ne_b154_b157 : b154 ≠ b157 := Nat.ne_of_lt (Nat.lt_of_lt_of_le E_b154.lt (Nat.le_of_eq g157.symm))
      have ne_b155_b157 : b155 ≠ b157 := Nat.ne_of_lt (Nat.lt_of_lt_of_le E_b155.lt (Nat.le_of_eq g157.symm))
      have ne_sb156_b157 : sb156 ≠ b157 := Nat.ne_of_lt (Nat.lt_of_lt_of_le SA156.lt (Nat.le_of_eq g157.symm))
      have g_b157 : n0 ≤ b157 := Nat.le_trans Zz (Nat.le_of_eq g157.symm)
      have sz_b157 : h0.size ≤ b157 := Nat.le_trans Kp.1 (Nat.le_of_eq g157.symm)
      replace S_CS := S_CS.ext E157
      replace S_SC := S_SC.ext E157
      replace S_U := S_U.ext E157
      replace S_I := S_I.ext E157
      replace V_b148 := V_b148.ext E157
      replace EX_b148 := EX_b148.ext E157
      replace E_b154 := E_b154.ext E157
      replace F_characters_b154 := F_characters_b154.ext E157
      replace F_start_b154 := F_start_b154.ext E157
      replace F_end_b154 := F_end_b154.ext E157
      replace F_location_b154 := F_location_b154.ext E157
      replace F_marks_b154 := F_marks_b154.ext E157
      replace F_text_b154 := F_text_b154.ext E157
      replace E_b155 := E_b155.ext E157
      replace SC156 := SC156.ext E157
      replace SV156 := SV156.ext E157
      replace SA156 := SA156.ext E157
      replace SX156 := SX156.ext E157
      replace Zz := Nat.le_trans Zz E157.1
      replace Kp := Kp.ext E157
      have E_b157 := A157
      have F_file_b157 : Fld Z h157 b157 "com/example/lit2/lit2/model/Location" "file" "Ljava/lang/String;" .null := D157 (Or.inr (own_w hw 39 rfl)) (ty := (.object "java/lang/String")) (by decide)
      have F_line_b157 : Fld Z h157 b157 "com/example/lit2/lit2/model/Location" "line" "I" (.int (0 : Int32)) := D157 (Or.inr (own_w hw 41 rfl)) (ty := .int) (by decide)
      refine ownW_step (T' := T157) (f' := (F153 159 [(.ref b157), (.ref b155), (.ref b154), (.ref b154)])) (fun t k => st157 t k) ?_
      refine ownW_step (T' := T157) (f' := (F153 160 [(.ref b157), (.ref b157), (.ref b155), (.ref b154), (.ref b154)])) (fun t k => XS.dup X157.here hx rfl (hb hby at_159) rfl rfl k) ?_
      obtain ⟨la, T158, h158, k1158, X158, e158, E158, hS158, hk158, hZ2, hown2, -, -, st158⟩ := ldcOH (s := s) (vm0 := s.vm) (Z := Z) (a0 := a0) (EL := ownEL) X157 hx hZ hown (own_w hw 33 rfl) (fun d hd => by simp only [Bundle.stringAtoms, Bundle.sN, List.mem_cons, List.not_mem_nil, or_false] at hd; rcases hd with rfl | rfl | rfl | rfl | rfl | rfl | rfl <;> first | exact (own_w hw 11 rfl) | exact (own_w hw 10 rfl) | exact (own_w hw 23 rfl) | exact (own_w hw 24 rfl) | exact (own_w hw 25 rfl) | exact (own_w hw 26 rfl) | exact (own_w hw 27 rfl)) e157 ((State.WarmedH.refl s).since h157.size) (Nat.le_refl _) hEL (own_chv Kp) (g := (F153 160 [(.ref b157), (.ref b157), (.ref b155), (.ref b154), (.ref b154)])) rfl (hb hby at_160) (n := 4) (by decide) (by decide) (by decide) (by decide)
      replace S_CS := S_CS.ext E158
      replace S_SC := S_SC.ext E158
      replace S_U := S_U.ext E158
      replace S_I := S_I.ext E158
      replace V_b148 := V_b148.ext E158
      replace EX_b148 := EX_b148.ext E158
      replace E_b154 := E_b154.ext E158
      replace F_characters_b154 := F_characters_b154.ext E158
      replace F_start_b154 := F_start_b154.ext E158
      replace F_end_b154 := F_end_b154.ext E158
      replace F_location_b154 := F_location_b154.ext E158
      replace F_marks_b154 := F_marks_b154.ext E158
      replace F_text_b154 := F_text_b154.ext E158
      replace E_b155 := E_b155.ext E158
      replace SC156 := SC156.ext E158
      replace SV156 := SV156.ext E158
      replace SA156 := SA156.ext E158
      replace SX156 := SX156.ext E158
      replace E_b157 := E_b157.ext E158
      replace F_file_b157 := F_file_b157.ext E158
      replace F_line_b157 := F_line_b157.ext E158
      replace Zz := Nat.le_trans Zz E158.1
      replace Kp := Kp.ext E158
      refine ownW_step (T' := T158) (f' := (F153 162 [(.ref la), (.ref b157), (.ref b157), (.ref b155), (.ref b154), (.ref b154)])) (fun t k => st158 t k) ?_
      refine ownW_step (T' := T158) (f' := (F153 163 [(.int (1 : Int32)), (.ref la), (.ref b157), (.ref b157), (.ref b155), (.ref b154), (.ref b154)])) (fun t k => XS.iconst X158.here hx rfl (hb hby at_162) k) ?_
      obtain ⟨_, _, ⟨T159, L159, k159, n159⟩, -, X159, ⟨Lc159, hQ159, l159, y159, z159⟩, st159⟩ := X158.specialBack hx (y := (⟨"com/example/lit2/lit2/model/Location", "<init>", "(Ljava/lang/String;I)V"⟩ : MethodName)) rfl hown2 (mvT hZ2 (own_w hw 34 rfl)) (mvT hZ2 (own_w hw 35 rfl)) (mvT hZ2 (own_w hw 36 rfl)) (by decide) (backOf (W := 4) (rm5 l Z a0 hw [] b157 la h158 n0 Zz E_b157 F_file_b157 F_line_b157 g_b157) hZ2 (own_w hw 36 rfl) (own_w hw 32 rfl) (by decide) (by decide)) (g := (F153 163 [(.int (1 : Int32)), (.ref la), (.ref b157), (.ref b157), (.ref b155), (.ref b154), (.ref b154)])) rfl (by rw [hml]; rfl) (Steps.refl _) (a := b157) (argsL := [(.ref la), (.int (1 : Int32))]) (rest := [(.ref b157), (.ref b155), (.ref b154), (.ref b154)]) (lenOf pd_0_2 rfl) rfl (by show 2 * 0 + _ ≤ _; exact Nat.le_of_eq rfl) (hb hby at_163) (fun _ _ => ⟨rfl, e158, (by decide : 7 + 0 ≤ _), (by decide : 28 + 0 ≤ _)⟩)
      dsimp only [Pt.U, Pt.locs, Pt.cells, Pt.slots] at X159 l159 y159 z159 st159 hQ159
      subst l159 y159 z159
      obtain ⟨rfl, N159q, K159⟩ := hQ159
      have N159 := Fr.app N156 N159q
      replace S_CS := own_sta_keep S_CS K159 (allS ⟨_, E_b157⟩ all0)
      replace S_SC := own_sta_keep S_SC K159 (allS ⟨_, E_b157⟩ all0)
      replace S_U := own_sta_keep S_U K159 (allS ⟨_, E_b157⟩ all0)
      replace S_I := own_sta_keep S_I K159 (allS ⟨_, E_b157⟩ all0)
      replace V_b148 := V_b148.keep K159 (ninS ne_b148_b157 nin0)
      replace EX_b148 := EX_b148.keep K159
      replace E_b154 := E_b154.keep K159
      replace F_characters_b154 := F_characters_b154.keep K159 (ninS ne_b154_b157 nin0)
      replace F_start_b154 := F_start_b154.keep K159 (ninS ne_b154_b157 nin0)
      replace F_end_b154 := F_end_b154.keep K159 (ninS ne_b154_b157 nin0)
      replace F_location_b154 := F_location_b154.keep K159 (ninS ne_b154_b157 nin0)
      replace F_marks_b154 := F_marks_b154.keep K159 (ninS ne_b154_b157 nin0)
      replace F_text_b154 := F_text_b154.keep K159 (ninS ne_b154_b157 nin0)
      replace E_b155 := E_b155.keep K159
      replace SC156 := SC156.keep K159 (ninS ne_b155_b157 nin0)
      replace SV156 := SV156.keep K159 (ninS ne_b155_b157 nin0)
      replace SA156 := SA156.keep K159 (ninS ne_sb156_b157 nin0)
      replace SX156 := SX156.keep K159
      replace E_b157 := E_b157.keep K159
      replace Zz := Nat.le_trans Zz K159.1
      replace Kp := Kp.trans K159 (allS (Or.inr sz_b157) all0)
      have hg159 := Nat.le_trans hk158 K159.1
      refine ownW_step (T' := T159) (f' := (F153 166 [(.ref b157), (.ref b155), (.ref b154), (.ref b154)])) (fun t k => st159.trans k) ?_
      obtain ⟨_, _, ⟨T160, L160, k160, n160⟩, -, X160, ⟨Lc160, hQ160, l160, y160, z160⟩, st160⟩ := X159.specialBack hx (y := (⟨"com/example/lit2/lit2/input/Line", "<init>", "(Ljava/lang/String;Lcom/example/lit2/lit2/model/Location;)V"⟩ : MethodName)) rfl hown2 (mvT hZ2 (own_w hw 42 rfl)) (mvT hZ2 (own_w hw 43 rfl)) (mvT hZ2 (own_w hw 44 rfl)) (by decide) (backOf (W := 1) (rm6 l Z a0 hw [] b154 b155 b157 T159.heap n0 Zz E_b154 F_characters_b154 F_start_b154 F_end_b154 F_location_b154 F_marks_b154 F_text_b154 g_b154 sb156 sk156 (4 : Int32) [(.int (own_sb c3)), (.int (own_sb c5)), (.int (own_sb c7)), (.int (own_sb c9))] (by decide) ⟨E_b155, SC156, SV156, SA156, SX156⟩ ai S_SC aU S_U S_I neU cs S_CS hcs) hZ2 (own_w hw 44 rfl) (own_w hw 8 rfl) (by decide) (by decide)) (g := (F153 166 [(.ref b157), (.ref b155), (.ref b154), (.ref b154)])) rfl (by rw [hml]; rfl) (Steps.refl _) (a := b154) (argsL := [(.ref b155), (.ref b157)]) (rest := [(.ref b154)]) (lenOf pd_0_3 rfl) rfl (by show 2 * 0 + _ ≤ _; exact Nat.le_of_eq rfl) (hb hby at_166) (fun _ _ => ⟨rfl, rfl, (by decide : 7 + 1 ≤ _), (by decide : 28 + 4 ≤ _)⟩)
      dsimp only [Pt.U, Pt.locs, Pt.cells, Pt.slots] at X160 l160 y160 z160 st160 hQ160
      subst l160 y160 z160
      obtain ⟨rfl, N160q, K160, rb160, rk160, Fs160, Fe160, Fc160, Vr160⟩ := hQ160
      have N160 := Fr.app N159 N160q
      replace S_CS := own_sta_keep S_CS K160 (allS ⟨_, E_b154⟩ all0)
      replace S_SC := own_sta_keep S_SC K160 (allS ⟨_, E_b154⟩ all0)
      replace S_U := own_sta_keep S_U K160 (allS ⟨_, E_b154⟩ all0)
      replace S_I := own_sta_keep S_I K160 (allS ⟨_, E_b154⟩ all0)
      replace V_b148 := V_b148.keep K160 (ninS ne_b148_b154 nin0)
      replace EX_b148 := EX_b148.keep K160
      replace E_b154 := E_b154.keep K160
      replace Zz := Nat.le_trans Zz K160.1
      replace Kp := Kp.trans K160 (allS (Or.inr sz_b154) all0)
      have hg160 := Nat.le_trans hg159 K160.1
      refine ownW_step (T' := T160) (f' := (F153 169 [(.ref b154)])) (fun t k => st160.trans k) ?_
      let F161 : Nat → List Value → JFrame := fun a b => mkF m a #[.val (.int p1), .val (.int p2), .val (.int p3), .val (.int p4), .val (.int p5), .val (.int (4 : Int32)), .val (.int c3), .val (.int c5), .val (.int c7), .val (.int c9), .val (.ref b148), .val (.ref b154), .unset, .unset, .unset] b
      refine ownW_step (T' := T160) (f' := (F161 171 [])) (fun t k => XS.astore X160.here hx rfl (hb hby at_169) rfl rfl (l' := #[.val (.int p1), .val (.int p2), .val (.int p3), .val (.int p4), .val (.int p5), .val (.int (4 : Int32)), .val (.int c3), .val (.int c5), .val (.int c7), .val (.int c9), .val (.ref b148), .val (.ref b154), .unset, .unset, .unset]) rfl k) ?_
      refine ownW_step (T' := T160) (f' := (F161 173 [(.ref b154)])) (fun t k => XS.aload X160.here hx rfl (hb hby at_171) rfl rfl k) ?_
      obtain ⟨cq162, kq162, q162a, q162b, q162c⟩ := isOf hZ2 rfl E_b154
      obtain ⟨_, _, ⟨T162, L162, k162, n162⟩, -, X162, ⟨Lc162, hQ162, l162, y162, z162⟩, st162⟩ := X160.virtualBack hx (y := (⟨"com/example/lit2/lit2/input/Line", "beginsSection", "()Z"⟩ : MethodName)) (z := (⟨"com/example/lit2/lit2/input/Line", "beginsSection", "()Z"⟩ : MethodName)) hown2 (mvT hZ2 (own_w hw 93 rfl)) (mvT hZ2 (own_w hw 94 rfl)) (notFace_of_selects (args := #[]) (mvT hZ2 (own_w hw 96 rfl))) (mvT hZ2 (own_w hw 96 rfl)) (mvT hZ2 (own_w hw 95 rfl)) (by decide) (backOf (W := 0) (rm12_4 l Z a0 hw [] b154 T160.heap n0 Zz (own_sb c3) (own_sb c5) (own_sb c7) (own_sb c9) rb160 rk160 Fs160 Fe160 Fc160 Vr160) hZ2 (own_w hw 97 rfl) (own_w hw 8 rfl) (by decide) (by decide)) q162a q162c (g := (F161 173 [(.ref b154)])) rfl (by rw [hml]; rfl) (Steps.refl _) (argsL := []) (rest := []) (lenOf pd_0_4 rfl) rfl (by show 2 * 0 + _ ≤ _; exact Nat.le_of_eq rfl) (hb hby at_173) (fun _ _ => ⟨rfl, rfl, (by decide : 8 + 0 ≤ _), (by decide : 32 + 0 ≤ _)⟩)
      dsimp only [Pt.U, Pt.locs, Pt.cells, Pt.slots] at X162 l162 y162 z162 st162 hQ162
      subst l162 y162 z162
      obtain ⟨rfl, N162q, E162⟩ := hQ162
      have N162 := Fr.app N160 N162q
      refine ownW_step (T' := T162) (f' := (F161 176 [(.int (own_bs [(own_sb c3), (own_sb c5), (own_sb c7), (own_sb c9)]))])) (fun t k => st162.trans k) ?_
      let F163 : Nat → List Value → JFrame := fun a b => mkF m a #[.val (.int p1), .val (.int p2), .val (.int p3), .val (.int p4), .val (.int p5), .val (.int (4 : Int32)), .val (.int c3), .val (.int c5), .val (.int c7), .val (.int c9), .val (.ref b148), .val (.ref b154), .val (.int (own_bs [(own_sb c3), (own_sb c5), (own_sb c7), (own_sb c9)])), .unset, .unset] b
      refine ownW_step (T' := T162) (f' := (F163 178 [])) (fun t k => XS.istore X162.here hx rfl (hb hby at_176) rfl (l' := #[.val (.int p1), .val (.int p2), .val (.int p3), .val (.int p4), .val (.int p5), .val (.int (4 : Int32)), .val (.int c3), .val (.int c5), .val (.int c7), .val (.int c9), .val (.ref b148), .val (.ref b154), .val (.int (own_bs [(own_sb c3), (own_sb c5), (own_sb c7), (own_sb c9)])), .unset, .unset]) rfl k) ?_
      refine ownW_step (T' := T162) (f' := (F163 180 [(.int (4 : Int32))])) (fun t k => XS.iload X162.here hx rfl (hb hby at_178) rfl k) ?_
      let F164 : Nat → List Value → JFrame := fun a b => mkF m a #[.val (.int p1), .val (.int p2), .val (.int p3), .val (.int p4), .val (.int p5), .val (.int (4 : Int32)), .val (.int c3), .val (.int c5), .val (.int c7), .val (.int c9), .val (.ref b148), .val (.ref b154), .val (.int (own_bs [(own_sb c3), (own_sb c5), (own_sb c7), (own_sb c9)])), .val (.int (4 : Int32)), .unset] b
      refine ownW_step (T' := T162) (f' := (F164 182 [])) (fun t k => XS.istore X162.here hx rfl (hb hby at_180) rfl (l' := #[.val (.int p1), .val (.int p2), .val (.int p3), .val (.int p4), .val (.int p5), .val (.int (4 : Int32)), .val (.int c3), .val (.int c5), .val (.int c7), .val (.int c9), .val (.ref b148), .val (.ref b154), .val (.int (own_bs [(own_sb c3), (own_sb c5), (own_sb c7), (own_sb c9)])), .val (.int (4 : Int32)), .unset]) rfl k) ?_
      have J199_166 : ∀ (T_166 : State) (l_166 : List Loc) (X_166 : Stand p l e room_1 (s.setVm T158.vm) m #[(.int p1), (.int p2), (.int p3), (.int p4), (.int p5)] below meth c T_166 l_166 8 32) (e_166 : T_166.heap = T160.heap) (N_166 : Fr n0 l_166) (xa165 : Int32) (hp3 : ((xa165 = (3 : Int32) ∧ (own_bl c9) = (0 : Int32)) ∨ (¬ (own_bl c9) = (0 : Int32) ∧ xa165 = (4 : Int32)))), OwnEndsW p e below s (Q0 n0) room_1.cells room_1.slots T_166 (mkF m 199 #[.val (.int p1), .val (.int p2), .val (.int p3), .val (.int p4), .val (.int p5), .val (.int (4 : Int32)), .val (.int c3), .val (.int c5), .val (.int c7), .val (.int c9), .val (.ref b148), .val (.ref b154), .val (.int (own_bs [(own_sb c3), (own_sb c5), (own_sb c7), (own_sb c9)])), .val (.int xa165), .unset] []) := by
        intro T_166 l_166 X_166 e_166 N_166 xa165 hp3
        have J216_168 : ∀ (T_168 : State) (l_168 : List Loc) (X_168 : Stand p l e room_1 (s.setVm T158.vm) m #[(.int p1), (.int p2), (.int p3), (.int p4), (.int p5)] below meth c T_168 l_168 8 32) (e_168 : T_168.heap = T160.heap) (N_168 : Fr n0 l_168) (xa167 : Int32) (hp2 : ((xa167 = (2 : Int32) ∧ (own_bl c7) = (0 : Int32)) ∨ (¬ (own_bl c7) = (0 : Int32) ∧ ((xa167 = (3 : Int32) ∧ (own_bl c9) = (0 : Int32)) ∨ (¬ (own_bl c9) = (0 : Int32) ∧ xa167 = (4 : Int32)))))), OwnEndsW p e below s (Q0 n0) room_1.cells room_1.slots T_168 (mkF m 216 #[.val (.int p1), .val (.int p2), .val (.int p3), .val (.int p4), .val (.int p5), .val (.int (4 : Int32)), .val (.int c3), .val (.int c5), .val (.int c7), .val (.int c9), .val (.ref b148), .val (.ref b154), .val (.int (own_bs [(own_sb c3), (own_sb c5), (own_sb c7), (own_sb c9)])), .val (.int xa167), .unset] []) := by
          intro T_168 l_168 X_168 e_168 N_168 xa167 hp2
          have J233_170 : ∀ (T_170 : State) (l_170 : List Loc) (X_170 : Stand p l e room_1 (s.setVm T158.vm) m #[(.int p1), (.int p2), (.int p3), (.int p4), (.int p5)] below meth c T_170 l_170 8 32) (e_170 : T_170.heap = T160.heap) (N_170 : Fr n0 l_170) (xa169 : Int32) (hp1 : ((xa169 = (1 : Int32) ∧ (own_bl c5) = (0 : Int32)) ∨ (¬ (own_bl c5) = (0 : Int32) ∧ ((xa169 = (2 : Int32) ∧ (own_bl c7) = (0 : Int32)) ∨ (¬ (own_bl c7) = (0 : Int32) ∧ ((xa169 = (3 : Int32) ∧ (own_bl c9) = (0 : Int32)) ∨ (¬ (own_bl c9) = (0 : Int32) ∧ xa169 = (4 : Int32)))))))), OwnEndsW p e below s (Q0 n0) room_1.cells room_1.slots T_170 (mkF m 233 #[.val (.int p1), .val (.int p2), .val (.int p3), .val (.int p4), .val (.int p5), .val (.int (4 : Int32)), .val (.int c3), .val (.int c5), .val (.int c7), .val (.int c9), .val (.ref b148), .val (.ref b154), .val (.int (own_bs [(own_sb c3), (own_sb c5), (own_sb c7), (own_sb c9)])), .val (.int xa169), .unset] []) := by
            intro T_170 l_170 X_170 e_170 N_170 xa169 hp1
            have J249_172 : ∀ (T_172 : State) (l_172 : List Loc) (X_172 : Stand p l e room_1 (s.setVm T158.vm) m #[(.int p1), (.int p2), (.int p3), (.int p4), (.int p5)] below meth c T_172 l_172 8 32) (e_172 : T_172.heap = T160.heap) (N_172 : Fr n0 l_172) (xa171 : Int32) (hp0 : ((xa171 = (0 : Int32) ∧ (own_bl c3) = (0 : Int32)) ∨ (¬ (own_bl c3) = (0 : Int32) ∧ ((xa171 = (1 : Int32) ∧ (own_bl c5) = (0 : Int32)) ∨ (¬ (own_bl c5) = (0 : Int32) ∧ ((xa171 = (2 : Int32) ∧ (own_bl c7) = (0 : Int32)) ∨ (¬ (own_bl c7) = (0 : Int32) ∧ ((xa171 = (3 : Int32) ∧ (own_bl c9) = (0 : Int32)) ∨ (¬ (own_bl c9) = (0 : Int32) ∧ xa171 = (4 : Int32)))))))))), OwnEndsW p e below s (Q0 n0) room_1.cells room_1.slots T_172 (mkF m 249 #[.val (.int p1), .val (.int p2), .val (.int p3), .val (.int p4), .val (.int p5), .val (.int (4 : Int32)), .val (.int c3), .val (.int c5), .val (.int c7), .val (.int c9), .val (.ref b148), .val (.ref b154), .val (.int (own_bs [(own_sb c3), (own_sb c5), (own_sb c7), (own_sb c9)])), .val (.int xa171), .unset] []) := by
              intro T_172 l_172 X_172 e_172 N_172 xa171 hp0
              rcases hp0 with ⟨rfl, hbl0⟩ | ⟨hbl0, (⟨rfl, hbl1⟩ | ⟨hbl1, (⟨rfl, hbl2⟩ | ⟨hbl2, (⟨rfl, hbl3⟩ | ⟨hbl3, rfl⟩)⟩)⟩)⟩
              · skip
                let F173 : Nat → List Value → JFrame := fun a b => mkF m a #[.val (.int p1), .val (.int p2), .val (.int p3), .val (.int p4), .val (.int p5), .val (.int (4 : Int32)), .val (.int c3), .val (.int c5), .val (.int c7), .val (.int c9), .val (.ref b148), .val (.ref b154), .val (.int (own_bs [(own_sb c3), (own_sb c5), (own_sb c7), (own_sb c9)])), .val (.int (0 : Int32)), .unset] b
                refine ownW_step (T' := T_172) (f' := (F173 251 [(.int (0 : Int32))])) (fun t k => XS.iload X_172.here hx rfl (hb hby at_249) rfl k) ?_
                refine ownW_step (T' := T_172) (f' := (F173 253 [(.int (4 : Int32)), (.int (0 : Int32))])) (fun t k => XS.iload X_172.here hx rfl (hb hby at_251) rfl k) ?_
                refine ownW_step (T' := T_172) (f' := (F173 262 [])) (fun t k => XS.icmpYes X_172.here hx rfl (pc0 := 253) (pc' := 262) rfl (hb hby at_253) rfl (tlt (by decide : (0 : Int32) < (4 : Int32))).1 (by decide) (by decide) k) ?_
                refine ownW_step (T' := T_172) (f' := (F173 264 [(.ref b148)])) (fun t k => XS.aload X_172.here hx rfl (hb hby at_262) rfl rfl k) ?_
                refine ownW_step (T' := T_172) (f' := (F173 266 [(.int (0 : Int32)), (.ref b148)])) (fun t k => XS.iload X_172.here hx rfl (hb hby at_264) rfl k) ?_
                obtain ⟨cl174, Ar174, q174, S174, M174, H174, G174⟩ := id V_b148
                have hin174 : ¬ ((0 : Int32) < 0 ∨ cl174.slots.size ≤ ((0 : Int32)).toNatClampNeg) := inb_of S174 ⟨by decide, by decide⟩
                have hat174 : cl174.slots[((0 : Int32)).toNatClampNeg]? = some (.int c3) := own_at hin174 H174 0 rfl rfl
                refine ownW_step (T' := T_172) (f' := (F173 267 [(.int c3)])) (fun t k => X_172.caload hx (j := (0 : Int32)) (v := (.int c3)) (by rw [e_172]; exact Ar174.1) (State.isArrayOf_alike hZ2.alike Ar174.2.1) Ar174.2.2 hin174 hat174 (g := (F173 266 [(.int (0 : Int32)), (.ref b148)])) rfl rfl (hb hby at_266) _ k) ?_
                refine ownW_step (T' := T_172) (f' := (F173 269 [(.int (64 : Int32)), (.int c3)])) (fun t k => XS.bipush X_172.here hx rfl (hb hby at_267) k) ?_
                by_cases hc269_175 : c3 = (64 : Int32)
                · skip
                  refine ownW_step (T' := T_172) (f' := (F173 278 [])) (fun t k => XS.icmpYes X_172.here hx rfl (pc0 := 269) (pc' := 278) rfl (hb hby at_269) rfl (teq hc269_175).1 (by decide) (by decide) k) ?_
                  refine ownW_step (T' := T_172) (f' := (F173 280 [(.int (0 : Int32))])) (fun t k => XS.iload X_172.here hx rfl (hb hby at_278) rfl k) ?_
                  refine ownW_step (T' := T_172) (f' := (F173 281 [(.int (1 : Int32)), (.int (0 : Int32))])) (fun t k => XS.iconst X_172.here hx rfl (hb hby at_280) k) ?_
                  refine ownW_step (T' := T_172) (f' := (F173 282 [(.int (1 : Int32))])) (fun t k => XS.iadd X_172.here hx rfl (hb hby at_281) rfl k) ?_
                  refine ownW_step (T' := T_172) (f' := (F173 284 [(.int (4 : Int32)), (.int (1 : Int32))])) (fun t k => XS.iload X_172.here hx rfl (hb hby at_282) rfl k) ?_
                  refine ownW_step (T' := T_172) (f' := (F173 293 [])) (fun t k => XS.icmpYes X_172.here hx rfl (pc0 := 284) (pc' := 293) rfl (hb hby at_284) rfl (feq (by decide : ¬ ((1 : Int32) = (4 : Int32)))).2 (by decide) (by decide) k) ?_
                  refine ownW_step (T' := T_172) (f' := (F173 295 [(.ref b148)])) (fun t k => XS.aload X_172.here hx rfl (hb hby at_293) rfl rfl k) ?_
                  refine ownW_step (T' := T_172) (f' := (F173 297 [(.int (0 : Int32)), (.ref b148)])) (fun t k => XS.iload X_172.here hx rfl (hb hby at_295) rfl k) ?_
                  refine ownW_step (T' := T_172) (f' := (F173 298 [(.int (1 : Int32)), (.int (0 : Int32)), (.ref b148)])) (fun t k => XS.iconst X_172.here hx rfl (hb hby at_297) k) ?_
                  refine ownW_step (T' := T_172) (f' := (F173 299 [(.int (1 : Int32)), (.ref b148)])) (fun t k => XS.iadd X_172.here hx rfl (hb hby at_298) rfl k) ?_
                  obtain ⟨cl176, Ar176, q176, S176, M176, H176, G176⟩ := id V_b148
                  have hin176 : ¬ ((1 : Int32) < 0 ∨ cl176.slots.size ≤ ((1 : Int32)).toNatClampNeg) := inb_of S176 ⟨by decide, by decide⟩
                  have hat176 : cl176.slots[((1 : Int32)).toNatClampNeg]? = some (.int c5) := own_at hin176 H176 1 rfl rfl
                  refine ownW_step (T' := T_172) (f' := (F173 300 [(.int c5)])) (fun t k => X_172.caload hx (j := (1 : Int32)) (v := (.int c5)) (by rw [e_172]; exact Ar176.1) (State.isArrayOf_alike hZ2.alike Ar176.2.1) Ar176.2.2 hin176 hat176 (g := (F173 299 [(.int (1 : Int32)), (.ref b148)])) rfl rfl (hb hby at_299) _ k) ?_
                  obtain ⟨_, _, ⟨T177, L177, k177, n177⟩, -, X177, ⟨Lc177, hQ177, l177, y177, z177⟩, st177⟩ := Jvm.LawKit.callS X_172 hx (y := (⟨"com/example/lit2/lit2/input/LineBeginsSectionPinLaw", "follows", "(C)Z"⟩ : MethodName)) hown2 (mvT hZ2 (own_w hw 111 rfl)) (mvT hZ2 (own_w hw 112 rfl)) (mvT hZ2 (own_w hw 3 rfl)) (mvT hZ2 (own_w hw 113 rfl)) (by decide) (backOf (W := 0) (rm17 l Z a0 hw [] c5 T160.heap n0 Zz) hZ2 (own_w hw 113 rfl) (own_w hw 3 rfl) (by decide) (by decide)) (g := (F173 300 [(.int c5)])) rfl (by rw [hml]; rfl) (argsL := [(.int c5)]) (rest := []) (lenOf pd_0_5 rfl) rfl (by show 2 * 0 + _ ≤ _; exact Nat.le_of_eq rfl) (hb hby at_300) (fun _ _ => ⟨rfl, e_172, (by decide : 8 + 0 ≤ _), (by decide : 32 + 0 ≤ _)⟩)
                  dsimp only [Pt.U, Pt.locs, Pt.cells, Pt.slots] at X177 l177 y177 z177 st177 hQ177
                  subst l177 y177 z177
                  obtain ⟨rfl, N177q, E177⟩ := hQ177
                  have N177 := Fr.app N_172 N177q
                  refine ownW_step (T' := T177) (f' := (F173 303 [(.int (own_fo c5))])) (fun t k => st177 t k) ?_
                  let F178 : Nat → List Value → JFrame := fun a b => mkF m a #[.val (.int p1), .val (.int p2), .val (.int p3), .val (.int p4), .val (.int p5), .val (.int (4 : Int32)), .val (.int c3), .val (.int c5), .val (.int c7), .val (.int c9), .val (.ref b148), .val (.ref b154), .val (.int (own_bs [(own_sb c3), (own_sb c5), (own_sb c7), (own_sb c9)])), .val (.int (0 : Int32)), .val (.int (own_fo c5))] b
                  refine ownW_step (T' := T177) (f' := (F178 305 [])) (fun t k => XS.istore X177.here hx rfl (hb hby at_303) rfl (l' := #[.val (.int p1), .val (.int p2), .val (.int p3), .val (.int p4), .val (.int p5), .val (.int (4 : Int32)), .val (.int c3), .val (.int c5), .val (.int c7), .val (.int c9), .val (.ref b148), .val (.ref b154), .val (.int (own_bs [(own_sb c3), (own_sb c5), (own_sb c7), (own_sb c9)])), .val (.int (0 : Int32)), .val (.int (own_fo c5))]) rfl k) ?_
                  refine ownW_step (T' := T177) (f' := (F178 307 [(.int (own_bs [(own_sb c3), (own_sb c5), (own_sb c7), (own_sb c9)]))])) (fun t k => XS.iload X177.here hx rfl (hb hby at_305) rfl k) ?_
                  refine ownW_step (T' := T177) (f' := (F178 309 [(.int (own_fo c5)), (.int (own_bs [(own_sb c3), (own_sb c5), (own_sb c7), (own_sb c9)]))])) (fun t k => XS.iload X177.here hx rfl (hb hby at_307) rfl k) ?_
                  refine ownW_step (T' := T177) (f' := (F178 312 [])) (fun t k => XS.icmpNo X177.here hx rfl (hb hby at_309) rfl (teq ((own_stopY hC3 hc269_175).trans (own_nxf hC5))).2 k) ?_
                  refine ownW_step (T' := T177) (f' := (F178 313 [(.int (1 : Int32))])) (fun t k => XS.iconst X177.here hx rfl (hb hby at_312) k) ?_
                  refine ownW_step (T' := T177) (f' := (F178 317 [(.int (1 : Int32))])) (fun t k => XS.goto X177.here hx rfl (pc0 := 313) (pc' := 317) rfl (hb hby at_313) (by decide) (by decide) k) ?_
                  exact ownW_retN X177 hS158 (by rw [E177]; exact hg160) hx hlk (t := .boolean) Bd.returns (by simp) (hb hby at_317) (by decide) (by decide) ⟨rfl, N177⟩
                · skip
                  refine ownW_step (T' := T_172) (f' := (F173 272 [])) (fun t k => XS.icmpNo X_172.here hx rfl (hb hby at_269) rfl (feq hc269_175).1 k) ?_
                  refine ownW_step (T' := T_172) (f' := (F173 273 [(.int (0 : Int32))])) (fun t k => XS.iconst X_172.here hx rfl (hb hby at_272) k) ?_
                  let F179 : Nat → List Value → JFrame := fun a b => mkF m a #[.val (.int p1), .val (.int p2), .val (.int p3), .val (.int p4), .val (.int p5), .val (.int (4 : Int32)), .val (.int c3), .val (.int c5), .val (.int c7), .val (.int c9), .val (.ref b148), .val (.ref b154), .val (.int (own_bs [(own_sb c3), (own_sb c5), (own_sb c7), (own_sb c9)])), .val (.int (0 : Int32)), .val (.int (0 : Int32))] b
                  refine ownW_step (T' := T_172) (f' := (F179 275 [])) (fun t k => XS.istore X_172.here hx rfl (hb hby at_273) rfl (l' := #[.val (.int p1), .val (.int p2), .val (.int p3), .val (.int p4), .val (.int p5), .val (.int (4 : Int32)), .val (.int c3), .val (.int c5), .val (.int c7), .val (.int c9), .val (.ref b148), .val (.ref b154), .val (.int (own_bs [(own_sb c3), (own_sb c5), (own_sb c7), (own_sb c9)])), .val (.int (0 : Int32)), .val (.int (0 : Int32))]) rfl k) ?_
                  refine ownW_step (T' := T_172) (f' := (F179 305 [])) (fun t k => XS.goto X_172.here hx rfl (pc0 := 275) (pc' := 305) rfl (hb hby at_275) (by decide) (by decide) k) ?_
                  refine ownW_step (T' := T_172) (f' := (F179 307 [(.int (own_bs [(own_sb c3), (own_sb c5), (own_sb c7), (own_sb c9)]))])) (fun t k => XS.iload X_172.here hx rfl (hb hby at_305) rfl k) ?_
                  refine ownW_step (T' := T_172) (f' := (F179 309 [(.int (0 : Int32)), (.int (own_bs [(own_sb c3), (own_sb c5), (own_sb c7), (own_sb c9)]))])) (fun t k => XS.iload X_172.here hx rfl (hb hby at_307) rfl k) ?_
                  refine ownW_step (T' := T_172) (f' := (F179 312 [])) (fun t k => XS.icmpNo X_172.here hx rfl (hb hby at_309) rfl (teq (own_stopN hC3 hbl0 hc269_175)).2 k) ?_
                  refine ownW_step (T' := T_172) (f' := (F179 313 [(.int (1 : Int32))])) (fun t k => XS.iconst X_172.here hx rfl (hb hby at_312) k) ?_
                  refine ownW_step (T' := T_172) (f' := (F179 317 [(.int (1 : Int32))])) (fun t k => XS.goto X_172.here hx rfl (pc0 := 313) (pc' := 317) rfl (hb hby at_313) (by decide) (by decide) k) ?_
                  exact ownW_retN X_172 hS158 (by rw [e_172]; exact hg160) hx hlk (t := .boolean) Bd.returns (by simp) (hb hby at_317) (by decide) (by decide) ⟨rfl, N_172⟩
              · skip
                let F180 : Nat → List Value → JFrame := fun a b => mkF m a #[.val (.int p1), .val (.int p2), .val (.int p3), .val (.int p4), .val (.int p5), .val (.int (4 : Int32)), .val (.int c3), .val (.int c5), .val (.int c7), .val (.int c9), .val (.ref b148), .val (.ref b154), .val (.int (own_bs [(own_sb c3), (own_sb c5), (own_sb c7), (own_sb c9)])), .val (.int (1 : Int32)), .unset] b
                refine ownW_step (T' := T_172) (f' := (F180 251 [(.int (1 : Int32))])) (fun t k => XS.iload X_172.here hx rfl (hb hby at_249) rfl k) ?_
                refine ownW_step (T' := T_172) (f' := (F180 253 [(.int (4 : Int32)), (.int (1 : Int32))])) (fun t k => XS.iload X_172.here hx rfl (hb hby at_251) rfl k) ?_
                refine ownW_step (T' := T_172) (f' := (F180 262 [])) (fun t k => XS.icmpYes X_172.here hx rfl (pc0 := 253) (pc' := 262) rfl (hb hby at_253) rfl (tlt (by decide : (1 : Int32) < (4 : Int32))).1 (by decide) (by decide) k) ?_
                refine ownW_step (T' := T_172) (f' := (F180 264 [(.ref b148)])) (fun t k => XS.aload X_172.here hx rfl (hb hby at_262) rfl rfl k) ?_
                refine ownW_step (T' := T_172) (f' := (F180 266 [(.int (1 : Int32)), (.ref b148)])) (fun t k => XS.iload X_172.here hx rfl (hb hby at_264) rfl k) ?_
                obtain ⟨cl181, Ar181, q181, S181, M181, H181, G181⟩ := id V_b148
                have hin181 : ¬ ((1 : Int32) < 0 ∨ cl181.slots.size ≤ ((1 : Int32)).toNatClampNeg) := inb_of S181 ⟨by decide, by decide⟩
                have hat181 : cl181.slots[((1 : Int32)).toNatClampNeg]? = some (.int c5) := own_at hin181 H181 1 rfl rfl
                refine ownW_step (T' := T_172) (f' := (F180 267 [(.int c5)])) (fun t k => X_172.caload hx (j := (1 : Int32)) (v := (.int c5)) (by rw [e_172]; exact Ar181.1) (State.isArrayOf_alike hZ2.alike Ar181.2.1) Ar181.2.2 hin181 hat181 (g := (F180 266 [(.int (1 : Int32)), (.ref b148)])) rfl rfl (hb hby at_266) _ k) ?_
                refine ownW_step (T' := T_172) (f' := (F180 269 [(.int (64 : Int32)), (.int c5)])) (fun t k => XS.bipush X_172.here hx rfl (hb hby at_267) k) ?_
                by_cases hc269_182 : c5 = (64 : Int32)
                · skip
                  refine ownW_step (T' := T_172) (f' := (F180 278 [])) (fun t k => XS.icmpYes X_172.here hx rfl (pc0 := 269) (pc' := 278) rfl (hb hby at_269) rfl (teq hc269_182).1 (by decide) (by decide) k) ?_
                  refine ownW_step (T' := T_172) (f' := (F180 280 [(.int (1 : Int32))])) (fun t k => XS.iload X_172.here hx rfl (hb hby at_278) rfl k) ?_
                  refine ownW_step (T' := T_172) (f' := (F180 281 [(.int (1 : Int32)), (.int (1 : Int32))])) (fun t k => XS.iconst X_172.here hx rfl (hb hby at_280) k) ?_
                  refine ownW_step (T' := T_172) (f' := (F180 282 [(.int (2 : Int32))])) (fun t k => XS.iadd X_172.here hx rfl (hb hby at_281) rfl k) ?_
                  refine ownW_step (T' := T_172) (f' := (F180 284 [(.int (4 : Int32)), (.int (2 : Int32))])) (fun t k => XS.iload X_172.here hx rfl (hb hby at_282) rfl k) ?_
                  refine ownW_step (T' := T_172) (f' := (F180 293 [])) (fun t k => XS.icmpYes X_172.here hx rfl (pc0 := 284) (pc' := 293) rfl (hb hby at_284) rfl (feq (by decide : ¬ ((2 : Int32) = (4 : Int32)))).2 (by decide) (by decide) k) ?_
                  refine ownW_step (T' := T_172) (f' := (F180 295 [(.ref b148)])) (fun t k => XS.aload X_172.here hx rfl (hb hby at_293) rfl rfl k) ?_
                  refine ownW_step (T' := T_172) (f' := (F180 297 [(.int (1 : Int32)), (.ref b148)])) (fun t k => XS.iload X_172.here hx rfl (hb hby at_295) rfl k) ?_
                  refine ownW_step (T' := T_172) (f' := (F180 298 [(.int (1 : Int32)), (.int (1 : Int32)), (.ref b148)])) (fun t k => XS.iconst X_172.here hx rfl (hb hby at_297) k) ?_
                  refine ownW_step (T' := T_172) (f' := (F180 299 [(.int (2 : Int32)), (.ref b148)])) (fun t k => XS.iadd X_172.here hx rfl (hb hby at_298) rfl k) ?_
                  obtain ⟨cl183, Ar183, q183, S183, M183, H183, G183⟩ := id V_b148
                  have hin183 : ¬ ((2 : Int32) < 0 ∨ cl183.slots.size ≤ ((2 : Int32)).toNatClampNeg) := inb_of S183 ⟨by decide, by decide⟩
                  have hat183 : cl183.slots[((2 : Int32)).toNatClampNeg]? = some (.int c7) := own_at hin183 H183 2 rfl rfl
                  refine ownW_step (T' := T_172) (f' := (F180 300 [(.int c7)])) (fun t k => X_172.caload hx (j := (2 : Int32)) (v := (.int c7)) (by rw [e_172]; exact Ar183.1) (State.isArrayOf_alike hZ2.alike Ar183.2.1) Ar183.2.2 hin183 hat183 (g := (F180 299 [(.int (2 : Int32)), (.ref b148)])) rfl rfl (hb hby at_299) _ k) ?_
                  obtain ⟨_, _, ⟨T184, L184, k184, n184⟩, -, X184, ⟨Lc184, hQ184, l184, y184, z184⟩, st184⟩ := Jvm.LawKit.callS X_172 hx (y := (⟨"com/example/lit2/lit2/input/LineBeginsSectionPinLaw", "follows", "(C)Z"⟩ : MethodName)) hown2 (mvT hZ2 (own_w hw 111 rfl)) (mvT hZ2 (own_w hw 112 rfl)) (mvT hZ2 (own_w hw 3 rfl)) (mvT hZ2 (own_w hw 113 rfl)) (by decide) (backOf (W := 0) (rm17 l Z a0 hw [] c7 T160.heap n0 Zz) hZ2 (own_w hw 113 rfl) (own_w hw 3 rfl) (by decide) (by decide)) (g := (F180 300 [(.int c7)])) rfl (by rw [hml]; rfl) (argsL := [(.int c7)]) (rest := []) (lenOf pd_0_5 rfl) rfl (by show 2 * 0 + _ ≤ _; exact Nat.le_of_eq rfl) (hb hby at_300) (fun _ _ => ⟨rfl, e_172, (by decide : 8 + 0 ≤ _), (by decide : 32 + 0 ≤ _)⟩)
                  dsimp only [Pt.U, Pt.locs, Pt.cells, Pt.slots] at X184 l184 y184 z184 st184 hQ184
                  subst l184 y184 z184
                  obtain ⟨rfl, N184q, E184⟩ := hQ184
                  have N184 := Fr.app N_172 N184q
                  refine ownW_step (T' := T184) (f' := (F180 303 [(.int (own_fo c7))])) (fun t k => st184 t k) ?_
                  let F185 : Nat → List Value → JFrame := fun a b => mkF m a #[.val (.int p1), .val (.int p2), .val (.int p3), .val (.int p4), .val (.int p5), .val (.int (4 : Int32)), .val (.int c3), .val (.int c5), .val (.int c7), .val (.int c9), .val (.ref b148), .val (.ref b154), .val (.int (own_bs [(own_sb c3), (own_sb c5), (own_sb c7), (own_sb c9)])), .val (.int (1 : Int32)), .val (.int (own_fo c7))] b
                  refine ownW_step (T' := T184) (f' := (F185 305 [])) (fun t k => XS.istore X184.here hx rfl (hb hby at_303) rfl (l' := #[.val (.int p1), .val (.int p2), .val (.int p3), .val (.int p4), .val (.int p5), .val (.int (4 : Int32)), .val (.int c3), .val (.int c5), .val (.int c7), .val (.int c9), .val (.ref b148), .val (.ref b154), .val (.int (own_bs [(own_sb c3), (own_sb c5), (own_sb c7), (own_sb c9)])), .val (.int (1 : Int32)), .val (.int (own_fo c7))]) rfl k) ?_
                  refine ownW_step (T' := T184) (f' := (F185 307 [(.int (own_bs [(own_sb c3), (own_sb c5), (own_sb c7), (own_sb c9)]))])) (fun t k => XS.iload X184.here hx rfl (hb hby at_305) rfl k) ?_
                  refine ownW_step (T' := T184) (f' := (F185 309 [(.int (own_fo c7)), (.int (own_bs [(own_sb c3), (own_sb c5), (own_sb c7), (own_sb c9)]))])) (fun t k => XS.iload X184.here hx rfl (hb hby at_307) rfl k) ?_
                  refine ownW_step (T' := T184) (f' := (F185 312 [])) (fun t k => XS.icmpNo X184.here hx rfl (hb hby at_309) rfl (teq ((own_skip hC3 hbl0).trans ((own_stopY hC5 hc269_182).trans (own_nxf hC7)))).2 k) ?_
                  refine ownW_step (T' := T184) (f' := (F185 313 [(.int (1 : Int32))])) (fun t k => XS.iconst X184.here hx rfl (hb hby at_312) k) ?_
                  refine ownW_step (T' := T184) (f' := (F185 317 [(.int (1 : Int32))])) (fun t k => XS.goto X184.here hx rfl (pc0 := 313) (pc' := 317) rfl (hb hby at_313) (by decide) (by decide) k) ?_
                  exact ownW_retN X184 hS158 (by rw [E184]; exact hg160) hx hlk (t := .boolean) Bd.returns (by simp) (hb hby at_317) (by decide) (by decide) ⟨rfl, N184⟩
                · skip
                  refine ownW_step (T' := T_172) (f' := (F180 272 [])) (fun t k => XS.icmpNo X_172.here hx rfl (hb hby at_269) rfl (feq hc269_182).1 k) ?_
                  refine ownW_step (T' := T_172) (f' := (F180 273 [(.int (0 : Int32))])) (fun t k => XS.iconst X_172.here hx rfl (hb hby at_272) k) ?_
                  let F186 : Nat → List Value → JFrame := fun a b => mkF m a #[.val (.int p1), .val (.int p2), .val (.int p3), .val (.int p4), .val (.int p5), .val (.int (4 : Int32)), .val (.int c3), .val (.int c5), .val (.int c7), .val (.int c9), .val (.ref b148), .val (.ref b154), .val (.int (own_bs [(own_sb c3), (own_sb c5), (own_sb c7), (own_sb c9)])), .val (.int (1 : Int32)), .val (.int (0 : Int32))] b
                  refine ownW_step (T' := T_172) (f' := (F186 275 [])) (fun t k => XS.istore X_172.here hx rfl (hb hby at_273) rfl (l' := #[.val (.int p1), .val (.int p2), .val (.int p3), .val (.int p4), .val (.int p5), .val (.int (4 : Int32)), .val (.int c3), .val (.int c5), .val (.int c7), .val (.int c9), .val (.ref b148), .val (.ref b154), .val (.int (own_bs [(own_sb c3), (own_sb c5), (own_sb c7), (own_sb c9)])), .val (.int (1 : Int32)), .val (.int (0 : Int32))]) rfl k) ?_
                  refine ownW_step (T' := T_172) (f' := (F186 305 [])) (fun t k => XS.goto X_172.here hx rfl (pc0 := 275) (pc' := 305) rfl (hb hby at_275) (by decide) (by decide) k) ?_
                  refine ownW_step (T' := T_172) (f' := (F186 307 [(.int (own_bs [(own_sb c3), (own_sb c5), (own_sb c7), (own_sb c9)]))])) (fun t k => XS.iload X_172.here hx rfl (hb hby at_305) rfl k) ?_
                  refine ownW_step (T' := T_172) (f' := (F186 309 [(.int (0 : Int32)), (.int (own_bs [(own_sb c3), (own_sb c5), (own_sb c7), (own_sb c9)]))])) (fun t k => XS.iload X_172.here hx rfl (hb hby at_307) rfl k) ?_
                  refine ownW_step (T' := T_172) (f' := (F186 312 [])) (fun t k => XS.icmpNo X_172.here hx rfl (hb hby at_309) rfl (teq ((own_skip hC3 hbl0).trans (own_stopN hC5 hbl1 hc269_182))).2 k) ?_
                  refine ownW_step (T' := T_172) (f' := (F186 313 [(.int (1 : Int32))])) (fun t k => XS.iconst X_172.here hx rfl (hb hby at_312) k) ?_
                  refine ownW_step (T' := T_172) (f' := (F186 317 [(.int (1 : Int32))])) (fun t k => XS.goto X_172.here hx rfl (pc0 := 313) (pc' := 317) rfl (hb hby at_313) (by decide) (by decide) k) ?_
                  exact ownW_retN X_172 hS158 (by rw [e_172]; exact hg160) hx hlk (t := .boolean) Bd.returns (by simp) (hb hby at_317) (by decide) (by decide) ⟨rfl, N_172⟩
              · skip
                let F187 : Nat → List Value → JFrame := fun a b => mkF m a #[.val (.int p1), .val (.int p2), .val (.int p3), .val (.int p4), .val (.int p5), .val (.int (4 : Int32)), .val (.int c3), .val (.int c5), .val (.int c7), .val (.int c9), .val (.ref b148), .val (.ref b154), .val (.int (own_bs [(own_sb c3), (own_sb c5), (own_sb c7), (own_sb c9)])), .val (.int (2 : Int32)), .unset] b
                refine ownW_step (T' := T_172) (f' := (F187 251 [(.int (2 : Int32))])) (fun t k => XS.iload X_172.here hx rfl (hb hby at_249) rfl k) ?_
                refine ownW_step (T' := T_172) (f' := (F187 253 [(.int (4 : Int32)), (.int (2 : Int32))])) (fun t k => XS.iload X_172.here hx rfl (hb hby at_251) rfl k) ?_
                refine ownW_step (T' := T_172) (f' := (F187 262 [])) (fun t k => XS.icmpYes X_172.here hx rfl (pc0 := 253) (pc' := 262) rfl (hb hby at_253) rfl (tlt (by decide : (2 : Int32) < (4 : Int32))).1 (by decide) (by decide) k) ?_
                refine ownW_step (T' := T_172) (f' := (F187 264 [(.ref b148)])) (fun t k => XS.aload X_172.here hx rfl (hb hby at_262) rfl rfl k) ?_
                refine ownW_step (T' := T_172) (f' := (F187 266 [(.int (2 : Int32)), (.ref b148)])) (fun t k => XS.iload X_172.here hx rfl (hb hby at_264) rfl k) ?_
                obtain ⟨cl188, Ar188, q188, S188, M188, H188, G188⟩ := id V_b148
                have hin188 : ¬ ((2 : Int32) < 0 ∨ cl188.slots.size ≤ ((2 : Int32)).toNatClampNeg) := inb_of S188 ⟨by decide, by decide⟩
                have hat188 : cl188.slots[((2 : Int32)).toNatClampNeg]? = some (.int c7) := own_at hin188 H188 2 rfl rfl
                refine ownW_step (T' := T_172) (f' := (F187 267 [(.int c7)])) (fun t k => X_172.caload hx (j := (2 : Int32)) (v := (.int c7)) (by rw [e_172]; exact Ar188.1) (State.isArrayOf_alike hZ2.alike Ar188.2.1) Ar188.2.2 hin188 hat188 (g := (F187 266 [(.int (2 : Int32)), (.ref b148)])) rfl rfl (hb hby at_266) _ k) ?_
                refine ownW_step (T' := T_172) (f' := (F187 269 [(.int (64 : Int32)), (.int c7)])) (fun t k => XS.bipush X_172.here hx rfl (hb hby at_267) k) ?_
                by_cases hc269_189 : c7 = (64 : Int32)
                · skip
                  refine ownW_step (T' := T_172) (f' := (F187 278 [])) (fun t k => XS.icmpYes X_172.here hx rfl (pc0 := 269) (pc' := 278) rfl (hb hby at_269) rfl (teq hc269_189).1 (by decide) (by decide) k) ?_
                  refine ownW_step (T' := T_172) (f' := (F187 280 [(.int (2 : Int32))])) (fun t k => XS.iload X_172.here hx rfl (hb hby at_278) rfl k) ?_
                  refine ownW_step (T' := T_172) (f' := (F187 281 [(.int (1 : Int32)), (.int (2 : Int32))])) (fun t k => XS.iconst X_172.here hx rfl (hb hby at_280) k) ?_
                  refine ownW_step (T' := T_172) (f' := (F187 282 [(.int (3 : Int32))])) (fun t k => XS.iadd X_172.here hx rfl (hb hby at_281) rfl k) ?_
                  refine ownW_step (T' := T_172) (f' := (F187 284 [(.int (4 : Int32)), (.int (3 : Int32))])) (fun t k => XS.iload X_172.here hx rfl (hb hby at_282) rfl k) ?_
                  refine ownW_step (T' := T_172) (f' := (F187 293 [])) (fun t k => XS.icmpYes X_172.here hx rfl (pc0 := 284) (pc' := 293) rfl (hb hby at_284) rfl (feq (by decide : ¬ ((3 : Int32) = (4 : Int32)))).2 (by decide) (by decide) k) ?_
                  refine ownW_step (T' := T_172) (f' := (F187 295 [(.ref b148)])) (fun t k => XS.aload X_172.here hx rfl (hb hby at_293) rfl rfl k) ?_
                  refine ownW_step (T' := T_172) (f' := (F187 297 [(.int (2 : Int32)), (.ref b148)])) (fun t k => XS.iload X_172.here hx rfl (hb hby at_295) rfl k) ?_
                  refine ownW_step (T' := T_172) (f' := (F187 298 [(.int (1 : Int32)), (.int (2 : Int32)), (.ref b148)])) (fun t k => XS.iconst X_172.here hx rfl (hb hby at_297) k) ?_
                  refine ownW_step (T' := T_172) (f' := (F187 299 [(.int (3 : Int32)), (.ref b148)])) (fun t k => XS.iadd X_172.here hx rfl (hb hby at_298) rfl k) ?_
                  obtain ⟨cl190, Ar190, q190, S190, M190, H190, G190⟩ := id V_b148
                  have hin190 : ¬ ((3 : Int32) < 0 ∨ cl190.slots.size ≤ ((3 : Int32)).toNatClampNeg) := inb_of S190 ⟨by decide, by decide⟩
                  have hat190 : cl190.slots[((3 : Int32)).toNatClampNeg]? = some (.int c9) := own_at hin190 H190 3 rfl rfl
                  refine ownW_step (T' := T_172) (f' := (F187 300 [(.int c9)])) (fun t k => X_172.caload hx (j := (3 : Int32)) (v := (.int c9)) (by rw [e_172]; exact Ar190.1) (State.isArrayOf_alike hZ2.alike Ar190.2.1) Ar190.2.2 hin190 hat190 (g := (F187 299 [(.int (3 : Int32)), (.ref b148)])) rfl rfl (hb hby at_299) _ k) ?_
                  obtain ⟨_, _, ⟨T191, L191, k191, n191⟩, -, X191, ⟨Lc191, hQ191, l191, y191, z191⟩, st191⟩ := Jvm.LawKit.callS X_172 hx (y := (⟨"com/example/lit2/lit2/input/LineBeginsSectionPinLaw", "follows", "(C)Z"⟩ : MethodName)) hown2 (mvT hZ2 (own_w hw 111 rfl)) (mvT hZ2 (own_w hw 112 rfl)) (mvT hZ2 (own_w hw 3 rfl)) (mvT hZ2 (own_w hw 113 rfl)) (by decide) (backOf (W := 0) (rm17 l Z a0 hw [] c9 T160.heap n0 Zz) hZ2 (own_w hw 113 rfl) (own_w hw 3 rfl) (by decide) (by decide)) (g := (F187 300 [(.int c9)])) rfl (by rw [hml]; rfl) (argsL := [(.int c9)]) (rest := []) (lenOf pd_0_5 rfl) rfl (by show 2 * 0 + _ ≤ _; exact Nat.le_of_eq rfl) (hb hby at_300) (fun _ _ => ⟨rfl, e_172, (by decide : 8 + 0 ≤ _), (by decide : 32 + 0 ≤ _)⟩)
                  dsimp only [Pt.U, Pt.locs, Pt.cells, Pt.slots] at X191 l191 y191 z191 st191 hQ191
                  subst l191 y191 z191
                  obtain ⟨rfl, N191q, E191⟩ := hQ191
                  have N191 := Fr.app N_172 N191q
                  refine ownW_step (T' := T191) (f' := (F187 303 [(.int (own_fo c9))])) (fun t k => st191 t k) ?_
                  let F192 : Nat → List Value → JFrame := fun a b => mkF m a #[.val (.int p1), .val (.int p2), .val (.int p3), .val (.int p4), .val (.int p5), .val (.int (4 : Int32)), .val (.int c3), .val (.int c5), .val (.int c7), .val (.int c9), .val (.ref b148), .val (.ref b154), .val (.int (own_bs [(own_sb c3), (own_sb c5), (own_sb c7), (own_sb c9)])), .val (.int (2 : Int32)), .val (.int (own_fo c9))] b
                  refine ownW_step (T' := T191) (f' := (F192 305 [])) (fun t k => XS.istore X191.here hx rfl (hb hby at_303) rfl (l' := #[.val (.int p1), .val (.int p2), .val (.int p3), .val (.int p4), .val (.int p5), .val (.int (4 : Int32)), .val (.int c3), .val (.int c5), .val (.int c7), .val (.int c9), .val (.ref b148), .val (.ref b154), .val (.int (own_bs [(own_sb c3), (own_sb c5), (own_sb c7), (own_sb c9)])), .val (.int (2 : Int32)), .val (.int (own_fo c9))]) rfl k) ?_
                  refine ownW_step (T' := T191) (f' := (F192 307 [(.int (own_bs [(own_sb c3), (own_sb c5), (own_sb c7), (own_sb c9)]))])) (fun t k => XS.iload X191.here hx rfl (hb hby at_305) rfl k) ?_
                  refine ownW_step (T' := T191) (f' := (F192 309 [(.int (own_fo c9)), (.int (own_bs [(own_sb c3), (own_sb c5), (own_sb c7), (own_sb c9)]))])) (fun t k => XS.iload X191.here hx rfl (hb hby at_307) rfl k) ?_
                  refine ownW_step (T' := T191) (f' := (F192 312 [])) (fun t k => XS.icmpNo X191.here hx rfl (hb hby at_309) rfl (teq ((own_skip hC3 hbl0).trans ((own_skip hC5 hbl1).trans ((own_stopY hC7 hc269_189).trans (own_nxf hC9))))).2 k) ?_
                  refine ownW_step (T' := T191) (f' := (F192 313 [(.int (1 : Int32))])) (fun t k => XS.iconst X191.here hx rfl (hb hby at_312) k) ?_
                  refine ownW_step (T' := T191) (f' := (F192 317 [(.int (1 : Int32))])) (fun t k => XS.goto X191.here hx rfl (pc0 := 313) (pc' := 317) rfl (hb hby at_313) (by decide) (by decide) k) ?_
                  exact ownW_retN X191 hS158 (by rw [E191]; exact hg160) hx hlk (t := .boolean) Bd.returns (by simp) (hb hby at_317) (by decide) (by decide) ⟨rfl, N191⟩
                · skip
                  refine ownW_step (T' := T_172) (f' := (F187 272 [])) (fun t k => XS.icmpNo X_172.here hx rfl (hb hby at_269) rfl (feq hc269_189).1 k) ?_
                  refine ownW_step (T' := T_172) (f' := (F187 273 [(.int (0 : Int32))])) (fun t k => XS.iconst X_172.here hx rfl (hb hby at_272) k) ?_
                  let F193 : Nat → List Value → JFrame := fun a b => mkF m a #[.val (.int p1), .val (.int p2), .val (.int p3), .val (.int p4), .val (.int p5), .val (.int (4 : Int32)), .val (.int c3), .val (.int c5), .val (.int c7), .val (.int c9), .val (.ref b148), .val (.ref b154), .val (.int (own_bs [(own_sb c3), (own_sb c5), (own_sb c7), (own_sb c9)])), .val (.int (2 : Int32)), .val (.int (0 : Int32))] b
                  refine ownW_step (T' := T_172) (f' := (F193 275 [])) (fun t k => XS.istore X_172.here hx rfl (hb hby at_273) rfl (l' := #[.val (.int p1), .val (.int p2), .val (.int p3), .val (.int p4), .val (.int p5), .val (.int (4 : Int32)), .val (.int c3), .val (.int c5), .val (.int c7), .val (.int c9), .val (.ref b148), .val (.ref b154), .val (.int (own_bs [(own_sb c3), (own_sb c5), (own_sb c7), (own_sb c9)])), .val (.int (2 : Int32)), .val (.int (0 : Int32))]) rfl k) ?_
                  refine ownW_step (T' := T_172) (f' := (F193 305 [])) (fun t k => XS.goto X_172.here hx rfl (pc0 := 275) (pc' := 305) rfl (hb hby at_275) (by decide) (by decide) k) ?_
                  refine ownW_step (T' := T_172) (f' := (F193 307 [(.int (own_bs [(own_sb c3), (own_sb c5), (own_sb c7), (own_sb c9)]))])) (fun t k => XS.iload X_172.here hx rfl (hb hby at_305) rfl k) ?_
                  refine ownW_step (T' := T_172) (f' := (F193 309 [(.int (0 : Int32)), (.int (own_bs [(own_sb c3), (own_sb c5), (own_sb c7), (own_sb c9)]))])) (fun t k => XS.iload X_172.here hx rfl (hb hby at_307) rfl k) ?_
                  refine ownW_step (T' := T_172) (f' := (F193 312 [])) (fun t k => XS.icmpNo X_172.here hx rfl (hb hby at_309) rfl (teq ((own_skip hC3 hbl0).trans ((own_skip hC5 hbl1).trans (own_stopN hC7 hbl2 hc269_189)))).2 k) ?_
                  refine ownW_step (T' := T_172) (f' := (F193 313 [(.int (1 : Int32))])) (fun t k => XS.iconst X_172.here hx rfl (hb hby at_312) k) ?_
                  refine ownW_step (T' := T_172) (f' := (F193 317 [(.int (1 : Int32))])) (fun t k => XS.goto X_172.here hx rfl (pc0 := 313) (pc' := 317) rfl (hb hby at_313) (by decide) (by decide) k) ?_
                  exact ownW_retN X_172 hS158 (by rw [e_172]; exact hg160) hx hlk (t := .boolean) Bd.returns (by simp) (hb hby at_317) (by decide) (by decide) ⟨rfl, N_172⟩
              · skip
                let F194 : Nat → List Value → JFrame := fun a b => mkF m a #[.val (.int p1), .val (.int p2), .val (.int p3), .val (.int p4), .val (.int p5), .val (.int (4 : Int32)), .val (.int c3), .val (.int c5), .val (.int c7), .val (.int c9), .val (.ref b148), .val (.ref b154), .val (.int (own_bs [(own_sb c3), (own_sb c5), (own_sb c7), (own_sb c9)])), .val (.int (3 : Int32)), .unset] b
                refine ownW_step (T' := T_172) (f' := (F194 251 [(.int (3 : Int32))])) (fun t k => XS.iload X_172.here hx rfl (hb hby at_249) rfl k) ?_
                refine ownW_step (T' := T_172) (f' := (F194 253 [(.int (4 : Int32)), (.int (3 : Int32))])) (fun t k => XS.iload X_172.here hx rfl (hb hby at_251) rfl k) ?_
                refine ownW_step (T' := T_172) (f' := (F194 262 [])) (fun t k => XS.icmpYes X_172.here hx rfl (pc0 := 253) (pc' := 262) rfl (hb hby at_253) rfl (tlt (by decide : (3 : Int32) < (4 : Int32))).1 (by decide) (by decide) k) ?_
                refine ownW_step (T' := T_172) (f' := (F194 264 [(.ref b148)])) (fun t k => XS.aload X_172.here hx rfl (hb hby at_262) rfl rfl k) ?_
                refine ownW_step (T' := T_172) (f' := (F194 266 [(.int (3 : Int32)), (.ref b148)])) (fun t k => XS.iload X_172.here hx rfl (hb hby at_264) rfl k) ?_
                obtain ⟨cl195, Ar195, q195, S195, M195, H195, G195⟩ := id V_b148
                have hin195 : ¬ ((3 : Int32) < 0 ∨ cl195.slots.size ≤ ((3 : Int32)).toNatClampNeg) := inb_of S195 ⟨by decide, by decide⟩
                have hat195 : cl195.slots[((3 : Int32)).toNatClampNeg]? = some (.int c9) := own_at hin195 H195 3 rfl rfl
                refine ownW_step (T' := T_172) (f' := (F194 267 [(.int c9)])) (fun t k => X_172.caload hx (j := (3 : Int32)) (v := (.int c9)) (by rw [e_172]; exact Ar195.1) (State.isArrayOf_alike hZ2.alike Ar195.2.1) Ar195.2.2 hin195 hat195 (g := (F194 266 [(.int (3 : Int32)), (.ref b148)])) rfl rfl (hb hby at_266) _ k) ?_
                refine ownW_step (T' := T_172) (f' := (F194 269 [(.int (64 : Int32)), (.int c9)])) (fun t k => XS.bipush X_172.here hx rfl (hb hby at_267) k) ?_
                by_cases hc269_196 : c9 = (64 : Int32)
                · skip
                  refine ownW_step (T' := T_172) (f' := (F194 278 [])) (fun t k => XS.icmpYes X_172.here hx rfl (pc0 := 269) (pc' := 278) rfl (hb hby at_269) rfl (teq hc269_196).1 (by decide) (by decide) k) ?_
                  refine ownW_step (T' := T_172) (f' := (F194 280 [(.int (3 : Int32))])) (fun t k => XS.iload X_172.here hx rfl (hb hby at_278) rfl k) ?_
                  refine ownW_step (T' := T_172) (f' := (F194 281 [(.int (1 : Int32)), (.int (3 : Int32))])) (fun t k => XS.iconst X_172.here hx rfl (hb hby at_280) k) ?_
                  refine ownW_step (T' := T_172) (f' := (F194 282 [(.int (4 : Int32))])) (fun t k => XS.iadd X_172.here hx rfl (hb hby at_281) rfl k) ?_
                  refine ownW_step (T' := T_172) (f' := (F194 284 [(.int (4 : Int32)), (.int (4 : Int32))])) (fun t k => XS.iload X_172.here hx rfl (hb hby at_282) rfl k) ?_
                  refine ownW_step (T' := T_172) (f' := (F194 287 [])) (fun t k => XS.icmpNo X_172.here hx rfl (hb hby at_284) rfl (teq (by decide : (4 : Int32) = (4 : Int32))).2 k) ?_
                  refine ownW_step (T' := T_172) (f' := (F194 288 [(.int (1 : Int32))])) (fun t k => XS.iconst X_172.here hx rfl (hb hby at_287) k) ?_
                  let F197 : Nat → List Value → JFrame := fun a b => mkF m a #[.val (.int p1), .val (.int p2), .val (.int p3), .val (.int p4), .val (.int p5), .val (.int (4 : Int32)), .val (.int c3), .val (.int c5), .val (.int c7), .val (.int c9), .val (.ref b148), .val (.ref b154), .val (.int (own_bs [(own_sb c3), (own_sb c5), (own_sb c7), (own_sb c9)])), .val (.int (3 : Int32)), .val (.int (1 : Int32))] b
                  refine ownW_step (T' := T_172) (f' := (F197 290 [])) (fun t k => XS.istore X_172.here hx rfl (hb hby at_288) rfl (l' := #[.val (.int p1), .val (.int p2), .val (.int p3), .val (.int p4), .val (.int p5), .val (.int (4 : Int32)), .val (.int c3), .val (.int c5), .val (.int c7), .val (.int c9), .val (.ref b148), .val (.ref b154), .val (.int (own_bs [(own_sb c3), (own_sb c5), (own_sb c7), (own_sb c9)])), .val (.int (3 : Int32)), .val (.int (1 : Int32))]) rfl k) ?_
                  refine ownW_step (T' := T_172) (f' := (F197 305 [])) (fun t k => XS.goto X_172.here hx rfl (pc0 := 290) (pc' := 305) rfl (hb hby at_290) (by decide) (by decide) k) ?_
                  refine ownW_step (T' := T_172) (f' := (F197 307 [(.int (own_bs [(own_sb c3), (own_sb c5), (own_sb c7), (own_sb c9)]))])) (fun t k => XS.iload X_172.here hx rfl (hb hby at_305) rfl k) ?_
                  refine ownW_step (T' := T_172) (f' := (F197 309 [(.int (1 : Int32)), (.int (own_bs [(own_sb c3), (own_sb c5), (own_sb c7), (own_sb c9)]))])) (fun t k => XS.iload X_172.here hx rfl (hb hby at_307) rfl k) ?_
                  refine ownW_step (T' := T_172) (f' := (F197 312 [])) (fun t k => XS.icmpNo X_172.here hx rfl (hb hby at_309) rfl (teq ((own_skip hC3 hbl0).trans ((own_skip hC5 hbl1).trans ((own_skip hC7 hbl2).trans (own_stopY hC9 hc269_196))))).2 k) ?_
                  refine ownW_step (T' := T_172) (f' := (F197 313 [(.int (1 : Int32))])) (fun t k => XS.iconst X_172.here hx rfl (hb hby at_312) k) ?_
                  refine ownW_step (T' := T_172) (f' := (F197 317 [(.int (1 : Int32))])) (fun t k => XS.goto X_172.here hx rfl (pc0 := 313) (pc' := 317) rfl (hb hby at_313) (by decide) (by decide) k) ?_
                  exact ownW_retN X_172 hS158 (by rw [e_172]; exact hg160) hx hlk (t := .boolean) Bd.returns (by simp) (hb hby at_317) (by decide) (by decide) ⟨rfl, N_172⟩
                · skip
                  refine ownW_step (T' := T_172) (f' := (F194 272 [])) (fun t k => XS.icmpNo X_172.here hx rfl (hb hby at_269) rfl (feq hc269_196).1 k) ?_
                  refine ownW_step (T' := T_172) (f' := (F194 273 [(.int (0 : Int32))])) (fun t k => XS.iconst X_172.here hx rfl (hb hby at_272) k) ?_
                  let F198 : Nat → List Value → JFrame := fun a b => mkF m a #[.val (.int p1), .val (.int p2), .val (.int p3), .val (.int p4), .val (.int p5), .val (.int (4 : Int32)), .val (.int c3), .val (.int c5), .val (.int c7), .val (.int c9), .val (.ref b148), .val (.ref b154), .val (.int (own_bs [(own_sb c3), (own_sb c5), (own_sb c7), (own_sb c9)])), .val (.int (3 : Int32)), .val (.int (0 : Int32))] b
                  refine ownW_step (T' := T_172) (f' := (F198 275 [])) (fun t k => XS.istore X_172.here hx rfl (hb hby at_273) rfl (l' := #[.val (.int p1), .val (.int p2), .val (.int p3), .val (.int p4), .val (.int p5), .val (.int (4 : Int32)), .val (.int c3), .val (.int c5), .val (.int c7), .val (.int c9), .val (.ref b148), .val (.ref b154), .val (.int (own_bs [(own_sb c3), (own_sb c5), (own_sb c7), (own_sb c9)])), .val (.int (3 : Int32)), .val (.int (0 : Int32))]) rfl k) ?_
                  refine ownW_step (T' := T_172) (f' := (F198 305 [])) (fun t k => XS.goto X_172.here hx rfl (pc0 := 275) (pc' := 305) rfl (hb hby at_275) (by decide) (by decide) k) ?_
                  refine ownW_step (T' := T_172) (f' := (F198 307 [(.int (own_bs [(own_sb c3), (own_sb c5), (own_sb c7), (own_sb c9)]))])) (fun t k => XS.iload X_172.here hx rfl (hb hby at_305) rfl k) ?_
                  refine ownW_step (T' := T_172) (f' := (F198 309 [(.int (0 : Int32)), (.int (own_bs [(own_sb c3), (own_sb c5), (own_sb c7), (own_sb c9)]))])) (fun t k => XS.iload X_172.here hx rfl (hb hby at_307) rfl k) ?_
                  refine ownW_step (T' := T_172) (f' := (F198 312 [])) (fun t k => XS.icmpNo X_172.here hx rfl (hb hby at_309) rfl (teq ((own_skip hC3 hbl0).trans ((own_skip hC5 hbl1).trans ((own_skip hC7 hbl2).trans (own_stopN hC9 hbl3 hc269_196))))).2 k) ?_
                  refine ownW_step (T' := T_172) (f' := (F198 313 [(.int (1 : Int32))])) (fun t k => XS.iconst X_172.here hx rfl (hb hby at_312) k) ?_
                  refine ownW_step (T' := T_172) (f' := (F198 317 [(.int (1 : Int32))])) (fun t k => XS.goto X_172.here hx rfl (pc0 := 313) (pc' := 317) rfl (hb hby at_313) (by decide) (by decide) k) ?_
                  exact ownW_retN X_172 hS158 (by rw [e_172]; exact hg160) hx hlk (t := .boolean) Bd.returns (by simp) (hb hby at_317) (by decide) (by decide) ⟨rfl, N_172⟩
              · skip
                refine ownW_step (T' := T_172) (f' := (F164 251 [(.int (4 : Int32))])) (fun t k => XS.iload X_172.here hx rfl (hb hby at_249) rfl k) ?_
                refine ownW_step (T' := T_172) (f' := (F164 253 [(.int (4 : Int32)), (.int (4 : Int32))])) (fun t k => XS.iload X_172.here hx rfl (hb hby at_251) rfl k) ?_
                refine ownW_step (T' := T_172) (f' := (F164 256 [])) (fun t k => XS.icmpNo X_172.here hx rfl (hb hby at_253) rfl (flt (by decide : ¬ ((4 : Int32) < (4 : Int32)))).1 k) ?_
                refine ownW_step (T' := T_172) (f' := (F164 257 [(.int (0 : Int32))])) (fun t k => XS.iconst X_172.here hx rfl (hb hby at_256) k) ?_
                let F199 : Nat → List Value → JFrame := fun a b => mkF m a #[.val (.int p1), .val (.int p2), .val (.int p3), .val (.int p4), .val (.int p5), .val (.int (4 : Int32)), .val (.int c3), .val (.int c5), .val (.int c7), .val (.int c9), .val (.ref b148), .val (.ref b154), .val (.int (own_bs [(own_sb c3), (own_sb c5), (own_sb c7), (own_sb c9)])), .val (.int (4 : Int32)), .val (.int (0 : Int32))] b
                refine ownW_step (T' := T_172) (f' := (F199 259 [])) (fun t k => XS.istore X_172.here hx rfl (hb hby at_257) rfl (l' := #[.val (.int p1), .val (.int p2), .val (.int p3), .val (.int p4), .val (.int p5), .val (.int (4 : Int32)), .val (.int c3), .val (.int c5), .val (.int c7), .val (.int c9), .val (.ref b148), .val (.ref b154), .val (.int (own_bs [(own_sb c3), (own_sb c5), (own_sb c7), (own_sb c9)])), .val (.int (4 : Int32)), .val (.int (0 : Int32))]) rfl k) ?_
                refine ownW_step (T' := T_172) (f' := (F199 305 [])) (fun t k => XS.goto X_172.here hx rfl (pc0 := 259) (pc' := 305) rfl (hb hby at_259) (by decide) (by decide) k) ?_
                refine ownW_step (T' := T_172) (f' := (F199 307 [(.int (own_bs [(own_sb c3), (own_sb c5), (own_sb c7), (own_sb c9)]))])) (fun t k => XS.iload X_172.here hx rfl (hb hby at_305) rfl k) ?_
                refine ownW_step (T' := T_172) (f' := (F199 309 [(.int (0 : Int32)), (.int (own_bs [(own_sb c3), (own_sb c5), (own_sb c7), (own_sb c9)]))])) (fun t k => XS.iload X_172.here hx rfl (hb hby at_307) rfl k) ?_
                refine ownW_step (T' := T_172) (f' := (F199 312 [])) (fun t k => XS.icmpNo X_172.here hx rfl (hb hby at_309) rfl (teq ((own_skip hC3 hbl0).trans ((own_skip hC5 hbl1).trans ((own_skip hC7 hbl2).trans (own_skip hC9 hbl3))))).2 k) ?_
                refine ownW_step (T' := T_172) (f' := (F199 313 [(.int (1 : Int32))])) (fun t k => XS.iconst X_172.here hx rfl (hb hby at_312) k) ?_
                refine ownW_step (T' := T_172) (f' := (F199 317 [(.int (1 : Int32))])) (fun t k => XS.goto X_172.here hx rfl (pc0 := 313) (pc' := 317) rfl (hb hby at_313) (by decide) (by decide) k) ?_
                exact ownW_retN X_172 hS158 (by rw [e_172]; exact hg160) hx hlk (t := .boolean) Bd.returns (by simp) (hb hby at_317) (by decide) (by decide) ⟨rfl, N_172⟩
            let F200 : Nat → List Value → JFrame := fun a b => mkF m a #[.val (.int p1), .val (.int p2), .val (.int p3), .val (.int p4), .val (.int p5), .val (.int (4 : Int32)), .val (.int c3), .val (.int c5), .val (.int c7), .val (.int c9), .val (.ref b148), .val (.ref b154), .val (.int (own_bs [(own_sb c3), (own_sb c5), (own_sb c7), (own_sb c9)])), .val (.int xa169), .unset] b
            refine ownW_step (T' := T_170) (f' := (F200 235 [(.int (4 : Int32))])) (fun t k => XS.iload X_170.here hx rfl (hb hby at_233) rfl k) ?_
            refine ownW_step (T' := T_170) (f' := (F200 238 [])) (fun t k => XS.ifNo X_170.here hx rfl (hb hby at_235) rfl ((if0 _ _).trans (tlt (by decide : (0 : Int32) < (4 : Int32))).2.2.2) k) ?_
            refine ownW_step (T' := T_170) (f' := (F200 240 [(.int c3)])) (fun t k => XS.iload X_170.here hx rfl (hb hby at_238) rfl k) ?_
            obtain ⟨_, _, ⟨T201, L201, k201, n201⟩, -, X201, ⟨Lc201, hQ201, l201, y201, z201⟩, st201⟩ := Jvm.LawKit.callS X_170 hx (y := (⟨"com/example/lit2/lit2/input/LineBeginsSectionPinLaw", "blank", "(C)Z"⟩ : MethodName)) hown2 (mvT hZ2 (own_w hw 108 rfl)) (mvT hZ2 (own_w hw 109 rfl)) (mvT hZ2 (own_w hw 3 rfl)) (mvT hZ2 (own_w hw 110 rfl)) (by decide) (backOf (W := 0) (rm16 l Z a0 hw [] c3 T160.heap n0 Zz) hZ2 (own_w hw 110 rfl) (own_w hw 3 rfl) (by decide) (by decide)) (g := (F200 240 [(.int c3)])) rfl (by rw [hml]; rfl) (argsL := [(.int c3)]) (rest := []) (lenOf pd_0_5 rfl) rfl (by show 2 * 0 + _ ≤ _; exact Nat.le_of_eq rfl) (hb hby at_240) (fun _ _ => ⟨rfl, e_170, (by decide : 8 + 0 ≤ _), (by decide : 32 + 0 ≤ _)⟩)
            dsimp only [Pt.U, Pt.locs, Pt.cells, Pt.slots] at X201 l201 y201 z201 st201 hQ201
            subst l201 y201 z201
            obtain ⟨rfl, N201q, E201⟩ := hQ201
            have N201 := Fr.app N_170 N201q
            refine ownW_step (T' := T201) (f' := (F200 243 [(.int (own_bl c3))])) (fun t k => st201 t k) ?_
            by_cases hc243_202 : (own_bl c3) = (0 : Int32)
            · skip
              refine ownW_step (T' := T201) (f' := (F200 246 [])) (fun t k => XS.ifNo X201.here hx rfl (hb hby at_243) rfl ((if0 _ _).trans (teq hc243_202).2) k) ?_
              refine ownW_step (T' := T201) (f' := (F200 247 [(.int (0 : Int32))])) (fun t k => XS.iconst X201.here hx rfl (hb hby at_246) k) ?_
              let F203 : Nat → List Value → JFrame := fun a b => mkF m a #[.val (.int p1), .val (.int p2), .val (.int p3), .val (.int p4), .val (.int p5), .val (.int (4 : Int32)), .val (.int c3), .val (.int c5), .val (.int c7), .val (.int c9), .val (.ref b148), .val (.ref b154), .val (.int (own_bs [(own_sb c3), (own_sb c5), (own_sb c7), (own_sb c9)])), .val (.int (0 : Int32)), .unset] b
              refine ownW_step (T' := T201) (f' := (F203 249 [])) (fun t k => XS.istore X201.here hx rfl (hb hby at_247) rfl (l' := #[.val (.int p1), .val (.int p2), .val (.int p3), .val (.int p4), .val (.int p5), .val (.int (4 : Int32)), .val (.int c3), .val (.int c5), .val (.int c7), .val (.int c9), .val (.ref b148), .val (.ref b154), .val (.int (own_bs [(own_sb c3), (own_sb c5), (own_sb c7), (own_sb c9)])), .val (.int (0 : Int32)), .unset]) rfl k) ?_
              exact J249_172 T201 _ X201 E201 N201 (0 : Int32) (Or.inl ⟨rfl, hc243_202⟩)
            · skip
              refine ownW_step (T' := T201) (f' := (F200 249 [])) (fun t k => XS.ifYes X201.here hx rfl (pc0 := 243) (pc' := 249) rfl (hb hby at_243) rfl ((if0 _ _).trans (feq hc243_202).2) (by decide) (by decide) k) ?_
              exact J249_172 T201 _ X201 E201 N201 xa169 (Or.inr ⟨hc243_202, hp1⟩)
          let F204 : Nat → List Value → JFrame := fun a b => mkF m a #[.val (.int p1), .val (.int p2), .val (.int p3), .val (.int p4), .val (.int p5), .val (.int (4 : Int32)), .val (.int c3), .val (.int c5), .val (.int c7), .val (.int c9), .val (.ref b148), .val (.ref b154), .val (.int (own_bs [(own_sb c3), (own_sb c5), (own_sb c7), (own_sb c9)])), .val (.int xa167), .unset] b
          refine ownW_step (T' := T_168) (f' := (F204 218 [(.int (4 : Int32))])) (fun t k => XS.iload X_168.here hx rfl (hb hby at_216) rfl k) ?_
          refine ownW_step (T' := T_168) (f' := (F204 219 [(.int (1 : Int32)), (.int (4 : Int32))])) (fun t k => XS.iconst X_168.here hx rfl (hb hby at_218) k) ?_
          refine ownW_step (T' := T_168) (f' := (F204 222 [])) (fun t k => XS.icmpNo X_168.here hx rfl (hb hby at_219) rfl (tlt (by decide : (1 : Int32) < (4 : Int32))).2.2.2 k) ?_
          refine ownW_step (T' := T_168) (f' := (F204 224 [(.int c5)])) (fun t k => XS.iload X_168.here hx rfl (hb hby at_222) rfl k) ?_
          obtain ⟨_, _, ⟨T205, L205, k205, n205⟩, -, X205, ⟨Lc205, hQ205, l205, y205, z205⟩, st205⟩ := Jvm.LawKit.callS X_168 hx (y := (⟨"com/example/lit2/lit2/input/LineBeginsSectionPinLaw", "blank", "(C)Z"⟩ : MethodName)) hown2 (mvT hZ2 (own_w hw 108 rfl)) (mvT hZ2 (own_w hw 109 rfl)) (mvT hZ2 (own_w hw 3 rfl)) (mvT hZ2 (own_w hw 110 rfl)) (by decide) (backOf (W := 0) (rm16 l Z a0 hw [] c5 T160.heap n0 Zz) hZ2 (own_w hw 110 rfl) (own_w hw 3 rfl) (by decide) (by decide)) (g := (F204 224 [(.int c5)])) rfl (by rw [hml]; rfl) (argsL := [(.int c5)]) (rest := []) (lenOf pd_0_5 rfl) rfl (by show 2 * 0 + _ ≤ _; exact Nat.le_of_eq rfl) (hb hby at_224) (fun _ _ => ⟨rfl, e_168, (by decide : 8 + 0 ≤ _), (by decide : 32 + 0 ≤ _)⟩)
          dsimp only [Pt.U, Pt.locs, Pt.cells, Pt.slots] at X205 l205 y205 z205 st205 hQ205
          subst l205 y205 z205
          obtain ⟨rfl, N205q, E205⟩ := hQ205
          have N205 := Fr.app N_168 N205q
          refine ownW_step (T' := T205) (f' := (F204 227 [(.int (own_bl c5))])) (fun t k => st205 t k) ?_
          by_cases hc227_206 : (own_bl c5) = (0 : Int32)
          · skip
            refine ownW_step (T' := T205) (f' := (F204 230 [])) (fun t k => XS.ifNo X205.here hx rfl (hb hby at_227) rfl ((if0 _ _).trans (teq hc227_206).2) k) ?_
            refine ownW_step (T' := T205) (f' := (F204 231 [(.int (1 : Int32))])) (fun t k => XS.iconst X205.here hx rfl (hb hby at_230) k) ?_
            let F207 : Nat → List Value → JFrame := fun a b => mkF m a #[.val (.int p1), .val (.int p2), .val (.int p3), .val (.int p4), .val (.int p5), .val (.int (4 : Int32)), .val (.int c3), .val (.int c5), .val (.int c7), .val (.int c9), .val (.ref b148), .val (.ref b154), .val (.int (own_bs [(own_sb c3), (own_sb c5), (own_sb c7), (own_sb c9)])), .val (.int (1 : Int32)), .unset] b
            refine ownW_step (T' := T205) (f' := (F207 233 [])) (fun t k => XS.istore X205.here hx rfl (hb hby at_231) rfl (l' := #[.val (.int p1), .val (.int p2), .val (.int p3), .val (.int p4), .val (.int p5), .val (.int (4 : Int32)), .val (.int c3), .val (.int c5), .val (.int c7), .val (.int c9), .val (.ref b148), .val (.ref b154), .val (.int (own_bs [(own_sb c3), (own_sb c5), (own_sb c7), (own_sb c9)])), .val (.int (1 : Int32)), .unset]) rfl k) ?_
            exact J233_170 T205 _ X205 E205 N205 (1 : Int32) (Or.inl ⟨rfl, hc227_206⟩)
          · skip
            refine ownW_step (T' := T205) (f' := (F204 233 [])) (fun t k => XS.ifYes X205.here hx rfl (pc0 := 227) (pc' := 233) rfl (hb hby at_227) rfl ((if0 _ _).trans (feq hc227_206).2) (by decide) (by decide) k) ?_
            exact J233_170 T205 _ X205 E205 N205 xa167 (Or.inr ⟨hc227_206, hp2⟩)
        let F208 : Nat → List Value → JFrame := fun a b => mkF m a #[.val (.int p1), .val (.int p2), .val (.int p3), .val (.int p4), .val (.int p5), .val (.int (4 : Int32)), .val (.int c3), .val (.int c5), .val (.int c7), .val (.int c9), .val (.ref b148), .val (.ref b154), .val (.int (own_bs [(own_sb c3), (own_sb c5), (own_sb c7), (own_sb c9)])), .val (.int xa165), .unset] b
        refine ownW_step (T' := T_166) (f' := (F208 201 [(.int (4 : Int32))])) (fun t k => XS.iload X_166.here hx rfl (hb hby at_199) rfl k) ?_
        refine ownW_step (T' := T_166) (f' := (F208 202 [(.int (2 : Int32)), (.int (4 : Int32))])) (fun t k => XS.iconst X_166.here hx rfl (hb hby at_201) k) ?_
        refine ownW_step (T' := T_166) (f' := (F208 205 [])) (fun t k => XS.icmpNo X_166.here hx rfl (hb hby at_202) rfl (tlt (by decide : (2 : Int32) < (4 : Int32))).2.2.2 k) ?_
        refine ownW_step (T' := T_166) (f' := (F208 207 [(.int c7)])) (fun t k => XS.iload X_166.here hx rfl (hb hby at_205) rfl k) ?_
        obtain ⟨_, _, ⟨T209, L209, k209, n209⟩, -, X209, ⟨Lc209, hQ209, l209, y209, z209⟩, st209⟩ := Jvm.LawKit.callS X_166 hx (y := (⟨"com/example/lit2/lit2/input/LineBeginsSectionPinLaw", "blank", "(C)Z"⟩ : MethodName)) hown2 (mvT hZ2 (own_w hw 108 rfl)) (mvT hZ2 (own_w hw 109 rfl)) (mvT hZ2 (own_w hw 3 rfl)) (mvT hZ2 (own_w hw 110 rfl)) (by decide) (backOf (W := 0) (rm16 l Z a0 hw [] c7 T160.heap n0 Zz) hZ2 (own_w hw 110 rfl) (own_w hw 3 rfl) (by decide) (by decide)) (g := (F208 207 [(.int c7)])) rfl (by rw [hml]; rfl) (argsL := [(.int c7)]) (rest := []) (lenOf pd_0_5 rfl) rfl (by show 2 * 0 + _ ≤ _; exact Nat.le_of_eq rfl) (hb hby at_207) (fun _ _ => ⟨rfl, e_166, (by decide : 8 + 0 ≤ _), (by decide : 32 + 0 ≤ _)⟩)
        dsimp only [Pt.U, Pt.locs, Pt.cells, Pt.slots] at X209 l209 y209 z209 st209 hQ209
        subst l209 y209 z209
        obtain ⟨rfl, N209q, E209⟩ := hQ209
        have N209 := Fr.app N_166 N209q
        refine ownW_step (T' := T209) (f' := (F208 210 [(.int (own_bl c7))])) (fun t k => st209 t k) ?_
        by_cases hc210_210 : (own_bl c7) = (0 : Int32)
        · skip
          refine ownW_step (T' := T209) (f' := (F208 213 [])) (fun t k => XS.ifNo X209.here hx rfl (hb hby at_210) rfl ((if0 _ _).trans (teq hc210_210).2) k) ?_
          refine ownW_step (T' := T209) (f' := (F208 214 [(.int (2 : Int32))])) (fun t k => XS.iconst X209.here hx rfl (hb hby at_213) k) ?_
          let F211 : Nat → List Value → JFrame := fun a b => mkF m a #[.val (.int p1), .val (.int p2), .val (.int p3), .val (.int p4), .val (.int p5), .val (.int (4 : Int32)), .val (.int c3), .val (.int c5), .val (.int c7), .val (.int c9), .val (.ref b148), .val (.ref b154), .val (.int (own_bs [(own_sb c3), (own_sb c5), (own_sb c7), (own_sb c9)])), .val (.int (2 : Int32)), .unset] b
          refine ownW_step (T' := T209) (f' := (F211 216 [])) (fun t k => XS.istore X209.here hx rfl (hb hby at_214) rfl (l' := #[.val (.int p1), .val (.int p2), .val (.int p3), .val (.int p4), .val (.int p5), .val (.int (4 : Int32)), .val (.int c3), .val (.int c5), .val (.int c7), .val (.int c9), .val (.ref b148), .val (.ref b154), .val (.int (own_bs [(own_sb c3), (own_sb c5), (own_sb c7), (own_sb c9)])), .val (.int (2 : Int32)), .unset]) rfl k) ?_
          exact J216_168 T209 _ X209 E209 N209 (2 : Int32) (Or.inl ⟨rfl, hc210_210⟩)
        · skip
          refine ownW_step (T' := T209) (f' := (F208 216 [])) (fun t k => XS.ifYes X209.here hx rfl (pc0 := 210) (pc' := 216) rfl (hb hby at_210) rfl ((if0 _ _).trans (feq hc210_210).2) (by decide) (by decide) k) ?_
          exact J216_168 T209 _ X209 E209 N209 xa165 (Or.inr ⟨hc210_210, hp3⟩)
      refine ownW_step (T' := T162) (f' := (F164 184 [(.int (4 : Int32))])) (fun t k => XS.iload X162.here hx rfl (hb hby at_182) rfl k) ?_
      refine ownW_step (T' := T162) (f' := (F164 185 [(.int (3 : Int32)), (.int (4 : Int32))])) (fun t k => XS.iconst X162.here hx rfl (hb hby at_184) k) ?_
      refine ownW_step (T' := T162) (f' := (F164 188 [])) (fun t k => XS.icmpNo X162.here hx rfl (hb hby at_185) rfl (tlt (by decide : (3 : Int32) < (4 : Int32))).2.2.2 k) ?_
      refine ownW_step (T' := T162) (f' := (F164 190 [(.int c9)])) (fun t k => XS.iload X162.here hx rfl (hb hby at_188) rfl k) ?_
      obtain ⟨_, _, ⟨T212, L212, k212, n212⟩, -, X212, ⟨Lc212, hQ212, l212, y212, z212⟩, st212⟩ := Jvm.LawKit.callS X162 hx (y := (⟨"com/example/lit2/lit2/input/LineBeginsSectionPinLaw", "blank", "(C)Z"⟩ : MethodName)) hown2 (mvT hZ2 (own_w hw 108 rfl)) (mvT hZ2 (own_w hw 109 rfl)) (mvT hZ2 (own_w hw 3 rfl)) (mvT hZ2 (own_w hw 110 rfl)) (by decide) (backOf (W := 0) (rm16 l Z a0 hw [] c9 T160.heap n0 Zz) hZ2 (own_w hw 110 rfl) (own_w hw 3 rfl) (by decide) (by decide)) (g := (F164 190 [(.int c9)])) rfl (by rw [hml]; rfl) (argsL := [(.int c9)]) (rest := []) (lenOf pd_0_5 rfl) rfl (by show 2 * 0 + _ ≤ _; exact Nat.le_of_eq rfl) (hb hby at_190) (fun _ _ => ⟨rfl, E162, (by decide : 8 + 0 ≤ _), (by decide : 32 + 0 ≤ _)⟩)
      dsimp only [Pt.U, Pt.locs, Pt.cells, Pt.slots] at X212 l212 y212 z212 st212 hQ212
      subst l212 y212 z212
      obtain ⟨rfl, N212q, E212⟩ := hQ212
      have N212 := Fr.app N162 N212q
      refine ownW_step (T' := T212) (f' := (F164 193 [(.int (own_bl c9))])) (fun t k => st212 t k) ?_
      by_cases hc193_213 : (own_bl c9) = (0 : Int32)
      · skip
        refine ownW_step (T' := T212) (f' := (F164 196 [])) (fun t k => XS.ifNo X212.here hx rfl (hb hby at_193) rfl ((if0 _ _).trans (teq hc193_213).2) k) ?_
        refine ownW_step (T' := T212) (f' := (F164 197 [(.int (3 : Int32))])) (fun t k => XS.iconst X212.here hx rfl (hb hby at_196) k) ?_
        let F214 : Nat → List Value → JFrame := fun a b => mkF m a #[.val (.int p1), .val (.int p2), .val (.int p3), .val (.int p4), .val (.int p5), .val (.int (4 : Int32)), .val (.int c3), .val (.int c5), .val (.int c7), .val (.int c9), .val (.ref b148), .val (.ref b154), .val (.int (own_bs [(own_sb c3), (own_sb c5), (own_sb c7), (own_sb c9)])), .val (.int (3 : Int32)), .unset] b
        refine ownW_step (T' := T212) (f' := (F214 199 [])) (fun t k => XS.istore X212.here hx rfl (hb hby at_197) rfl (l' := #[.val (.int p1), .val (.int p2), .val (.int p3), .val (.int p4), .val (.int p5), .val (.int (4 : Int32)), .val (.int c3), .val (.int c5), .val (.int c7), .val (.int c9), .val (.ref b148), .val (.ref b154), .val (.int (own_bs [(own_sb c3), (own_sb c5), (own_sb c7), (own_sb c9)])), .val (.int (3 : Int32)), .unset]) rfl k) ?_
        exact J199_166 T212 _ X212 E212 N212 (3 : Int32) (Or.inl ⟨rfl, hc193_213⟩)
      · skip
        refine ownW_step (T' := T212) (f' := (F164 199 [])) (fun t k => XS.ifYes X212.here hx rfl (pc0 := 193) (pc' := 199) rfl (hb hby at_193) rfl ((if0 _ _).trans (feq hc193_213).2) (by decide) (by decide) k) ?_
        exact J199_166 T212 _ X212 E212 N212 (4 : Int32) (Or.inr ⟨hc193_213, rfl⟩)
  exact J33_11 T9 _ X9 E9 N9 ((p1 &&& (2147483647 : Int32)) % (5 : Int32)) (own_mod5 _)

set_option maxRecDepth 65536 in
set_option maxHeartbeats 40000000 in
theorem comes_1 {Post : Tables → Env → Array Value → State → Outcome → State → Prop} (hpost : ∀ tb e args s v u, (limb_1_1.after args s (.returned v) u = true ∧ limb_1_2.after args s (.returned v) u = true ∧ True) → ReturnedEndW s (.returned v) u (Jvm.fieldLocs frame_1_writes args s ++ Jvm.arrayLocs frame_1_arrays args s ++ Jvm.staticLocs frame_1_statics s) 24 2176 → Post tb e args s (.returned v) u) :
    ArmFor flags0 classFile x code maxLocals ret World_1 tables_1 room_1 Calls_1 rest_1 Pre_1 Post := by
  intro l hfl _ _ p e ha hc hk s m args below hf hA hF happ hP
  obtain ⟨hcalls, hrest, hpre⟩ := hP
  obtain ⟨-, -, -, hnamed, -, -, -, hat⟩ := (Spec.applies_iff hf).mp happ
  obtain ⟨hg, hn⟩ := and_e (Cond.before_iff.mp (show (Jvm.Cond.and given_1 narrow_1).before args s = true from hpre))
  obtain ⟨hcnt, hg0⟩ := and_e hg
  obtain ⟨ga0, hg1⟩ := and_e hg0
  obtain ⟨ga1, hg2⟩ := and_e hg1
  obtain ⟨ga2, hg3⟩ := and_e hg2
  obtain ⟨ga3, hg4⟩ := and_e hg3
  have ga4 := hg4
  obtain ⟨w0, w1, w2, w3, w4, rfl⟩ : ∃ w0 w1 w2 w3 w4 : Value, args = #[w0, w1, w2, w3, w4] := by
    have hs : args.size = 5 := by simpa [Cond.value, given_1] using hcnt
    obtain ⟨L⟩ := args
    match L, hs with
    | [w0, w1, w2, w3, w4], _ => exact ⟨w0, w1, w2, w3, w4, rfl⟩
  have hw := fun d (hd : d ∈ tables_1) => atoms_spec (ws := Jvm.Cond.code x code maxLocals ret :: tables_1) hat d (List.mem_cons_of_mem _ hd)
  obtain ⟨i0, ei0⟩ := is_v ga0
  obtain rfl : w0 = (.int i0) := Option.some.inj ei0
  obtain ⟨i1, ei1⟩ := is_v ga1
  obtain rfl : w1 = (.int i1) := Option.some.inj ei1
  obtain ⟨i2, ei2⟩ := is_v ga2
  obtain rfl : w2 = (.int i2) := Option.some.inj ei2
  obtain ⟨i3, ei3⟩ := is_v ga3
  obtain rfl : w3 = (.int i3) := Option.some.inj ei3
  obtain ⟨i4, ei4⟩ := is_v ga4
  obtain rfl : w4 = (.int i4) := Option.some.inj ei4
  obtain ⟨hsets, -⟩ := atoms_of _ (rest_1_c_eq ▸ (show rest_1_c.before _ s = true from hrest))
  obtain ⟨cs, ecs⟩ := is_v (Cond.before_iff.mp (hsets _ (List.mem_of_getElem? (i := 7) rfl)))
  have S_CS : Sta s s.heap "java/lang/String" "COMPACT_STRINGS" "Z" (.int cs) := Sta.start ecs (Or.inl (hsets _ (List.mem_of_getElem? (i := 6) rfl)))
  have hcw := (hsets _ (List.mem_of_getElem? (i := 8) rfl))
  have hcs : ¬ cs = (0 : Int32) := own_cs hcw ecs
  obtain ⟨ai, evI⟩ := exa_v (Cond.before_iff.mp (hsets _ (List.mem_of_getElem? (i := 20) rfl)))
  obtain ⟨ai', evS⟩ := exa_v (Cond.before_iff.mp (hsets _ (List.mem_of_getElem? (i := 5) rfl)))
  obtain ⟨aU, evU⟩ := exa_v (Cond.before_iff.mp (hsets _ (List.mem_of_getElem? (i := 17) rfl)))
  have hai : ai' = ai := Value.ref.inj (gotT (eq_R evS evI rfl rfl) (Cond.before_iff.mp (hsets _ (List.mem_of_getElem? (i := 4) rfl))))
  subst hai
  have S_SC : Sta s s.heap "java/nio/charset/StandardCharsets" "ISO_8859_1" "Ljava/nio/charset/Charset;" (.ref ai') := Sta.start evS (Or.inl (hsets _ (List.mem_of_getElem? (i := 1) rfl)))
  have S_U : Sta s s.heap "sun/nio/cs/UTF_8" "INSTANCE" "Lsun/nio/cs/UTF_8;" (.ref aU) := Sta.start evU (Or.inl (hsets _ (List.mem_of_getElem? (i := 16) rfl)))
  have S_I : Sta s s.heap "sun/nio/cs/ISO_8859_1" "INSTANCE" "Lsun/nio/cs/ISO_8859_1;" (.ref ai') := Sta.start evI (Or.inl (hsets _ (List.mem_of_getElem? (i := 19) rfl)))
  have neU : ¬ ai' = aU := (Exa.start evI (Cond.before_iff.mp (hsets _ (List.mem_of_getElem? (i := 20) rfl)))).ne (Exa.start evU (Cond.before_iff.mp (hsets _ (List.mem_of_getElem? (i := 17) rfl)))) (by decide)
  obtain ⟨hheld, -⟩ := hcalls
  have hEL : EW s _ ownEL := EW.cons (own_w hw 22 rfl) (by decide) EW.nil
  have hCH : CHv s ownEL s.vm s.heap := CHv.start hEL (fun p hp => by cases List.mem_singleton.mp hp; exact hheld _ (List.mem_cons_of_mem _ (List.mem_cons_self ..))) hcw (own_w hw 23 rfl) (own_w hw 10 rfl)
  obtain ⟨n, o, h1, h2, h3, _, L, rfl, ⟨rfl, N⟩, hq⟩ := rm0 l s _ hw tables_1 i0 i1 i2 i3 i4 s.heap s.heap.size (Nat.le_refl _) cs S_CS hcs ai' S_SC aU S_U S_I neU hEL rfl hCH rfl p e ha hc hk s m _ below hf ((Spec.applies_iff_loose hf).mp happ).1 ⟨rfl, rfl, rfl⟩ trivial
  refine ⟨n, _, h1, h2, h3, hpost _ _ _ _ _ _ ⟨Cond.after_iff.mpr rfl, Cond.after_iff.mpr (eq_i res_at (Term.int_eval (1)) rfl), trivial⟩ ⟨hq.1, hq.2.1, hq.2.2.1, (hq.2.2.2.sift fun y hy => Or.inr (N y hy)).mono (by decide) (by decide)⟩⟩
theorem main_1_1 : Claimed_1_1 := comes_1 fun _ _ _ _ _ _ h hF => ⟨h.1, hF⟩
theorem main_1_2 : Claimed_1_2 := comes_1 fun _ _ _ _ _ _ h hF => ⟨h.2.1, hF⟩
end Jvm.Pilot.@@N@@
namespace Jvm.Pilot.@@N@@
open Jvm Jvm.ClassFile Sem Op Lib Jvm.Free Jvm.Stand Jvm.Pilot.@@N@@.Jvm.D
/-! MADE BY PROGRAM (witnessworld.py) out of the Statement's table words and the real class files: 27 classes; the members and pool entries that the words name. The judged class is class 1, her method 4. -/
namespace start1
open Jvm.ClassFile
def u (s : String) : CpInfo := .utf8 (stringToUtf16 s)
/-- a pool by its gaps: so many unusable entries, then the entry; so many at the end -/
def gap : Nat → List CpInfo → List CpInfo
  | 0, r => r
  | n + 1, r => .unusable :: gap n r
def poolList (es : List (Nat × CpInfo)) (last : Nat) : List CpInfo := es.foldr (fun e r => gap e.1 (e.2 :: r)) (gap last [])
def pool (es : List (Nat × CpInfo)) (last : Nat) : Array CpInfo := ⟨poolList es last⟩
def fileOf (pool : Array CpInfo) (this : Nat) (attrs : Array Attribute := #[]) (ms : Array MethodInfo := #[]) (fl : Nat := 33) (sup : Nat := 0) (ifs : Array Nat := #[]) (fds : Array FieldInfo := #[]) : ClassFile where
  minorVersion := 0
  majorVersion := 65
  constantPool := pool
  accessFlags := fl
  thisClass := this
  superClass := sup
  interfaces := ifs
  fields := fds
  methods := ms
  attributes := attrs
def plain (name : String) (sup : Option ClassId) : Class where
  name := name
  kind := .ordinary
  loader := none
  accessFlags := 33
  super := sup
  interfaces := #[]
  cf := none
  fields := #[]
  methods := #[]
  instanceTypes := #[]
  staticTypes := #[]
  resolved := #[]
  callSites := []
  init := .initialized
  statics := none
  mirror := none

def pool0 : Array CpInfo := pool [(5, u "<init>"), (0, u "()V"), (1, .class_ 10), (1, u "java/lang/Object"), (85, u "clone"), (0, u "()Ljava/lang/Object;")] 26

def k0c0 : Code := { maxStack := 0, maxLocals := 1, code := object_method_1_code, exceptionTable := #[], attributes := #[] }
def k0m0 : Method := { name := "<init>", desc := "()V", sig := { parameters := [], returnType := none }, accessFlags := 1, code := some k0c0 }
def k0m1 : Method := { name := "clone", desc := "()Ljava/lang/Object;", sig := { parameters := [], returnType := some (.object "java/lang/Object") }, accessFlags := 260, code := none }
/-- java/lang/Object -/
def k0 : Class := { plain "java/lang/Object" none with
  accessFlags := 33
  interfaces := #[]
  cf := some (fileOf pool0 8 #[] #[{ accessFlags := 1, nameIndex := 5, descriptorIndex := 6, attributes := #[] }, { accessFlags := 260, nameIndex := 96, descriptorIndex := 97, attributes := #[] }] 33 0 #[] #[])
  fields := #[]
  methods := #[k0m0, k0m1]
  instanceTypes := #[]
  staticTypes := #[]
  resolved := Array.replicate 124 none
  statics := none }

def pool1 : Array CpInfo := pool [(2, .class_ 4), (1, u "java/lang/Object"), (0, u "<init>"), (0, u "()V"), (0, .integer 2147483647), (0, .methodref 9 10), (0, .class_ 11), (0, .nameAndType 12 13), (0, u "com/example/lit2/lit2/input/LineBeginsSectionPinLaw"), (0, u "pick"), (0, u "(I)C"), (0, .class_ 15), (0, u "com/example/lit2/lit2/input/Line"), (0, .class_ 17), (0, u "java/lang/String"), (0, .methodref 16 19), (0, .nameAndType 5 20), (0, u "([C)V"), (0, .class_ 22), (0, u "com/example/lit2/lit2/model/Location"), (0, .string 24), (0, u "f"), (0, .methodref 21 26), (0, .nameAndType 5 27), (0, u "(Ljava/lang/String;I)V"), (0, .methodref 14 29), (0, .nameAndType 5 30), (0, u "(Ljava/lang/String;Lcom/example/lit2/lit2/model/Location;)V"), (0, .methodref 14 32), (0, .nameAndType 33 34), (0, u "beginsSection"), (0, u "()Z"), (0, .methodref 9 36), (0, .nameAndType 37 38), (0, u "blank"), (0, u "(C)Z"), (0, .methodref 9 40), (0, .nameAndType 41 38), (0, u "follows"), (3, u "law"), (0, u "(IIIII)Z")] 4

def k1m0 : Method := { name := "<init>", desc := "()V", sig := { parameters := [], returnType := none }, accessFlags := 1, code := none }
def k1c1 : Code := { maxStack := 2, maxLocals := 2, code := method_2_code, exceptionTable := #[], attributes := #[] }
def k1m1 : Method := { name := "pick", desc := "(I)C", sig := { parameters := [.int], returnType := some .char }, accessFlags := 10, code := some k1c1 }
def k1c2 : Code := { maxStack := 2, maxLocals := 1, code := method_3_code, exceptionTable := #[], attributes := #[] }
def k1m2 : Method := { name := "blank", desc := "(C)Z", sig := { parameters := [.char], returnType := some .boolean }, accessFlags := 10, code := some k1c2 }
def k1c3 : Code := { maxStack := 2, maxLocals := 1, code := method_4_code, exceptionTable := #[], attributes := #[] }
def k1m3 : Method := { name := "follows", desc := "(C)Z", sig := { parameters := [.char], returnType := some .boolean }, accessFlags := 10, code := some k1c3 }
def k1c4 : Code := { maxStack := 7, maxLocals := 15, code := code, exceptionTable := #[], attributes := #[] }
def k1m4 : Method := { name := "law", desc := "(IIIII)Z", sig := { parameters := [.int, .int, .int, .int, .int], returnType := some .boolean }, accessFlags := 9, code := some k1c4 }
/-- com/example/lit2/lit2/input/LineBeginsSectionPinLaw -/
def k1 : Class := { plain "com/example/lit2/lit2/input/LineBeginsSectionPinLaw" (some 0) with
  accessFlags := 49
  interfaces := #[]
  cf := some (fileOf pool1 9 #[] #[{ accessFlags := 1, nameIndex := 5, descriptorIndex := 6, attributes := #[] }, { accessFlags := 10, nameIndex := 12, descriptorIndex := 13, attributes := #[] }, { accessFlags := 10, nameIndex := 37, descriptorIndex := 38, attributes := #[] }, { accessFlags := 10, nameIndex := 41, descriptorIndex := 38, attributes := #[] }, { accessFlags := 9, nameIndex := 45, descriptorIndex := 46, attributes := #[] }] 49 2 #[] #[])
  fields := #[]
  methods := #[k1m0, k1m1, k1m2, k1m3, k1m4]
  instanceTypes := #[]
  staticTypes := #[]
  resolved := Array.replicate 51 none
  statics := none }

def pool2 : Array CpInfo := pool [(1, .methodref 2 3), (0, .class_ 4), (0, .nameAndType 5 6), (0, u "java/lang/Object"), (0, u "<init>"), (0, u "()V"), (0, .fieldref 8 9), (0, .class_ 10), (0, .nameAndType 11 12), (0, u "java/nio/charset/StandardCharsets"), (0, u "ISO_8859_1"), (0, u "Ljava/nio/charset/Charset;"), (0, .methodref 14 15), (0, .class_ 16), (0, .nameAndType 17 18), (0, u "java/lang/String"), (0, u "getBytes"), (0, u "(Ljava/nio/charset/Charset;)[B"), (0, .fieldref 20 21), (0, .class_ 22), (0, .nameAndType 23 24), (0, u "com/example/lit2/lit2/input/Line"), (0, u "characters"), (0, u "[B"), (0, .fieldref 20 26), (0, .nameAndType 27 28), (0, u "start"), (0, u "I"), (0, .fieldref 20 30), (0, .nameAndType 31 28), (0, u "end"), (0, .fieldref 20 33), (0, .nameAndType 34 35), (0, u "location"), (0, u "Lcom/example/lit2/lit2/model/Location;"), (0, .fieldref 20 37), (0, .nameAndType 38 28), (0, u "marks"), (0, .fieldref 20 40), (0, .nameAndType 41 42), (0, u "text"), (0, u "Ljava/lang/String;"), (6, u "PUT_IN"), (2, u "SECTION_CHANGED_AFTER"), (1, u "(Ljava/lang/String;Lcom/example/lit2/lit2/model/Location;)V"), (9, u "()Z"), (1, u "beginsSection")] 4

def k2c0 : Code := { maxStack := 3, maxLocals := 3, code := prog_18_method_1_code, exceptionTable := #[], attributes := #[] }
def k2m0 : Method := { name := "<init>", desc := "(Ljava/lang/String;Lcom/example/lit2/lit2/model/Location;)V", sig := { parameters := [(.object "java/lang/String"), (.object "com/example/lit2/lit2/model/Location")], returnType := none }, accessFlags := 1, code := some k2c0 }
def k2c1 : Code := { maxStack := 3, maxLocals := 2, code := prog_18_method_9_code, exceptionTable := #[], attributes := #[] }
def k2m1 : Method := { name := "beginsSection", desc := "()Z", sig := { parameters := [], returnType := some .boolean }, accessFlags := 1, code := some k2c1 }
/-- com/example/lit2/lit2/input/Line -/
def k2 : Class := { plain "com/example/lit2/lit2/input/Line" (some 0) with
  accessFlags := 49
  interfaces := #[]
  cf := some (fileOf pool2 20 #[] #[{ accessFlags := 1, nameIndex := 5, descriptorIndex := 54, attributes := #[] }, { accessFlags := 1, nameIndex := 66, descriptorIndex := 64, attributes := #[] }] 49 2 #[] #[{ accessFlags := 18, nameIndex := 23, descriptorIndex := 24, attributes := #[] }, { accessFlags := 18, nameIndex := 27, descriptorIndex := 28, attributes := #[] }, { accessFlags := 18, nameIndex := 31, descriptorIndex := 28, attributes := #[] }, { accessFlags := 18, nameIndex := 34, descriptorIndex := 35, attributes := #[] }, { accessFlags := 24, nameIndex := 49, descriptorIndex := 28, attributes := #[] }, { accessFlags := 24, nameIndex := 52, descriptorIndex := 28, attributes := #[] }, { accessFlags := 18, nameIndex := 38, descriptorIndex := 28, attributes := #[] }, { accessFlags := 2, nameIndex := 41, descriptorIndex := 42, attributes := #[] }])
  fields := #[{ name := "characters", type := (.array .byte), accessFlags := 18, slot := 0, constantValue := 0 }, { name := "start", type := .int, accessFlags := 18, slot := 1, constantValue := 0 }, { name := "end", type := .int, accessFlags := 18, slot := 2, constantValue := 0 }, { name := "location", type := (.object "com/example/lit2/lit2/model/Location"), accessFlags := 18, slot := 3, constantValue := 0 }, { name := "PUT_IN", type := .int, accessFlags := 24, slot := 0, constantValue := 0 }, { name := "SECTION_CHANGED_AFTER", type := .int, accessFlags := 24, slot := 1, constantValue := 0 }, { name := "marks", type := .int, accessFlags := 18, slot := 4, constantValue := 0 }, { name := "text", type := (.object "java/lang/String"), accessFlags := 2, slot := 5, constantValue := 0 }]
  methods := #[k2m0, k2m1]
  instanceTypes := #[(.array .byte), .int, .int, (.object "com/example/lit2/lit2/model/Location"), .int, (.object "java/lang/String")]
  staticTypes := #[.int, .int]
  resolved := Array.replicate 71 none
  statics := none }

def pool3 : Array CpInfo := pool [(1, .class_ 2), (0, u "java/io/Serializable"), (0, .class_ 4), (0, u "java/lang/Object")] 2

/-- java/io/Serializable -/
def k3 : Class := { plain "java/io/Serializable" (some 0) with
  accessFlags := 1537
  interfaces := #[]
  cf := some (fileOf pool3 1 #[] #[] 1537 3 #[] #[])
  fields := #[]
  methods := #[]
  instanceTypes := #[]
  staticTypes := #[]
  resolved := Array.replicate 7 none
  statics := none }

def pool4 : Array CpInfo := pool [(1, .class_ 2), (0, u "java/lang/Comparable"), (0, .class_ 4), (0, u "java/lang/Object")] 7

/-- java/lang/Comparable -/
def k4 : Class := { plain "java/lang/Comparable" (some 0) with
  accessFlags := 1537
  interfaces := #[]
  cf := some (fileOf pool4 1 #[] #[] 1537 3 #[] #[])
  fields := #[]
  methods := #[]
  instanceTypes := #[]
  staticTypes := #[]
  resolved := Array.replicate 12 none
  statics := none }

def pool5 : Array CpInfo := pool [(2, .class_ 4), (1, u "java/lang/CharSequence"), (42, .class_ 48), (0, u "java/lang/CharSequence$1CodePointIterator"), (10, .class_ 60), (0, u "java/lang/CharSequence$1CharIterator"), (5, .class_ 67), (0, u "java/lang/Object")] 63

/-- java/lang/CharSequence -/
def k5 : Class := { plain "java/lang/CharSequence" (some 0) with
  accessFlags := 1537
  interfaces := #[]
  cf := some (fileOf pool5 2 #[.nestMembers #[47, 59]] #[] 1537 66 #[] #[])
  fields := #[]
  methods := #[]
  instanceTypes := #[]
  staticTypes := #[]
  resolved := Array.replicate 131 none
  statics := none }

def pool6 : Array CpInfo := pool [(1, .class_ 2), (0, u "java/lang/constant/Constable"), (0, .class_ 4), (0, u "java/lang/Object")] 6

/-- java/lang/constant/Constable -/
def k6 : Class := { plain "java/lang/constant/Constable" (some 0) with
  accessFlags := 1537
  interfaces := #[]
  cf := some (fileOf pool6 1 #[] #[] 1537 3 #[] #[])
  fields := #[]
  methods := #[]
  instanceTypes := #[]
  staticTypes := #[]
  resolved := Array.replicate 11 none
  statics := none }

def pool7 : Array CpInfo := pool [(1, .class_ 2), (0, u "java/lang/constant/ConstantDesc"), (0, .class_ 4), (0, u "java/lang/Object")] 32

/-- java/lang/constant/ConstantDesc -/
def k7 : Class := { plain "java/lang/constant/ConstantDesc" (some 0) with
  accessFlags := 1537
  interfaces := #[]
  cf := some (fileOf pool7 1 #[] #[] 1537 3 #[] #[])
  fields := #[]
  methods := #[]
  instanceTypes := #[]
  staticTypes := #[]
  resolved := Array.replicate 37 none
  statics := none }

def pool8 : Array CpInfo := pool [(1, .methodref 2 3), (0, .class_ 4), (0, .nameAndType 5 6), (0, u "java/lang/Object"), (0, u "<init>"), (0, u "()V"), (0, .string 8), (0, u ""), (0, .fieldref 10 11), (0, .class_ 12), (0, .nameAndType 13 14), (0, u "java/lang/String"), (0, u "value"), (0, u "[B"), (0, .fieldref 10 16), (0, .nameAndType 17 18), (0, u "coder"), (0, u "B"), (2, u "hash"), (0, u "I"), (2, u "hashIsZero"), (0, u "Z"), (0, .methodref 10 28), (0, .nameAndType 5 29), (0, u "([CIILjava/lang/Void;)V"), (8, .fieldref 10 39), (0, .nameAndType 40 26), (0, u "COMPACT_STRINGS"), (1, .class_ 44), (1, u "java/lang/StringUTF16"), (0, u "compress"), (1, .methodref 42 48), (0, .nameAndType 49 50), (0, u "coderFromArrayLen"), (0, u "([BI)B"), (35, .fieldref 87 88), (0, .class_ 89), (0, .nameAndType 90 91), (0, u "sun/nio/cs/UTF_8"), (0, u "INSTANCE"), (0, u "Lsun/nio/cs/UTF_8;"), (24, .fieldref 117 118), (0, .class_ 119), (0, .nameAndType 90 120), (0, u "sun/nio/cs/ISO_8859_1"), (0, u "Lsun/nio/cs/ISO_8859_1;"), (56, .methodref 42 178), (0, .nameAndType 45 179), (0, u "([CII)[B"), (75, u "(B[BZ)[B"), (0, .methodref 10 257), (0, .nameAndType 258 259), (0, u "encode8859_1"), (0, u "(B[B)[B"), (19, .methodref 280 281), (0, .class_ 14), (0, .nameAndType 282 283), (0, u "clone"), (0, u "()Ljava/lang/Object;"), (33, u "encode"), (17, .methodref 10 336), (0, .nameAndType 17 337), (0, u "()B"), (13, .methodref 10 352), (0, .nameAndType 258 255), (179, u "getBytes"), (2, .methodref 10 536), (0, .nameAndType 317 537), (0, u "(Ljava/nio/charset/Charset;B[B)[B"), (37, .class_ 576), (0, u "java/lang/CharSequence"), (22, u "CASE_INSENSITIVE_ORDER"), (0, u "Ljava/util/Comparator;"), (409, u "([C)V"), (90, u "serialPersistentFields"), (0, u "[Ljava/io/ObjectStreamField;"), (0, .class_ 1104), (0, u "java/lang/String$CaseInsensitiveComparator"), (1, .class_ 1107), (0, u "java/io/Serializable"), (0, .class_ 1109), (0, u "java/lang/Comparable"), (0, .class_ 1111), (0, u "java/lang/constant/Constable"), (0, .class_ 1113), (0, u "java/lang/constant/ConstantDesc"), (2, u "serialVersionUID"), (0, u "J"), (3, u "REPL"), (0, u "C"), (2, u "LATIN1"), (1, u "UTF16"), (117, u "(Ljava/nio/charset/Charset;)[B")] 205

def k8m0 : Method := { name := "<init>", desc := "()V", sig := { parameters := [], returnType := none }, accessFlags := 1, code := none }
def k8c1 : Code := { maxStack := 5, maxLocals := 2, code := jdk_42_method_3_code, exceptionTable := #[], attributes := #[] }
def k8m1 : Method := { name := "<init>", desc := "([C)V", sig := { parameters := [(.array .char)], returnType := none }, accessFlags := 1, code := some k8c1 }
def k8c2 : Code := { maxStack := 4, maxLocals := 3, code := jdk_42_method_18_code, exceptionTable := #[], attributes := #[] }
def k8m2 : Method := { name := "encode", desc := "(Ljava/nio/charset/Charset;B[B)[B", sig := { parameters := [(.object "java/nio/charset/Charset"), .byte, (.array .byte)], returnType := some (.array .byte) }, accessFlags := 10, code := some k8c2 }
def k8c3 : Code := { maxStack := 3, maxLocals := 2, code := jdk_42_method_26_code, exceptionTable := #[], attributes := #[] }
def k8m3 : Method := { name := "encode8859_1", desc := "(B[B)[B", sig := { parameters := [.byte, (.array .byte)], returnType := some (.array .byte) }, accessFlags := 10, code := some k8c3 }
def k8c4 : Code := { maxStack := 5, maxLocals := 10, code := jdk_42_method_27_code, exceptionTable := #[], attributes := #[] }
def k8m4 : Method := { name := "encode8859_1", desc := "(B[BZ)[B", sig := { parameters := [.byte, (.array .byte), .boolean], returnType := some (.array .byte) }, accessFlags := 10, code := some k8c4 }
def k8c5 : Code := { maxStack := 3, maxLocals := 2, code := jdk_42_method_64_code, exceptionTable := #[], attributes := #[] }
def k8m5 : Method := { name := "getBytes", desc := "(Ljava/nio/charset/Charset;)[B", sig := { parameters := [(.object "java/nio/charset/Charset")], returnType := some (.array .byte) }, accessFlags := 1, code := some k8c5 }
def k8c6 : Code := { maxStack := 4, maxLocals := 6, code := jdk_42_method_149_code, exceptionTable := #[], attributes := #[] }
def k8m6 : Method := { name := "<init>", desc := "([CIILjava/lang/Void;)V", sig := { parameters := [(.array .char), .int, .int, (.object "java/lang/Void")], returnType := none }, accessFlags := 2, code := some k8c6 }
def k8c7 : Code := { maxStack := 1, maxLocals := 1, code := jdk_42_method_152_code, exceptionTable := #[], attributes := #[] }
def k8m7 : Method := { name := "coder", desc := "()B", sig := { parameters := [], returnType := some .byte }, accessFlags := 0, code := some k8c7 }
/-- java/lang/String -/
def k8 : Class := { plain "java/lang/String" (some 0) with
  accessFlags := 49
  interfaces := #[3, 4, 5, 6, 7]
  cf := some (fileOf pool8 10 #[.nestMembers #[1103]] #[{ accessFlags := 1, nameIndex := 5, descriptorIndex := 6, attributes := #[] }, { accessFlags := 1, nameIndex := 5, descriptorIndex := 1010, attributes := #[] }, { accessFlags := 10, nameIndex := 317, descriptorIndex := 537, attributes := #[] }, { accessFlags := 10, nameIndex := 258, descriptorIndex := 259, attributes := #[] }, { accessFlags := 10, nameIndex := 258, descriptorIndex := 255, attributes := #[] }, { accessFlags := 1, nameIndex := 532, descriptorIndex := 1245, attributes := #[] }, { accessFlags := 2, nameIndex := 5, descriptorIndex := 29, attributes := #[] }, { accessFlags := 0, nameIndex := 17, descriptorIndex := 337, attributes := #[] }] 49 2 #[1106, 1108, 575, 1110, 1112] #[{ accessFlags := 18, nameIndex := 13, descriptorIndex := 14, attributes := #[] }, { accessFlags := 18, nameIndex := 17, descriptorIndex := 18, attributes := #[] }, { accessFlags := 2, nameIndex := 21, descriptorIndex := 22, attributes := #[] }, { accessFlags := 2, nameIndex := 25, descriptorIndex := 26, attributes := #[] }, { accessFlags := 26, nameIndex := 1116, descriptorIndex := 1117, attributes := #[] }, { accessFlags := 24, nameIndex := 40, descriptorIndex := 26, attributes := #[] }, { accessFlags := 26, nameIndex := 1101, descriptorIndex := 1102, attributes := #[] }, { accessFlags := 26, nameIndex := 1121, descriptorIndex := 1122, attributes := #[] }, { accessFlags := 25, nameIndex := 599, descriptorIndex := 600, attributes := #[] }, { accessFlags := 24, nameIndex := 1125, descriptorIndex := 18, attributes := #[] }, { accessFlags := 24, nameIndex := 1127, descriptorIndex := 18, attributes := #[] }])
  fields := #[{ name := "value", type := (.array .byte), accessFlags := 18, slot := 0, constantValue := 0 }, { name := "coder", type := .byte, accessFlags := 18, slot := 1, constantValue := 0 }, { name := "hash", type := .int, accessFlags := 2, slot := 2, constantValue := 0 }, { name := "hashIsZero", type := .boolean, accessFlags := 2, slot := 3, constantValue := 0 }, { name := "serialVersionUID", type := .long, accessFlags := 26, slot := 0, constantValue := 0 }, { name := "COMPACT_STRINGS", type := .boolean, accessFlags := 24, slot := 1, constantValue := 0 }, { name := "serialPersistentFields", type := (.array (.object "java/io/ObjectStreamField")), accessFlags := 26, slot := 2, constantValue := 0 }, { name := "REPL", type := .char, accessFlags := 26, slot := 3, constantValue := 0 }, { name := "CASE_INSENSITIVE_ORDER", type := (.object "java/util/Comparator"), accessFlags := 25, slot := 4, constantValue := 0 }, { name := "LATIN1", type := .byte, accessFlags := 24, slot := 5, constantValue := 0 }, { name := "UTF16", type := .byte, accessFlags := 24, slot := 6, constantValue := 0 }]
  methods := #[k8m0, k8m1, k8m2, k8m3, k8m4, k8m5, k8m6, k8m7]
  instanceTypes := #[(.array .byte), .byte, .int, .boolean]
  staticTypes := #[.long, .boolean, (.array (.object "java/io/ObjectStreamField")), .char, (.object "java/util/Comparator"), .byte, .byte]
  resolved := Array.replicate 1451 none
  statics := some 0 }

def pool9 : Array CpInfo := pool [(1, .methodref 2 3), (0, .class_ 4), (0, .nameAndType 5 6), (0, u "java/lang/Object"), (0, u "<init>"), (0, u "()V"), (0, .fieldref 8 9), (0, .class_ 10), (0, .nameAndType 11 12), (0, u "com/example/lit2/lit2/model/Location"), (0, u "file"), (0, u "Ljava/lang/String;"), (0, .fieldref 8 14), (0, .nameAndType 15 16), (0, u "line"), (0, u "I"), (4, u "(Ljava/lang/String;I)V")] 22

def k9c0 : Code := { maxStack := 2, maxLocals := 3, code := prog_35_method_1_code, exceptionTable := #[], attributes := #[] }
def k9m0 : Method := { name := "<init>", desc := "(Ljava/lang/String;I)V", sig := { parameters := [(.object "java/lang/String"), .int], returnType := none }, accessFlags := 1, code := some k9c0 }
/-- com/example/lit2/lit2/model/Location -/
def k9 : Class := { plain "com/example/lit2/lit2/model/Location" (some 0) with
  accessFlags := 49
  interfaces := #[]
  cf := some (fileOf pool9 8 #[] #[{ accessFlags := 1, nameIndex := 5, descriptorIndex := 21, attributes := #[] }] 49 2 #[] #[{ accessFlags := 18, nameIndex := 11, descriptorIndex := 12, attributes := #[] }, { accessFlags := 18, nameIndex := 15, descriptorIndex := 16, attributes := #[] }])
  fields := #[{ name := "file", type := (.object "java/lang/String"), accessFlags := 18, slot := 0, constantValue := 0 }, { name := "line", type := .int, accessFlags := 18, slot := 1, constantValue := 0 }]
  methods := #[k9m0]
  instanceTypes := #[(.object "java/lang/String"), .int]
  staticTypes := #[]
  resolved := Array.replicate 44 none
  statics := none }

def pool10 : Array CpInfo := pool [(2, .class_ 4), (1, u "java/lang/Object"), (0, u "<init>"), (0, u "()V"), (14, .class_ 23), (1, u "java/nio/charset/StandardCharsets"), (0, u "US_ASCII"), (0, u "Ljava/nio/charset/Charset;"), (7, u "ISO_8859_1"), (7, u "UTF_8"), (5, u "UTF_16BE"), (5, u "UTF_16LE"), (5, u "UTF_16")] 8

def k10m0 : Method := { name := "<init>", desc := "()V", sig := { parameters := [], returnType := none }, accessFlags := 2, code := none }
/-- java/nio/charset/StandardCharsets -/
def k10 : Class := { plain "java/nio/charset/StandardCharsets" (some 0) with
  accessFlags := 49
  interfaces := #[]
  cf := some (fileOf pool10 21 #[] #[{ accessFlags := 2, nameIndex := 5, descriptorIndex := 6, attributes := #[] }] 49 2 #[] #[{ accessFlags := 25, nameIndex := 24, descriptorIndex := 25, attributes := #[] }, { accessFlags := 25, nameIndex := 33, descriptorIndex := 25, attributes := #[] }, { accessFlags := 25, nameIndex := 41, descriptorIndex := 25, attributes := #[] }, { accessFlags := 25, nameIndex := 47, descriptorIndex := 25, attributes := #[] }, { accessFlags := 25, nameIndex := 53, descriptorIndex := 25, attributes := #[] }, { accessFlags := 25, nameIndex := 59, descriptorIndex := 25, attributes := #[] }])
  fields := #[{ name := "US_ASCII", type := (.object "java/nio/charset/Charset"), accessFlags := 25, slot := 0, constantValue := 0 }, { name := "ISO_8859_1", type := (.object "java/nio/charset/Charset"), accessFlags := 25, slot := 1, constantValue := 0 }, { name := "UTF_8", type := (.object "java/nio/charset/Charset"), accessFlags := 25, slot := 2, constantValue := 0 }, { name := "UTF_16BE", type := (.object "java/nio/charset/Charset"), accessFlags := 25, slot := 3, constantValue := 0 }, { name := "UTF_16LE", type := (.object "java/nio/charset/Charset"), accessFlags := 25, slot := 4, constantValue := 0 }, { name := "UTF_16", type := (.object "java/nio/charset/Charset"), accessFlags := 25, slot := 5, constantValue := 0 }]
  methods := #[k10m0]
  instanceTypes := #[]
  staticTypes := #[(.object "java/nio/charset/Charset"), (.object "java/nio/charset/Charset"), (.object "java/nio/charset/Charset"), (.object "java/nio/charset/Charset"), (.object "java/nio/charset/Charset"), (.object "java/nio/charset/Charset")]
  resolved := Array.replicate 68 none
  statics := some 1 }

def pool11 : Array CpInfo := pool [(18, .class_ 20), (1, u "java/nio/charset/Charset"), (0, u "cache1"), (0, u "[Ljava/lang/Object;"), (2, u "cache2"), (0, .class_ 27), (0, u "java/lang/Object"), (0, .class_ 29), (0, u "java/nio/charset/Charset$1"), (4, .class_ 36), (1, u "java/nio/charset/Charset$ThreadTrackHolder"), (21, .class_ 59), (0, u "java/nio/charset/Charset$2"), (11, .class_ 73), (1, u "java/nio/charset/Charset$ExtendedProviderHolder"), (22, u "standardProvider"), (0, u "Ljava/nio/charset/spi/CharsetProvider;"), (29, u "name"), (7, .class_ 136), (0, u "java/nio/charset/Charset$3"), (5, u "defaultCharset"), (0, u "Ljava/nio/charset/Charset;"), (14, u "zeroAliases"), (0, u "[Ljava/lang/String;"), (29, u "Ljava/lang/String;"), (2, u "aliases"), (2, u "aliasSet"), (0, u "Ljava/util/Set;"), (82, .class_ 280), (0, u "java/lang/Comparable"), (84, .class_ 366), (0, u "java/nio/charset/Charset$ExtendedProviderHolder$1")] 3

/-- java/nio/charset/Charset -/
def k11 : Class := { plain "java/nio/charset/Charset" (some 0) with
  accessFlags := 1057
  interfaces := #[4]
  cf := some (fileOf pool11 18 #[.nestMembers #[71, 365, 34, 135, 58, 28]] #[] 1057 26 #[279] #[{ accessFlags := 26, nameIndex := 96, descriptorIndex := 97, attributes := #[] }, { accessFlags := 26, nameIndex := 158, descriptorIndex := 159, attributes := #[] }, { accessFlags := 74, nameIndex := 21, descriptorIndex := 22, attributes := #[] }, { accessFlags := 74, nameIndex := 25, descriptorIndex := 22, attributes := #[] }, { accessFlags := 10, nameIndex := 142, descriptorIndex := 143, attributes := #[] }, { accessFlags := 18, nameIndex := 127, descriptorIndex := 189, attributes := #[] }, { accessFlags := 18, nameIndex := 192, descriptorIndex := 159, attributes := #[] }, { accessFlags := 2, nameIndex := 195, descriptorIndex := 196, attributes := #[] }])
  fields := #[{ name := "standardProvider", type := (.object "java/nio/charset/spi/CharsetProvider"), accessFlags := 26, slot := 0, constantValue := 0 }, { name := "zeroAliases", type := (.array (.object "java/lang/String")), accessFlags := 26, slot := 1, constantValue := 0 }, { name := "cache1", type := (.array (.object "java/lang/Object")), accessFlags := 74, slot := 2, constantValue := 0 }, { name := "cache2", type := (.array (.object "java/lang/Object")), accessFlags := 74, slot := 3, constantValue := 0 }, { name := "defaultCharset", type := (.object "java/nio/charset/Charset"), accessFlags := 10, slot := 4, constantValue := 0 }, { name := "name", type := (.object "java/lang/String"), accessFlags := 18, slot := 0, constantValue := 0 }, { name := "aliases", type := (.array (.object "java/lang/String")), accessFlags := 18, slot := 1, constantValue := 0 }, { name := "aliasSet", type := (.object "java/util/Set"), accessFlags := 2, slot := 2, constantValue := 0 }]
  methods := #[]
  instanceTypes := #[(.object "java/lang/String"), (.array (.object "java/lang/String")), (.object "java/util/Set")]
  staticTypes := #[(.object "java/nio/charset/spi/CharsetProvider"), (.array (.object "java/lang/String")), (.array (.object "java/lang/Object")), (.array (.object "java/lang/Object")), (.object "java/nio/charset/Charset")]
  resolved := Array.replicate 370 none
  statics := none }

def pool12 : Array CpInfo := pool [(1, .class_ 2), (0, u "sun/nio/cs/HistoricallyNamedCharset"), (0, .class_ 4), (0, u "java/lang/Object")] 4

/-- sun/nio/cs/HistoricallyNamedCharset -/
def k12 : Class := { plain "sun/nio/cs/HistoricallyNamedCharset" (some 0) with
  accessFlags := 1537
  interfaces := #[]
  cf := some (fileOf pool12 1 #[] #[] 1537 3 #[] #[])
  fields := #[]
  methods := #[]
  instanceTypes := #[]
  staticTypes := #[]
  resolved := Array.replicate 9 none
  statics := none }

def pool13 : Array CpInfo := pool [(2, .class_ 4), (1, u "java/nio/charset/Charset"), (130, .class_ 136), (0, u "sun/nio/cs/Unicode"), (0, .class_ 138), (0, u "sun/nio/cs/HistoricallyNamedCharset")] 15

/-- sun/nio/cs/Unicode -/
def k13 : Class := { plain "sun/nio/cs/Unicode" (some 11) with
  accessFlags := 1056
  interfaces := #[12]
  cf := some (fileOf pool13 135 #[] #[] 1056 2 #[137] #[])
  fields := #[]
  methods := #[]
  instanceTypes := #[(.object "java/lang/String"), (.array (.object "java/lang/String")), (.object "java/util/Set")]
  staticTypes := #[]
  resolved := Array.replicate 154 none
  statics := none }

def pool14 : Array CpInfo := pool [(10, .class_ 12), (1, u "sun/nio/cs/Unicode"), (0, u "<init>"), (3, .class_ 18), (0, u "sun/nio/cs/UTF_8$Decoder"), (3, .class_ 23), (0, u "sun/nio/cs/UTF_8$Encoder"), (15, .class_ 40), (0, u "sun/nio/cs/UTF_8"), (2, u "()V"), (2, u "INSTANCE"), (0, u "Lsun/nio/cs/UTF_8;"), (8, u "JLA"), (0, u "Ljdk/internal/access/JavaLangAccess;")] 26

def k14m0 : Method := { name := "<init>", desc := "()V", sig := { parameters := [], returnType := none }, accessFlags := 1, code := none }
/-- sun/nio/cs/UTF_8 -/
def k14 : Class := { plain "sun/nio/cs/UTF_8" (some 13) with
  accessFlags := 49
  interfaces := #[]
  cf := some (fileOf pool14 39 #[.nestMembers #[22, 17]] #[{ accessFlags := 1, nameIndex := 13, descriptorIndex := 43, attributes := #[] }] 49 10 #[] #[{ accessFlags := 25, nameIndex := 46, descriptorIndex := 47, attributes := #[] }, { accessFlags := 26, nameIndex := 56, descriptorIndex := 57, attributes := #[] }])
  fields := #[{ name := "INSTANCE", type := (.object "sun/nio/cs/UTF_8"), accessFlags := 25, slot := 0, constantValue := 0 }, { name := "JLA", type := (.object "jdk/internal/access/JavaLangAccess"), accessFlags := 26, slot := 1, constantValue := 0 }]
  methods := #[k14m0]
  instanceTypes := #[(.object "java/lang/String"), (.array (.object "java/lang/String")), (.object "java/util/Set")]
  staticTypes := #[(.object "sun/nio/cs/UTF_8"), (.object "jdk/internal/access/JavaLangAccess")]
  resolved := Array.replicate 84 none
  statics := some 2 }

def pool15 : Array CpInfo := pool [(10, .class_ 12), (1, u "java/nio/charset/Charset"), (0, u "<init>"), (5, .class_ 20), (0, u "sun/nio/cs/ISO_8859_1"), (0, .class_ 22), (0, u "sun/nio/cs/ISO_8859_1$Decoder"), (3, .class_ 27), (0, u "sun/nio/cs/ISO_8859_1$Encoder"), (3, u "()V"), (2, u "INSTANCE"), (0, u "Lsun/nio/cs/ISO_8859_1;"), (0, .class_ 37), (0, u "sun/nio/cs/HistoricallyNamedCharset")] 22

def k15m0 : Method := { name := "<init>", desc := "()V", sig := { parameters := [], returnType := none }, accessFlags := 1, code := none }
/-- sun/nio/cs/ISO_8859_1 -/
def k15 : Class := { plain "sun/nio/cs/ISO_8859_1" (some 11) with
  accessFlags := 33
  interfaces := #[12]
  cf := some (fileOf pool15 19 #[.nestMembers #[26, 21]] #[{ accessFlags := 1, nameIndex := 13, descriptorIndex := 31, attributes := #[] }] 33 10 #[36] #[{ accessFlags := 25, nameIndex := 34, descriptorIndex := 35, attributes := #[] }])
  fields := #[{ name := "INSTANCE", type := (.object "sun/nio/cs/ISO_8859_1"), accessFlags := 25, slot := 0, constantValue := 0 }]
  methods := #[k15m0]
  instanceTypes := #[(.object "java/lang/String"), (.array (.object "java/lang/String")), (.object "java/util/Set")]
  staticTypes := #[(.object "sun/nio/cs/ISO_8859_1")]
  resolved := Array.replicate 60 none
  statics := some 3 }

def pool16 : Array CpInfo := pool [(1, .class_ 2), (0, u "java/lang/Cloneable"), (0, .class_ 4), (0, u "java/lang/Object")] 2

/-- java/lang/Cloneable -/
def k16 : Class := { plain "java/lang/Cloneable" (some 0) with
  accessFlags := 1537
  interfaces := #[]
  cf := some (fileOf pool16 1 #[] #[] 1537 3 #[] #[])
  fields := #[]
  methods := #[]
  instanceTypes := #[]
  staticTypes := #[]
  resolved := Array.replicate 7 none
  statics := none }

def pool17 : Array CpInfo := pool [(6, .class_ 8), (1, u "java/lang/Object"), (0, u "<init>"), (0, u "()V"), (1, .class_ 14), (1, u "java/lang/StringUTF16"), (31, u "$assertionsDisabled"), (0, u "Z"), (13, u "HI_BYTE_SHIFT"), (0, u "I"), (2, u "LO_BYTE_SHIFT"), (49, .methodref 12 116), (0, .nameAndType 117 118), (0, u "compress"), (0, u "([CI[BII)I"), (3, u "([CII)[B"), (138, u "coderFromArrayLen"), (0, u "([BI)B"), (106, .class_ 371), (1, u "java/lang/StringUTF16$LinesSpliterator"), (58, u "MAX_LENGTH"), (196, .class_ 628), (0, u "java/lang/StringUTF16$CodePointsSpliterator"), (0, .class_ 630), (0, u "java/lang/StringUTF16$CharsSpliterator")] 4

def k17m0 : Method := { name := "<init>", desc := "()V", sig := { parameters := [], returnType := none }, accessFlags := 0, code := none }
def k17c1 : Code := { maxStack := 2, maxLocals := 2, code := jdk_52_method_15_code, exceptionTable := #[], attributes := #[] }
def k17m1 : Method := { name := "coderFromArrayLen", desc := "([BI)B", sig := { parameters := [(.array .byte), .int], returnType := some .byte }, accessFlags := 8, code := some k17c1 }
def k17c2 : Code := { maxStack := 5, maxLocals := 6, code := jdk_52_method_16_code, exceptionTable := #[], attributes := #[] }
def k17m2 : Method := { name := "compress", desc := "([CII)[B", sig := { parameters := [(.array .char), .int, .int], returnType := some (.array .byte) }, accessFlags := 9, code := some k17c2 }
def k17c3 : Code := { maxStack := 3, maxLocals := 7, code := jdk_52_method_21_code, exceptionTable := #[], attributes := #[] }
def k17m3 : Method := { name := "compress", desc := "([CI[BII)I", sig := { parameters := [(.array .char), .int, (.array .byte), .int, .int], returnType := some .int }, accessFlags := 9, code := some k17c3 }
/-- java/lang/StringUTF16 -/
def k17 : Class := { plain "java/lang/StringUTF16" (some 0) with
  accessFlags := 48
  interfaces := #[]
  cf := some (fileOf pool17 12 #[.nestMembers #[627, 629, 369]] #[{ accessFlags := 0, nameIndex := 9, descriptorIndex := 10, attributes := #[] }, { accessFlags := 8, nameIndex := 261, descriptorIndex := 262, attributes := #[] }, { accessFlags := 9, nameIndex := 117, descriptorIndex := 122, attributes := #[] }, { accessFlags := 9, nameIndex := 117, descriptorIndex := 118, attributes := #[] }] 48 6 #[] #[{ accessFlags := 26, nameIndex := 61, descriptorIndex := 62, attributes := #[] }, { accessFlags := 26, nameIndex := 65, descriptorIndex := 62, attributes := #[] }, { accessFlags := 24, nameIndex := 430, descriptorIndex := 62, attributes := #[] }, { accessFlags := 4120, nameIndex := 46, descriptorIndex := 47, attributes := #[] }])
  fields := #[{ name := "HI_BYTE_SHIFT", type := .int, accessFlags := 26, slot := 0, constantValue := 0 }, { name := "LO_BYTE_SHIFT", type := .int, accessFlags := 26, slot := 1, constantValue := 0 }, { name := "MAX_LENGTH", type := .int, accessFlags := 24, slot := 2, constantValue := 0 }, { name := "$assertionsDisabled", type := .boolean, accessFlags := 4120, slot := 3, constantValue := 0 }]
  methods := #[k17m0, k17m1, k17m2, k17m3]
  instanceTypes := #[]
  staticTypes := #[.int, .int, .int, .boolean]
  resolved := Array.replicate 635 none
  statics := none }

def pool18 : Array CpInfo := pool [(4, .class_ 6), (1, u "java/lang/Object"), (0, u "<init>"), (0, u "()V"), (5, .class_ 16), (1, u "java/lang/StringLatin1"), (104, u "$assertionsDisabled"), (0, u "Z"), (98, .class_ 223), (1, u "java/lang/StringLatin1$LinesSpliterator"), (166, .class_ 391), (0, u "java/lang/StringLatin1$CharsSpliterator")] 3

def k18m0 : Method := { name := "<init>", desc := "()V", sig := { parameters := [], returnType := none }, accessFlags := 0, code := none }
/-- java/lang/StringLatin1 -/
def k18 : Class := { plain "java/lang/StringLatin1" (some 0) with
  accessFlags := 48
  interfaces := #[]
  cf := some (fileOf pool18 14 #[.nestMembers #[390, 221]] #[{ accessFlags := 0, nameIndex := 7, descriptorIndex := 8, attributes := #[] }] 48 4 #[] #[{ accessFlags := 4120, nameIndex := 121, descriptorIndex := 122, attributes := #[] }])
  fields := #[{ name := "$assertionsDisabled", type := .boolean, accessFlags := 4120, slot := 0, constantValue := 0 }]
  methods := #[k18m0]
  instanceTypes := #[]
  staticTypes := #[.boolean]
  resolved := Array.replicate 395 none
  statics := none }

def pool19 : Array CpInfo := pool [(2, .class_ 4), (1, u "java/lang/Object"), (0, u "<init>"), (0, u "()V"), (17, .class_ 26), (1, u "jdk/internal/util/Preconditions"), (28, .class_ 56), (0, u "jdk/internal/util/Preconditions$4"), (57, .class_ 115), (0, u "jdk/internal/util/Preconditions$1"), (7, u "SIOOBE_FORMATTER"), (0, u "Ljava/util/function/BiFunction;"), (0, .class_ 126), (0, u "jdk/internal/util/Preconditions$2"), (3, u "AIOOBE_FORMATTER"), (0, .class_ 132), (0, u "jdk/internal/util/Preconditions$3"), (3, u "IOOBE_FORMATTER")] 57

def k19m0 : Method := { name := "<init>", desc := "()V", sig := { parameters := [], returnType := none }, accessFlags := 1, code := none }
/-- jdk/internal/util/Preconditions -/
def k19 : Class := { plain "jdk/internal/util/Preconditions" (some 0) with
  accessFlags := 33
  interfaces := #[]
  cf := some (fileOf pool19 24 #[.nestMembers #[55, 131, 125, 114]] #[{ accessFlags := 1, nameIndex := 5, descriptorIndex := 6, attributes := #[] }] 33 2 #[] #[{ accessFlags := 25, nameIndex := 123, descriptorIndex := 124, attributes := #[] }, { accessFlags := 25, nameIndex := 130, descriptorIndex := 124, attributes := #[] }, { accessFlags := 25, nameIndex := 136, descriptorIndex := 124, attributes := #[] }])
  fields := #[{ name := "SIOOBE_FORMATTER", type := (.object "java/util/function/BiFunction"), accessFlags := 25, slot := 0, constantValue := 0 }, { name := "AIOOBE_FORMATTER", type := (.object "java/util/function/BiFunction"), accessFlags := 25, slot := 1, constantValue := 0 }, { name := "IOOBE_FORMATTER", type := (.object "java/util/function/BiFunction"), accessFlags := 25, slot := 2, constantValue := 0 }]
  methods := #[k19m0]
  instanceTypes := #[]
  staticTypes := #[(.object "java/util/function/BiFunction"), (.object "java/util/function/BiFunction"), (.object "java/util/function/BiFunction")]
  resolved := Array.replicate 194 none
  statics := some 4 }

def pool20 : Array CpInfo := pool [(9, u "<init>"), (6, .class_ 18), (1, u "java/lang/Object"), (0, u "()V"), (1, .class_ 23), (1, u "jdk/internal/util/ArraysSupport"), (0, u "LOG2_ARRAY_LONG_INDEX_SCALE"), (0, u "I"), (2, u "U"), (0, u "Ljdk/internal/misc/Unsafe;"), (8, u "BIG_ENDIAN"), (0, u "Z"), (8, u "LOG2_BYTE_BIT_SIZE"), (4, u "LOG2_ARRAY_INT_INDEX_SCALE"), (54, u "JLA"), (0, u "Ljdk/internal/access/JavaLangAccess;"), (11, u "LOG2_ARRAY_BOOLEAN_INDEX_SCALE"), (9, u "LOG2_ARRAY_BYTE_INDEX_SCALE"), (5, u "LOG2_ARRAY_CHAR_INDEX_SCALE"), (5, u "LOG2_ARRAY_SHORT_INDEX_SCALE"), (18, u "LOG2_ARRAY_FLOAT_INDEX_SCALE"), (24, u "LOG2_ARRAY_DOUBLE_INDEX_SCALE"), (89, u "T_BOOLEAN"), (2, u "T_CHAR"), (1, u "T_FLOAT"), (1, u "T_DOUBLE"), (1, u "T_BYTE"), (1, u "T_SHORT"), (1, u "T_INT"), (1, u "T_LONG"), (1, u "SOFT_MAX_ARRAY_LENGTH")] 83

def k20m0 : Method := { name := "<init>", desc := "()V", sig := { parameters := [], returnType := none }, accessFlags := 2, code := none }
/-- jdk/internal/util/ArraysSupport -/
def k20 : Class := { plain "jdk/internal/util/ArraysSupport" (some 0) with
  accessFlags := 33
  interfaces := #[]
  cf := some (fileOf pool20 21 #[] #[{ accessFlags := 2, nameIndex := 9, descriptorIndex := 19, attributes := #[] }] 33 16 #[] #[{ accessFlags := 24, nameIndex := 28, descriptorIndex := 29, attributes := #[] }, { accessFlags := 26, nameIndex := 38, descriptorIndex := 39, attributes := #[] }, { accessFlags := 25, nameIndex := 121, descriptorIndex := 25, attributes := #[] }, { accessFlags := 25, nameIndex := 131, descriptorIndex := 25, attributes := #[] }, { accessFlags := 25, nameIndex := 137, descriptorIndex := 25, attributes := #[] }, { accessFlags := 25, nameIndex := 143, descriptorIndex := 25, attributes := #[] }, { accessFlags := 25, nameIndex := 53, descriptorIndex := 25, attributes := #[] }, { accessFlags := 25, nameIndex := 24, descriptorIndex := 25, attributes := #[] }, { accessFlags := 25, nameIndex := 162, descriptorIndex := 25, attributes := #[] }, { accessFlags := 25, nameIndex := 187, descriptorIndex := 25, attributes := #[] }, { accessFlags := 26, nameIndex := 48, descriptorIndex := 25, attributes := #[] }, { accessFlags := 25, nameIndex := 277, descriptorIndex := 25, attributes := #[] }, { accessFlags := 25, nameIndex := 280, descriptorIndex := 25, attributes := #[] }, { accessFlags := 25, nameIndex := 282, descriptorIndex := 25, attributes := #[] }, { accessFlags := 25, nameIndex := 284, descriptorIndex := 25, attributes := #[] }, { accessFlags := 25, nameIndex := 286, descriptorIndex := 25, attributes := #[] }, { accessFlags := 25, nameIndex := 288, descriptorIndex := 25, attributes := #[] }, { accessFlags := 25, nameIndex := 290, descriptorIndex := 25, attributes := #[] }, { accessFlags := 25, nameIndex := 292, descriptorIndex := 25, attributes := #[] }, { accessFlags := 26, nameIndex := 108, descriptorIndex := 109, attributes := #[] }, { accessFlags := 25, nameIndex := 294, descriptorIndex := 25, attributes := #[] }])
  fields := #[{ name := "U", type := (.object "jdk/internal/misc/Unsafe"), accessFlags := 24, slot := 0, constantValue := 0 }, { name := "BIG_ENDIAN", type := .boolean, accessFlags := 26, slot := 1, constantValue := 0 }, { name := "LOG2_ARRAY_BOOLEAN_INDEX_SCALE", type := .int, accessFlags := 25, slot := 2, constantValue := 0 }, { name := "LOG2_ARRAY_BYTE_INDEX_SCALE", type := .int, accessFlags := 25, slot := 3, constantValue := 0 }, { name := "LOG2_ARRAY_CHAR_INDEX_SCALE", type := .int, accessFlags := 25, slot := 4, constantValue := 0 }, { name := "LOG2_ARRAY_SHORT_INDEX_SCALE", type := .int, accessFlags := 25, slot := 5, constantValue := 0 }, { name := "LOG2_ARRAY_INT_INDEX_SCALE", type := .int, accessFlags := 25, slot := 6, constantValue := 0 }, { name := "LOG2_ARRAY_LONG_INDEX_SCALE", type := .int, accessFlags := 25, slot := 7, constantValue := 0 }, { name := "LOG2_ARRAY_FLOAT_INDEX_SCALE", type := .int, accessFlags := 25, slot := 8, constantValue := 0 }, { name := "LOG2_ARRAY_DOUBLE_INDEX_SCALE", type := .int, accessFlags := 25, slot := 9, constantValue := 0 }, { name := "LOG2_BYTE_BIT_SIZE", type := .int, accessFlags := 26, slot := 10, constantValue := 0 }, { name := "T_BOOLEAN", type := .int, accessFlags := 25, slot := 11, constantValue := 0 }, { name := "T_CHAR", type := .int, accessFlags := 25, slot := 12, constantValue := 0 }, { name := "T_FLOAT", type := .int, accessFlags := 25, slot := 13, constantValue := 0 }, { name := "T_DOUBLE", type := .int, accessFlags := 25, slot := 14, constantValue := 0 }, { name := "T_BYTE", type := .int, accessFlags := 25, slot := 15, constantValue := 0 }, { name := "T_SHORT", type := .int, accessFlags := 25, slot := 16, constantValue := 0 }, { name := "T_INT", type := .int, accessFlags := 25, slot := 17, constantValue := 0 }, { name := "T_LONG", type := .int, accessFlags := 25, slot := 18, constantValue := 0 }, { name := "JLA", type := (.object "jdk/internal/access/JavaLangAccess"), accessFlags := 26, slot := 19, constantValue := 0 }, { name := "SOFT_MAX_ARRAY_LENGTH", type := .int, accessFlags := 25, slot := 20, constantValue := 0 }]
  methods := #[k20m0]
  instanceTypes := #[]
  staticTypes := #[(.object "jdk/internal/misc/Unsafe"), .boolean, .int, .int, .int, .int, .int, .int, .int, .int, .int, .int, .int, .int, .int, .int, .int, .int, .int, (.object "jdk/internal/access/JavaLangAccess"), .int]
  resolved := Array.replicate 378 none
  statics := none }

/-- the primitive byte -/
def k21 : Class := { plain "byte" none with kind := .primitive 'B', accessFlags := 0x411 }
/-- [B -/
def k22 : Class := { plain "[B" (some 0) with kind := .array 21 .byte, interfaces := #[16, 3], accessFlags := 1041 }

/-- the primitive char -/
def k23 : Class := { plain "char" none with kind := .primitive 'C', accessFlags := 0x411 }
/-- [C -/
def k24 : Class := { plain "[C" (some 0) with kind := .array 23 .char, interfaces := #[16, 3], accessFlags := 1041 }

/-- the primitive int -/
def k25 : Class := { plain "int" none with kind := .primitive 'I', accessFlags := 0x411 }
/-- [I -/
def k26 : Class := { plain "[I" (some 0) with kind := .array 25 .int, interfaces := #[16, 3], accessFlags := 1041 }

def heap : Heap := #[{ cls := 8, slots := #[.long 0, .int 1, .null, .int 0, .null, .int 0, .int 0], vm := .statics 8 },
  { cls := 10, slots := #[.null, .ref 5, .null, .null, .null, .null], vm := .statics 10 },
  { cls := 14, slots := #[.ref 6, .null], vm := .statics 14 },
  { cls := 15, slots := #[.ref 5], vm := .statics 15 },
  { cls := 19, slots := #[.null, .null, .null], vm := .statics 19 },
  { cls := 15, slots := #[.null, .null, .null], vm := .none },
  { cls := 14, slots := #[.null, .null, .null], vm := .none }]
def classes : Array Class := #[k0, k1, k2, k3, k4, k5, k6, k7, k8, k9, k10, k11, k12, k13, k14, k15, k16, k17, k18, k19, k20, k21, k22, k23, k24, k25, k26]
def interned : List (Array UInt16 × Addr) := []
def slotsUsed : Nat := 25
def theMethod : MethodId := ⟨1, 4⟩
def args0 : Array Value := #[.int 5, .int 6, .int 7, .int 3, .int 2]
def aboutOver (below : List Frame) : State where
  vm := { classes := classes, interned := interned.toArray }
  heap := heap
  slotsUsed := slotsUsed
  threads := #[{ frames := .invoking theMethod args0 :: below }]
def below0 : List Frame := [.native { method := ⟨0, 0⟩, args := #[] }]
def about1 : State := aboutOver below0
def p0 : Program := .bare "" "" ""
def e0 : Env := launch0.env 0 0 0
theorem w_frames : about1.frames = Frame.invoking theMethod args0 :: below0 := rfl
set_option maxRecDepth 65536 in
theorem w_args : argsFit about1.vm theMethod args0 = true := by decide +kernel
set_option maxRecDepth 65536 in
theorem w_heap : heapFits about1 = true := by decide +kernel
set_option maxRecDepth 65536 in
theorem w_runnable : about1.curStatus? = some .runnable := by decide +kernel
set_option maxRecDepth 65536 in
theorem w_alone : about1.alone = true := by decide +kernel
set_option maxRecDepth 65536 in
theorem w_named : about1.methodNamed? x = some theMethod := by decide +kernel
set_option maxRecDepth 65536 in
theorem w_hears : about1.hears theMethod below0 = true := by decide +kernel
set_option maxRecDepth 65536 in
theorem w_ripe : about1.ripe theMethod args0 below0 = true := by decide +kernel
theorem w_running : about1.status = .running := rfl
set_option maxRecDepth 65536 in
theorem w_room : about1.hasRoom e0.platform room_1 = true :=
  launch0.hasRoom_least _ room_1 (by decide +kernel) (by decide +kernel) (by decide +kernel) (by decide +kernel) (by decide +kernel) (by decide +kernel)
theorem allAtoms_all (ts : List Jvm.Cond) (a : Array Jvm.Value) (st : Jvm.State) : (allAtoms ts).before a st = ts.all (fun c => c.before a st) := by
  induction ts with
  | nil => rfl
  | cons c t ih =>
    show (Jvm.Cond.and c (allAtoms t)).before a st = _
    rw [Jvm.Cond.before_and, ih, List.all_cons]
def words1 : List Jvm.Cond := Jvm.Cond.code x code maxLocals ret :: tables_1
/-- a 'code' word, met by the world's own term for the bytes: nothing is compared byte by byte -/
theorem code_word {y : MethodName} {bytes : ByteArray} {mx : Nat} {rt : Option FieldType} {a : Array Value} {s : State} {m : MethodId} {meth : Method} {c : Code} (h1 : s.methodNamed? y = some m) (h2 : s.vm.method? m = some meth) (h3 : meth.code = some c) (h4 : c.code = bytes)
    (h5 : (c.maxLocals == mx && c.exceptionTable.isEmpty && decide (c.maxStack ≤ mostOperands) && decide (meth.sig.returnType = rt) && !meth.locks && decide (parseMethodDescriptor y.desc = some meth.sig)) = true) : (Jvm.Cond.code y bytes mx rt).before a s = true := by
  simp only [Bool.and_eq_true, beq_iff_eq, Bool.not_eq_true', decide_eq_true_eq] at h5
  obtain ⟨⟨⟨⟨⟨g1, g2⟩, g3⟩, g4⟩, g5⟩, g6⟩ := h5
  simp [Cond.before, Cond.holds, Cond.value, h1, h2, h3, h4, g1, g2, g3, g4, g5, g6]
def isCode : Jvm.Cond → Bool
  | .code _ _ _ _ => true
  | _ => false
theorem all_split {L : List Jvm.Cond} {P : Jvm.Cond → Bool} (h1 : L.all (fun c => isCode c || P c) = true) (h2 : ∀ c ∈ L.filter isCode, P c = true) : L.all P = true := by
  refine List.all_eq_true.mpr fun c hc => ?_
  have h := List.all_eq_true.mp h1 c hc
  rcases Bool.eq_false_or_eq_true (isCode c) with hi | hi
  · exact h2 c (List.mem_filter.mpr ⟨hc, hi⟩)
  · simpa [hi] using h
set_option maxRecDepth 65536 in
theorem w_c0 : (Jvm.Cond.code x code maxLocals ret).before args0 about1 = true := code_word (m := ⟨1, 4⟩) (meth := k1m4) (c := k1c4) (by decide +kernel) rfl rfl rfl (by decide +kernel)
set_option maxRecDepth 65536 in
theorem w_c1 : (Jvm.Cond.code ({ cls := "com/example/lit2/lit2/input/LineBeginsSectionPinLaw", name := "pick", desc := "(I)C" } : Jvm.MethodName) method_2_code (2 : Nat) (Option.some Jvm.ClassFile.FieldType.char)).before args0 about1 = true := code_word (m := ⟨1, 1⟩) (meth := k1m1) (c := k1c1) (by decide +kernel) rfl rfl rfl (by decide +kernel)
set_option maxRecDepth 65536 in
theorem w_c2 : (Jvm.Cond.code ({ cls := "java/lang/String", name := "<init>", desc := "([C)V" } : Jvm.MethodName) jdk_42_method_3_code (2 : Nat) (Option.none : Option Jvm.ClassFile.FieldType)).before args0 about1 = true := code_word (m := ⟨8, 1⟩) (meth := k8m1) (c := k8c1) (by decide +kernel) rfl rfl rfl (by decide +kernel)
set_option maxRecDepth 65536 in
theorem w_c3 : (Jvm.Cond.code ({ cls := "java/lang/String", name := "<init>", desc := "([CIILjava/lang/Void;)V" } : Jvm.MethodName) jdk_42_method_149_code (6 : Nat) (Option.none : Option Jvm.ClassFile.FieldType)).before args0 about1 = true := code_word (m := ⟨8, 6⟩) (meth := k8m6) (c := k8c6) (by decide +kernel) rfl rfl rfl (by decide +kernel)
set_option maxRecDepth 65536 in
theorem w_c4 : (Jvm.Cond.code ({ cls := "java/lang/Object", name := "<init>", desc := "()V" } : Jvm.MethodName) object_method_1_code (1 : Nat) (Option.none : Option Jvm.ClassFile.FieldType)).before args0 about1 = true := code_word (m := ⟨0, 0⟩) (meth := k0m0) (c := k0c0) (by decide +kernel) rfl rfl rfl (by decide +kernel)
set_option maxRecDepth 65536 in
theorem w_c5 : (Jvm.Cond.code ({ cls := "com/example/lit2/lit2/model/Location", name := "<init>", desc := "(Ljava/lang/String;I)V" } : Jvm.MethodName) prog_35_method_1_code (3 : Nat) (Option.none : Option Jvm.ClassFile.FieldType)).before args0 about1 = true := code_word (m := ⟨9, 0⟩) (meth := k9m0) (c := k9c0) (by decide +kernel) rfl rfl rfl (by decide +kernel)
set_option maxRecDepth 65536 in
theorem w_c6 : (Jvm.Cond.code ({ cls := "com/example/lit2/lit2/input/Line", name := "<init>", desc := "(Ljava/lang/String;Lcom/example/lit2/lit2/model/Location;)V" } : Jvm.MethodName) prog_18_method_1_code (3 : Nat) (Option.none : Option Jvm.ClassFile.FieldType)).before args0 about1 = true := code_word (m := ⟨2, 0⟩) (meth := k2m0) (c := k2c0) (by decide +kernel) rfl rfl rfl (by decide +kernel)
set_option maxRecDepth 65536 in
theorem w_c7 : (Jvm.Cond.code ({ cls := "java/lang/String", name := "getBytes", desc := "(Ljava/nio/charset/Charset;)[B" } : Jvm.MethodName) jdk_42_method_64_code (2 : Nat) (Option.some (Jvm.ClassFile.FieldType.array Jvm.ClassFile.FieldType.byte))).before args0 about1 = true := code_word (m := ⟨8, 5⟩) (meth := k8m5) (c := k8c5) (by decide +kernel) rfl rfl rfl (by decide +kernel)
set_option maxRecDepth 65536 in
theorem w_c8 : (Jvm.Cond.code ({ cls := "java/lang/String", name := "coder", desc := "()B" } : Jvm.MethodName) jdk_42_method_152_code (1 : Nat) (Option.some Jvm.ClassFile.FieldType.byte)).before args0 about1 = true := code_word (m := ⟨8, 7⟩) (meth := k8m7) (c := k8c7) (by decide +kernel) rfl rfl rfl (by decide +kernel)
set_option maxRecDepth 65536 in
theorem w_c9 : (Jvm.Cond.code ({ cls := "java/lang/String", name := "encode", desc := "(Ljava/nio/charset/Charset;B[B)[B" } : Jvm.MethodName) jdk_42_method_18_code (3 : Nat) (Option.some (Jvm.ClassFile.FieldType.array Jvm.ClassFile.FieldType.byte))).before args0 about1 = true := code_word (m := ⟨8, 2⟩) (meth := k8m2) (c := k8c2) (by decide +kernel) rfl rfl rfl (by decide +kernel)
set_option maxRecDepth 65536 in
theorem w_c10 : (Jvm.Cond.code ({ cls := "java/lang/String", name := "encode8859_1", desc := "(B[B)[B" } : Jvm.MethodName) jdk_42_method_26_code (2 : Nat) (Option.some (Jvm.ClassFile.FieldType.array Jvm.ClassFile.FieldType.byte))).before args0 about1 = true := code_word (m := ⟨8, 3⟩) (meth := k8m3) (c := k8c3) (by decide +kernel) rfl rfl rfl (by decide +kernel)
set_option maxRecDepth 65536 in
theorem w_c11 : (Jvm.Cond.code ({ cls := "java/lang/String", name := "encode8859_1", desc := "(B[BZ)[B" } : Jvm.MethodName) jdk_42_method_27_code (10 : Nat) (Option.some (Jvm.ClassFile.FieldType.array Jvm.ClassFile.FieldType.byte))).before args0 about1 = true := code_word (m := ⟨8, 4⟩) (meth := k8m4) (c := k8c4) (by decide +kernel) rfl rfl rfl (by decide +kernel)
set_option maxRecDepth 65536 in
theorem w_c12 : (Jvm.Cond.code ({ cls := "com/example/lit2/lit2/input/Line", name := "beginsSection", desc := "()Z" } : Jvm.MethodName) prog_18_method_9_code (2 : Nat) (Option.some Jvm.ClassFile.FieldType.boolean)).before args0 about1 = true := code_word (m := ⟨2, 1⟩) (meth := k2m1) (c := k2c1) (by decide +kernel) rfl rfl rfl (by decide +kernel)
set_option maxRecDepth 65536 in
theorem w_c13 : (Jvm.Cond.code ({ cls := "java/lang/StringUTF16", name := "compress", desc := "([CII)[B" } : Jvm.MethodName) jdk_52_method_16_code (6 : Nat) (Option.some (Jvm.ClassFile.FieldType.array Jvm.ClassFile.FieldType.byte))).before args0 about1 = true := code_word (m := ⟨17, 2⟩) (meth := k17m2) (c := k17c2) (by decide +kernel) rfl rfl rfl (by decide +kernel)
set_option maxRecDepth 65536 in
theorem w_c14 : (Jvm.Cond.code ({ cls := "java/lang/StringUTF16", name := "compress", desc := "([CI[BII)I" } : Jvm.MethodName) jdk_52_method_21_code (7 : Nat) (Option.some Jvm.ClassFile.FieldType.int)).before args0 about1 = true := code_word (m := ⟨17, 3⟩) (meth := k17m3) (c := k17c3) (by decide +kernel) rfl rfl rfl (by decide +kernel)
set_option maxRecDepth 65536 in
theorem w_c15 : (Jvm.Cond.code ({ cls := "java/lang/StringUTF16", name := "coderFromArrayLen", desc := "([BI)B" } : Jvm.MethodName) jdk_52_method_15_code (2 : Nat) (Option.some Jvm.ClassFile.FieldType.byte)).before args0 about1 = true := code_word (m := ⟨17, 1⟩) (meth := k17m1) (c := k17c1) (by decide +kernel) rfl rfl rfl (by decide +kernel)
set_option maxRecDepth 65536 in
theorem w_c16 : (Jvm.Cond.code ({ cls := "com/example/lit2/lit2/input/LineBeginsSectionPinLaw", name := "blank", desc := "(C)Z" } : Jvm.MethodName) method_3_code (1 : Nat) (Option.some Jvm.ClassFile.FieldType.boolean)).before args0 about1 = true := code_word (m := ⟨1, 2⟩) (meth := k1m2) (c := k1c2) (by decide +kernel) rfl rfl rfl (by decide +kernel)
set_option maxRecDepth 65536 in
theorem w_c17 : (Jvm.Cond.code ({ cls := "com/example/lit2/lit2/input/LineBeginsSectionPinLaw", name := "follows", desc := "(C)Z" } : Jvm.MethodName) method_4_code (1 : Nat) (Option.some Jvm.ClassFile.FieldType.boolean)).before args0 about1 = true := code_word (m := ⟨1, 3⟩) (meth := k1m3) (c := k1c3) (by decide +kernel) rfl rfl rfl (by decide +kernel)
def codes1 : List Jvm.Cond := [Jvm.Cond.code x code maxLocals ret, Jvm.Cond.code ({ cls := "com/example/lit2/lit2/input/LineBeginsSectionPinLaw", name := "pick", desc := "(I)C" } : Jvm.MethodName) method_2_code (2 : Nat) (Option.some Jvm.ClassFile.FieldType.char), Jvm.Cond.code ({ cls := "java/lang/String", name := "<init>", desc := "([C)V" } : Jvm.MethodName) jdk_42_method_3_code (2 : Nat) (Option.none : Option Jvm.ClassFile.FieldType), Jvm.Cond.code ({ cls := "java/lang/String", name := "<init>", desc := "([CIILjava/lang/Void;)V" } : Jvm.MethodName) jdk_42_method_149_code (6 : Nat) (Option.none : Option Jvm.ClassFile.FieldType), Jvm.Cond.code ({ cls := "java/lang/Object", name := "<init>", desc := "()V" } : Jvm.MethodName) object_method_1_code (1 : Nat) (Option.none : Option Jvm.ClassFile.FieldType), Jvm.Cond.code ({ cls := "com/example/lit2/lit2/model/Location", name := "<init>", desc := "(Ljava/lang/String;I)V" } : Jvm.MethodName) prog_35_method_1_code (3 : Nat) (Option.none : Option Jvm.ClassFile.FieldType), Jvm.Cond.code ({ cls := "com/example/lit2/lit2/input/Line", name := "<init>", desc := "(Ljava/lang/String;Lcom/example/lit2/lit2/model/Location;)V" } : Jvm.MethodName) prog_18_method_1_code (3 : Nat) (Option.none : Option Jvm.ClassFile.FieldType), Jvm.Cond.code ({ cls := "java/lang/String", name := "getBytes", desc := "(Ljava/nio/charset/Charset;)[B" } : Jvm.MethodName) jdk_42_method_64_code (2 : Nat) (Option.some (Jvm.ClassFile.FieldType.array Jvm.ClassFile.FieldType.byte)), Jvm.Cond.code ({ cls := "java/lang/String", name := "coder", desc := "()B" } : Jvm.MethodName) jdk_42_method_152_code (1 : Nat) (Option.some Jvm.ClassFile.FieldType.byte), Jvm.Cond.code ({ cls := "java/lang/String", name := "encode", desc := "(Ljava/nio/charset/Charset;B[B)[B" } : Jvm.MethodName) jdk_42_method_18_code (3 : Nat) (Option.some (Jvm.ClassFile.FieldType.array Jvm.ClassFile.FieldType.byte)), Jvm.Cond.code ({ cls := "java/lang/String", name := "encode8859_1", desc := "(B[B)[B" } : Jvm.MethodName) jdk_42_method_26_code (2 : Nat) (Option.some (Jvm.ClassFile.FieldType.array Jvm.ClassFile.FieldType.byte)), Jvm.Cond.code ({ cls := "java/lang/String", name := "encode8859_1", desc := "(B[BZ)[B" } : Jvm.MethodName) jdk_42_method_27_code (10 : Nat) (Option.some (Jvm.ClassFile.FieldType.array Jvm.ClassFile.FieldType.byte)), Jvm.Cond.code ({ cls := "com/example/lit2/lit2/input/Line", name := "beginsSection", desc := "()Z" } : Jvm.MethodName) prog_18_method_9_code (2 : Nat) (Option.some Jvm.ClassFile.FieldType.boolean), Jvm.Cond.code ({ cls := "java/lang/StringUTF16", name := "compress", desc := "([CII)[B" } : Jvm.MethodName) jdk_52_method_16_code (6 : Nat) (Option.some (Jvm.ClassFile.FieldType.array Jvm.ClassFile.FieldType.byte)), Jvm.Cond.code ({ cls := "java/lang/StringUTF16", name := "compress", desc := "([CI[BII)I" } : Jvm.MethodName) jdk_52_method_21_code (7 : Nat) (Option.some Jvm.ClassFile.FieldType.int), Jvm.Cond.code ({ cls := "java/lang/StringUTF16", name := "coderFromArrayLen", desc := "([BI)B" } : Jvm.MethodName) jdk_52_method_15_code (2 : Nat) (Option.some Jvm.ClassFile.FieldType.byte), Jvm.Cond.code ({ cls := "com/example/lit2/lit2/input/LineBeginsSectionPinLaw", name := "blank", desc := "(C)Z" } : Jvm.MethodName) method_3_code (1 : Nat) (Option.some Jvm.ClassFile.FieldType.boolean), Jvm.Cond.code ({ cls := "com/example/lit2/lit2/input/LineBeginsSectionPinLaw", name := "follows", desc := "(C)Z" } : Jvm.MethodName) method_4_code (1 : Nat) (Option.some Jvm.ClassFile.FieldType.boolean)]
set_option maxRecDepth 65536 in
theorem codes_eq : words1.filter isCode = codes1 := rfl
theorem w_codes : ∀ c ∈ words1.filter isCode, c.before args0 about1 = true := by
  rw [codes_eq]
  intro c hc
  simp only [codes1, List.mem_cons, List.not_mem_nil, or_false] at hc
  rcases hc with rfl | rfl | rfl | rfl | rfl | rfl | rfl | rfl | rfl | rfl | rfl | rfl | rfl | rfl | rfl | rfl | rfl | rfl
  · exact w_c0
  · exact w_c1
  · exact w_c2
  · exact w_c3
  · exact w_c4
  · exact w_c5
  · exact w_c6
  · exact w_c7
  · exact w_c8
  · exact w_c9
  · exact w_c10
  · exact w_c11
  · exact w_c12
  · exact w_c13
  · exact w_c14
  · exact w_c15
  · exact w_c16
  · exact w_c17
set_option maxRecDepth 65536 in
theorem w_t1 : (words1.take 24).all (fun c => isCode c || c.before args0 about1) = true := by decide +kernel
set_option maxRecDepth 65536 in
theorem w_t2 : ((words1.drop 24).take 24).all (fun c => isCode c || c.before args0 about1) = true := by decide +kernel
set_option maxRecDepth 65536 in
theorem w_t3 : (((words1.drop 24).drop 24).take 24).all (fun c => isCode c || c.before args0 about1) = true := by decide +kernel
set_option maxRecDepth 65536 in
theorem w_t4 : ((((words1.drop 24).drop 24).drop 24).take 24).all (fun c => isCode c || c.before args0 about1) = true := by decide +kernel
set_option maxRecDepth 65536 in
theorem w_t5 : ((((words1.drop 24).drop 24).drop 24).drop 24).all (fun c => isCode c || c.before args0 about1) = true := by decide +kernel
theorem w_tables : (allAtoms (Jvm.Cond.code x code maxLocals ret :: tables_1)).before args0 about1 = true := by
  rw [allAtoms_all]
  show words1.all (fun c => c.before args0 about1) = true
  refine all_split ?_ w_codes
  rw [← List.take_append_drop 24 words1, List.all_append, w_t1, ← List.take_append_drop 24 (words1.drop 24), List.all_append, w_t2, ← List.take_append_drop 24 ((words1.drop 24).drop 24), List.all_append, w_t3, ← List.take_append_drop 24 (((words1.drop 24).drop 24).drop 24), List.all_append, w_t4, w_t5]
  rfl
set_option maxRecDepth 65536 in
theorem w_rest : rest_1_c.before args0 about1 = true := by decide +kernel
set_option maxRecDepth 65536 in
theorem w_case : (Jvm.Cond.and given_1 narrow_1).before args0 about1 = true := by decide +kernel
set_option maxRecDepth 65536 in
theorem w_consts : constsHeld consts_1 about1 := Jvm.Lit.constsHeldB_iff.mp (by decide +kernel)
theorem w_applies : (headSpec (Jvm.Cond.code x code maxLocals ret :: tables_1) room_1).applies x e0.platform about1 = true :=
  (Spec.applies_iff w_frames).mpr ⟨w_running, w_runnable, w_alone, w_named, w_hears, w_ripe, w_room, w_tables⟩
theorem atStart : AtStart classFile x code maxLocals ret World_1 tables_1 room_1 Calls_1 rest_1 Pre_1 launch0 p0 e0 about1 theMethod args0 below0 :=
  ⟨lists_1, trivial, launch0.admits_env _ _ _, launch0.least_env, fairChoices_fair.cas, fairChoices_fair.clock, w_frames, w_args, w_heap, w_applies, ⟨w_consts, trivial⟩, w_rest, w_case⟩
end start1
theorem witness_1 : WitnessClaimed_1 := ⟨start1.p0, start1.e0, start1.about1, start1.theMethod, start1.args0, start1.below0, start1.atStart⟩
end Jvm.Pilot.@@N@@
