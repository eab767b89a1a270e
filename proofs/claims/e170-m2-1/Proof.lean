import JvmDerived
import JvmDerived.Pilot.@@N@@Statement
import JvmDerived.Pilot.@@N@@Code
set_option linter.unusedVariables false
set_option linter.unusedSimpArgs false
namespace Jvm.Pilot.@@N@@
open Jvm Jvm.ClassFile Sem Op Lib Jvm.Free Jvm.Stand Jvm.LawKit Jvm.RoadKit Bundle Jvm.Pilot.@@N@@.Jvm.D

section Own
variable {p : Program} {l : Launch} {e : Env} {R : Room} {s : State} {m : MethodId} {args : Array Value} {below : List Frame} {meth : Method} {c : Code} {T T' : State} {locs : List Loc} {cells slots : Nat}
/-- from the frame f over T the run comes to the method's return, with Q -/
def OwnEnds (p : Program) (e : Env) (below : List Frame) (s : State) (Q : Option Value → Heap → List Loc → Prop) (k n : Nat) (T : State) (f : JFrame) : Prop :=
  ∃ s₂ o, Steps p.tables e below (T.setTop f) s₂ ∧ s₂.status = .running ∧ Ended s₂ below o ∧ ∃ v L, o = .returned v ∧ Q v s₂.heap L ∧ FrameEnd s o s₂ L k n
theorem own_step {Q : Option Value → Heap → List Loc → Prop} {k n : Nat} {f f' : JFrame} (h : ∀ t, Steps p.tables e below (T'.setTop f') t → Steps p.tables e below (T.setTop f) t) (g : OwnEnds p e below s Q k n T' f') : OwnEnds p e below s Q k n T f := by
  obtain ⟨s2, o, h1, h2⟩ := g
  exact ⟨s2, o, h _ h1, h2⟩
theorem own_retN (X : Stand p l e R s m args below meth c T locs cells slots) (hx : p.tables.exec = Jvm.exec) (hlk : meth.locks = false) {pc : Nat} {Ls : Array Slot} {z : Int32} {t : FieldType} {rest : List Value} (hret : meth.sig.returnType = some t) (ht : t = .boolean ∨ t = .byte ∨ t = .char ∨ t = .short)
    (hd : decode c.code pc = .ok (.ireturn, 1)) {Q : Option Value → Heap → List Loc → Prop} {k n : Nat} (hk : cells ≤ k) (hn : slots ≤ n) (hQ : Q (some (.int (nar t z))) T.heap locs) : OwnEnds p e below s Q k n T (mkF m pc Ls (.int z :: rest)) := by
  obtain ⟨fs, hr, hrun, hended, hW, hsame⟩ := X.leave (v := some (.int (nar t z))) (fun h => by rw [hret] at h; cases h) hlk
  exact ⟨_, _, retN X hx hret ht hd hr, hrun, hended, _, _, rfl, hQ, ⟨_, rfl⟩, hW, hsame.mono hk hn⟩
theorem own_retO (X : Stand p l e R s m args below meth c T locs cells slots) (hx : p.tables.exec = Jvm.exec) (hlk : meth.locks = false) {pc : Nat} {Ls : Array Slot} {w : Value} {t : FieldType} {i : Instr} {rest : List Value} (hret : meth.sig.returnType = some t) (hnw : narrow t w = w)
    (hi : (i = .ireturn ∧ (t = .int ∨ t = .boolean ∨ t = .byte ∨ t = .char ∨ t = .short) ∧ ∃ z, w = .int z) ∨ (i = .lreturn ∧ t = .long ∧ ∃ z, w = .long z) ∨ (i = .dreturn ∧ t = .double ∧ ∃ z, w = .double z) ∨ (i = .freturn ∧ t = .float ∧ ∃ z, w = .float z) ∨ (i = .areturn ∧ t.isReference = true ∧ w.isRef = true))
    (hd : decode c.code pc = .ok (i, 1)) {Q : Option Value → Heap → List Loc → Prop} {k n : Nat} (hk : cells ≤ k) (hn : slots ≤ n) (hQ : Q (some w) T.heap locs) : OwnEnds p e below s Q k n T (mkF m pc Ls (w :: rest)) := by
  obtain ⟨fs, hr, hrun, hended, hW, hsame⟩ := X.leave (v := some w) (fun h => by rw [hret] at h; cases h) hlk
  exact ⟨_, _, retOut X hx hret hnw hi hd hr, hrun, hended, _, _, rfl, hQ, ⟨_, rfl⟩, hW, hsame.mono hk hn⟩
theorem own_retV (X : Stand p l e R s m args below meth c T locs cells slots) (hx : p.tables.exec = Jvm.exec) (hlk : meth.locks = false) {pc : Nat} {Ls : Array Slot} (hret : meth.sig.returnType = none)
    (hd : decode c.code pc = .ok (.return_, 1)) {Q : Option Value → Heap → List Loc → Prop} {k n : Nat} (hk : cells ≤ k) (hn : slots ≤ n) (hQ : Q none T.heap locs) : OwnEnds p e below s Q k n T (mkF m pc Ls []) := by
  obtain ⟨fs, hr, hrun, hended, hW, hsame⟩ := X.leave (v := none) (fun _ => rfl) hlk
  exact ⟨_, _, X.returnOut hx hret hd hr, hrun, hended, _, _, rfl, hQ, ⟨_, rfl⟩, hW, hsame.mono hk hn⟩
end Own
theorem own_mvM {Z s : State} {a0 args : Array Value} {own host : String} {index : Nat} {y : MethodName} (hZ : Z.Warmed39 s.vm) (w : (Jvm.Cond.methodLinkNest own index y host).before a0 Z = true) : (Jvm.Cond.methodLinkNest own index y host).before args s = true := (Cond.methodLinkNest_wide hZ w :)
theorem own_irr {x : Int32} : ¬ x < x := by rw [Int32.lt_iff_toInt_lt]; omega
theorem own_lceq {x y : Int64} (h : x = y) : ifCond.holds .eq (lcmpW x y) = true ∧ ifCond.holds .ne (lcmpW x y) = false := by
  have q : lcmpW x y = 0 := by rw [lcW]; exact (lc_eq x y).mpr h
  exact ⟨(if0 _ _).trans (teq q).1, (if0 _ _).trans (teq q).2⟩
theorem own_lcne {x y : Int64} (h : ¬ x = y) : ifCond.holds .eq (lcmpW x y) = false ∧ ifCond.holds .ne (lcmpW x y) = true := by
  have q : ¬ lcmpW x y = 0 := by rw [lcW]; exact fun z => h ((lc_eq x y).mp z)
  exact ⟨(if0 _ _).trans (feq q).1, (if0 _ _).trans (feq q).2⟩
theorem own_lclt {x y : Int64} (h : x < y) : ifCond.holds .lt (lcmpW x y) = true ∧ ifCond.holds .ge (lcmpW x y) = false ∧ ifCond.holds .gt (lcmpW y x) = true ∧ ifCond.holds .le (lcmpW y x) = false := by
  have q : lcmpW x y < 0 := by rw [lcW]; exact (lc_lt x y).mpr h
  have q' : 0 < lcmpW y x := by rw [lcW]; exact (lc_gt y x).mpr h
  exact ⟨(if0 _ _).trans (tlt q).1, (if0 _ _).trans (tlt q).2.1, (if0 _ _).trans (tlt q').2.2.1, (if0 _ _).trans (tlt q').2.2.2⟩
theorem own_lcnl {x y : Int64} (h : ¬ x < y) : ifCond.holds .lt (lcmpW x y) = false ∧ ifCond.holds .ge (lcmpW x y) = true ∧ ifCond.holds .gt (lcmpW y x) = false ∧ ifCond.holds .le (lcmpW y x) = true := by
  have q : ¬ lcmpW x y < 0 := by rw [lcW]; exact fun z => h ((lc_lt x y).mp z)
  have q' : ¬ 0 < lcmpW y x := by rw [lcW]; exact fun z => h ((lc_gt y x).mp z)
  exact ⟨(if0 _ _).trans (flt q).1, (if0 _ _).trans (flt q).2.1, (if0 _ _).trans (flt q').2.2.1, (if0 _ _).trans (flt q').2.2.2⟩
theorem own_ord {args : Array Value} {s : State} {t : Term} {a : Addr} {C n d : String} {k : Int32} (ev : t.eval args s none [] s = some (.ref a)) (h : (Jvm.Cond.eq (.field t C n d) (.int k)).value args s none s [] = some true) : s.fieldOf? a C n d = some (.int k) := by
  have h1 := fld_at (C := C) (n := n) (dd := d) ev
  obtain ⟨x, y, e1, e2, -, k2⟩ := cmp_v (Or.inl h)
  obtain rfl : y = .int k := (Option.some.inj e2).symm
  obtain ⟨z, rfl⟩ := k2
  have q : z = k := by simpa [Jvm.Cond.value, e1, e2] using h
  rw [← h1, e1, q]
theorem own_apart {s : State} {a b : Addr} {C n d : String} {k j : Int32} (h1 : s.fieldOf? a C n d = some (.int k)) (h2 : s.fieldOf? b C n d = some (.int j)) (hk : k ≠ j) : ¬ a = b := fun e => by
  subst e; rw [h1] at h2; exact hk (Value.int.inj (Option.some.inj h2))

theorem own_at {c : Cell} {vs : List Value} {d v : Value} {j : Int32} (hin : ¬ (j < 0 ∨ c.slots.size ≤ j.toNatClampNeg)) (H : Has c vs d) (i : Nat) (hj : j.toNatClampNeg = i) (hv : vs.getD i d = v) : c.slots[j.toNatClampNeg]? = some v := by
  rw [H _ (Nat.lt_of_not_le fun q => hin (Or.inr q)), hj, hv]

section OwnW
variable {p : Program} {l : Launch} {e : Env} {R : Room} {s : State} {m : MethodId} {args : Array Value} {below : List Frame} {meth : Method} {c : Code} {T T' : State} {locs : List Loc} {cells slots : Nat}
def OwnEndsW (p : Program) (e : Env) (below : List Frame) (s : State) (Q : Option Value → Heap → List Loc → Prop) (k n : Nat) (T : State) (f : JFrame) : Prop :=
  ∃ s₂ o, Steps p.tables e below (T.setTop f) s₂ ∧ s₂.status = .running ∧ Ended s₂ below o ∧ ∃ v L, o = .returned v ∧ Q v s₂.heap L ∧ ReturnedEndW s o s₂ L k n
theorem ownW_step {Q : Option Value → Heap → List Loc → Prop} {k n : Nat} {f f' : JFrame} (h : ∀ t, Steps p.tables e below (T'.setTop f') t → Steps p.tables e below (T.setTop f) t) (g : OwnEndsW p e below s Q k n T' f') : OwnEndsW p e below s Q k n T f := by
  obtain ⟨s2, o, h1, h2⟩ := g
  exact ⟨s2, o, h _ h1, h2⟩
theorem ownW_retN {vm₁ : Vm} (X : Stand p l e R (s.setVm vm₁) m args below meth c T locs cells slots) {k1 : Nat} (hS : s.Since vm₁ k1) (hk1 : k1 ≤ T.heap.size) (hx : p.tables.exec = Jvm.exec) (hlk : meth.locks = false) {pc : Nat} {Ls : Array Slot} {z : Int32} {t : FieldType} {rest : List Value} (hret : meth.sig.returnType = some t) (ht : t = .boolean ∨ t = .byte ∨ t = .char ∨ t = .short)
    (hd : decode c.code pc = .ok (.ireturn, 1)) {Q : Option Value → Heap → List Loc → Prop} {k n : Nat} (hk : cells ≤ k) (hn : slots ≤ n) (hQ : Q (some (.int (nar t z))) T.heap locs) : OwnEndsW p e below s Q k n T (mkF m pc Ls (.int z :: rest)) := by
  obtain ⟨fs, hr, hrun, hended, e1, e2, e3, e4⟩ := X.leaveW hS hk1 (v := some (.int (nar t z))) (fun h => by rw [hret] at h; cases h) hlk
  exact ⟨_, _, retN X hx hret ht hd hr, hrun, hended, _, _, rfl, hQ, e1, e2, e3, e4.mono hk hn⟩
end OwnW
theorem own_sta_keep {Z : State} {h h' : Heap} {C n d : String} {v : Value} {ws : List Addr} (F : Sta Z h C n d v) (K : Keep h h' ws) (q : ∀ b ∈ ws, ∃ D, Exa Z h b D) : Sta Z h' C n d v := by
  obtain ⟨cf, i, k, f, st, cell, h1, h2, h3, h4, h5, h6, h7⟩ := F
  refine ⟨cf, i, k, f, st, cell, h1, h2, h3, h4, K.2.1 st cell h5 fun hb => ?_, h6, h7⟩
  obtain ⟨D, cb, kb, e1, -, -, e4, -⟩ := q st hb
  cases h5.symm.trans e1
  rw [h6] at e4; cases e4
theorem own_nf {args : Array Value} {s : State} {C : String} {x z y : MethodName} (hsel : (Jvm.Cond.selects C x z).before args s = true) (hy : y.cls = z.cls) : NotFace s y := fun r0 h0 => by
  obtain ⟨c2, r2, m2, -, -, q3, -, kP, hkP, hkPi⟩ := Cond.selects_spec hsel
  have e1 := findClass_of_methodNamed h0
  have e2 := findClass_of_methodNamed q3
  rw [hy] at e1
  have e3 : r0.cls = m2.cls := Option.some.inj (e1.symm.trans e2)
  exact ⟨kP, by rw [e3]; exact hkP, hkPi⟩
theorem own_same {Z : State} {a0 : Array Value} {C : String} {x z y : MethodName} (hd : (Jvm.Cond.declares y).before a0 Z = true) (hsel : (Jvm.Cond.selects C x z).before a0 Z = true) (hy : y.cls = z.cls) (hm : y.cls ≠ "java/lang/invoke/MethodHandle" ∧ y.cls ≠ "java/lang/invoke/VarHandle") : (Jvm.Cond.sameMethod y.cls y.cls y.name y.desc).before a0 Z = true := by
  obtain ⟨m, meth, h1, -⟩ := Cond.declares_spec hd
  have hf := State.methodFound?_of_named h1 hm
  obtain ⟨kP, hk, hi⟩ := own_nf hsel hy m h1
  have hc := findClass_of_methodNamed h1
  simp [Cond.before, Cond.holds, Cond.value, hc, hf, h1, hk, hi]
theorem own_decl {Z : State} {a0 : Array Value} {y : MethodName} {bytes : ByteArray} {n : Nat} {r : Option FieldType} (hi : (Jvm.Cond.instanceMethod y).before a0 Z = true) (hc : (Jvm.Cond.code y bytes n r).before a0 Z = true) : (Jvm.Cond.declares y).before a0 Z = true := by
  obtain ⟨m, meth, h1, h2, h3, -⟩ := Cond.instanceMethod_spec hi
  obtain ⟨meth', c, g1, -, -, -, -, -, -, g8⟩ := Cond.code_spec h1 hc
  cases h2.symm.trans g1
  simp [Cond.before, Cond.holds, Cond.value, h1, h2, h3, g8]

section OwnH
variable {p : Program} {l : Launch} {e : Env} {R : Room} {s : State} {m : MethodId} {args : Array Value} {below : List Frame} {meth : Method} {c : Code} {T T' : State} {locs : List Loc} {cells slots : Nat} {Z : State} {EL : List (String × Nat)} {a0 : Array Value} {h h0 : Heap}
def OwnEndsH (Z : State) (EL : List (String × Nat)) (p : Program) (e : Env) (below : List Frame) (s : State) (Q : Option Value → Heap → List Loc → Prop) (k n : Nat) (T : State) (f : JFrame) : Prop :=
  ∃ s₂ o, Steps p.tables e below (T.setTop f) s₂ ∧ s₂.status = .running ∧ Ended s₂ below o ∧ ∃ v L, o = .returned v ∧ Q v s₂.heap L ∧ CHr Z EL s.vm s.heap s₂.vm s₂.heap ∧ ReturnedEndW s o s₂ L k n
theorem ownH_step {Q : Option Value → Heap → List Loc → Prop} {k n : Nat} {f f' : JFrame} (h : ∀ t, Steps p.tables e below (T'.setTop f') t → Steps p.tables e below (T.setTop f) t) (g : OwnEndsH Z EL p e below s Q k n T' f') : OwnEndsH Z EL p e below s Q k n T f := by
  obtain ⟨s2, o, h1, h2⟩ := g
  exact ⟨s2, o, h _ h1, h2⟩
theorem ownH_chr {vm₁ : Vm} (X : Stand p l e R (s.setVm vm₁) m args below meth c T locs cells slots) (hZ : Z.Warmed39 vm₁) (hEL : EW Z a0 EL) (hh : s.heap = h0) (eT : T.heap = h) (Cr : CHr Z EL s.vm h0 vm₁ h) (fs : List Frame) : CHr Z EL s.vm s.heap (T.setFrames fs).vm (T.setFrames fs).heap := by
  have q := Cr.trans (CHv.at X hZ hEL Cr.1)
  rw [← hh, ← eT] at q
  exact q
theorem ownH_retV {vm₁ : Vm} (X : Stand p l e R (s.setVm vm₁) m args below meth c T locs cells slots) {k1 : Nat} (hS : s.Since vm₁ k1) (hk1 : k1 ≤ T.heap.size) (hZ : Z.Warmed39 vm₁) (hEL : EW Z a0 EL) (hh : s.heap = h0) (eT : T.heap = h) (Cr : CHr Z EL s.vm h0 vm₁ h) (hx : p.tables.exec = Jvm.exec) (hlk : meth.locks = false) {pc : Nat} {Ls : Array Slot} (hret : meth.sig.returnType = none)
    (hd : decode c.code pc = .ok (.return_, 1)) {Q : Option Value → Heap → List Loc → Prop} {k n : Nat} (hk : cells ≤ k) (hn : slots ≤ n) (hQ : Q none T.heap locs) : OwnEndsH Z EL p e below s Q k n T (mkF m pc Ls []) := by
  obtain ⟨fs, hr, hrun, hended, e1, e2, e3, e4⟩ := X.leaveW hS hk1 (v := none) (fun _ => rfl) hlk
  exact ⟨_, _, X.returnOut hx hret hd hr, hrun, hended, _, _, rfl, hQ, ownH_chr X hZ hEL hh eT Cr fs, e1, e2, e3, e4.mono hk hn⟩
theorem ownH_retO {vm₁ : Vm} (X : Stand p l e R (s.setVm vm₁) m args below meth c T locs cells slots) {k1 : Nat} (hS : s.Since vm₁ k1) (hk1 : k1 ≤ T.heap.size) (hZ : Z.Warmed39 vm₁) (hEL : EW Z a0 EL) (hh : s.heap = h0) (eT : T.heap = h) (Cr : CHr Z EL s.vm h0 vm₁ h) (hx : p.tables.exec = Jvm.exec) (hlk : meth.locks = false) {pc : Nat} {Ls : Array Slot} {w : Value} {t : FieldType} {i : Instr} {rest : List Value} (hret : meth.sig.returnType = some t) (hnw : narrow t w = w)
    (hi : (i = .ireturn ∧ (t = .int ∨ t = .boolean ∨ t = .byte ∨ t = .char ∨ t = .short) ∧ ∃ z, w = .int z) ∨ (i = .lreturn ∧ t = .long ∧ ∃ z, w = .long z) ∨ (i = .dreturn ∧ t = .double ∧ ∃ z, w = .double z) ∨ (i = .freturn ∧ t = .float ∧ ∃ z, w = .float z) ∨ (i = .areturn ∧ t.isReference = true ∧ w.isRef = true))
    (hd : decode c.code pc = .ok (i, 1)) {Q : Option Value → Heap → List Loc → Prop} {k n : Nat} (hk : cells ≤ k) (hn : slots ≤ n) (hQ : Q (some w) T.heap locs) : OwnEndsH Z EL p e below s Q k n T (mkF m pc Ls (w :: rest)) := by
  obtain ⟨fs, hr, hrun, hended, e1, e2, e3, e4⟩ := X.leaveW hS hk1 (v := some w) (fun h => by rw [hret] at h; cases h) hlk
  exact ⟨_, _, retOut X hx hret hnw hi hd hr, hrun, hended, _, _, rfl, hQ, ownH_chr X hZ hEL hh eT Cr fs, e1, e2, e3, e4.mono hk hn⟩
end OwnH

def ownEL : List (String × Nat) := [("java/lang/String", 7)]
def OwnStr (Z : State) (h : Heap) (r b : Addr) (k : ClassId) (n : Int32) (vs : List Value) : Prop := Exa Z h r "java/lang/String" ∧ Fld Z h r "java/lang/String" "coder" "B" (.int (0 : Int32)) ∧ Fld Z h r "java/lang/String" "value" "[B" (.ref b) ∧ Arv Z h b k .byte n vs (.int (0 : Int32))
def OwnTx (Z : State) (h : Heap) (a b : Addr) (k : ClassId) (n : Int32) (vs : List Value) : Prop := Exa Z h a "com/example/lit2/lit2/weave/TexOutput" ∧ Fld Z h a "com/example/lit2/lit2/weave/TexOutput" "line" "[B" (.ref b) ∧ Fld Z h a "com/example/lit2/lit2/weave/TexOutput" "length" "I" (.int n) ∧ Fld Z h a "com/example/lit2/lit2/weave/TexOutput" "linesWritten" "I" (.int (0 : Int32)) ∧ Arv Z h b k .byte (80 : Int32) vs (.int (0 : Int32)) ∧ Exa Z h b "[B" ∧ a ≠ b

/-! the plain law: chars and bytes -/
def OwnC (c : Int32) : Prop := 0 ≤ c.toInt ∧ c.toInt ≤ 255
def own_sb (c : Int32) : Int32 := nar .byte (c.toInt8.toInt32)
def own_ch (y : Int32) : Int32 := nar .char ((y &&& (255 : Int32)).toUInt32.toUInt16.toUInt32.toInt32)
theorem own_fin256 {c : Int32} (h : OwnC c) : ∃ n : Fin 256, c = Int32.ofNat n.val := by
  obtain ⟨h1, h2⟩ := h
  obtain ⟨n, hn⟩ : ∃ n : Nat, c.toInt = n := ⟨c.toInt.toNat, (Int.toNat_of_nonneg h1).symm⟩
  refine ⟨⟨n, by omega⟩, ?_⟩
  apply Int32.toInt_inj.mp
  rw [hn, Int32.toInt_ofNat_of_lt (by omega)]
theorem own_all : ∀ n : Fin 256, nar .char (Int32.ofNat n.val) = Int32.ofNat n.val ∧ (¬ (255 : Int32) < Int32.ofNat n.val) ∧ (own_sb (Int32.ofNat n.val) = 92 ↔ Int32.ofNat n.val = 92) ∧ (own_sb (Int32.ofNat n.val) = 54 ↔ Int32.ofNat n.val = 54) ∧ (own_sb (Int32.ofNat n.val) = 55 ↔ Int32.ofNat n.val = 55) ∧ (Int32.ofNat n.val).toUInt32.toUInt16.toUInt32.toInt32 = Int32.ofNat n.val := by decide +kernel
theorem own_nc {c : Int32} (h : OwnC c) : nar .char c = c := by obtain ⟨n, rfl⟩ := own_fin256 h; exact (own_all n).1
theorem own_c255 {c : Int32} (h : OwnC c) : ¬ (255 : Int32) < c := by obtain ⟨n, rfl⟩ := own_fin256 h; exact (own_all n).2.1
theorem own_sb92 {c : Int32} (h : OwnC c) : own_sb c = 92 ↔ c = 92 := by obtain ⟨n, rfl⟩ := own_fin256 h; exact (own_all n).2.2.1
theorem own_sb54 {c : Int32} (h : OwnC c) : own_sb c = 54 ↔ c = 54 := by obtain ⟨n, rfl⟩ := own_fin256 h; exact (own_all n).2.2.2.1
theorem own_sb55 {c : Int32} (h : OwnC c) : own_sb c = 55 ↔ c = 55 := by obtain ⟨n, rfl⟩ := own_fin256 h; exact (own_all n).2.2.2.2.1
theorem own_i2c {c : Int32} (h : OwnC c) : c.toUInt32.toUInt16.toUInt32.toInt32 = c := by obtain ⟨n, rfl⟩ := own_fin256 h; exact (own_all n).2.2.2.2.2
theorem own_and255 (x : Int32) : OwnC (x &&& (255 : Int32)) := by
  have e : (x &&& 255).toBitVec.toNat = x.toBitVec.toNat &&& 255 := by rw [Int32.toBitVec_and, BitVec.toNat_and]; rfl
  have hle : (x &&& 255).toBitVec.toNat ≤ 255 := by rw [e]; exact Nat.and_le_right
  have e1 : (x &&& 255).toInt = ((x &&& 255).toBitVec.toNat : Int) := by
    show (x &&& 255).toBitVec.toInt = _
    rw [BitVec.toInt_eq_toNat_cond]; split <;> omega
  unfold OwnC; rw [e1]; omega
theorem own_che (y : Int32) : own_ch y = (y &&& (255 : Int32)) := by unfold own_ch; rw [own_i2c (own_and255 y), own_nc (own_and255 y)]
theorem own_chn (y : Int32) : nar .char (own_ch y) = own_ch y := by rw [own_che]; exact own_nc (own_and255 y)
theorem own_pickc (x : Int32) : OwnC (nar .char ((x &&& (255 : Int32)).toUInt32.toUInt16.toUInt32.toInt32)) := by rw [own_i2c (own_and255 x), own_nc (own_and255 x)]; exact own_and255 x
theorem own_and3 (x : Int32) : (x &&& (3 : Int32)) = 0 ∨ (x &&& (3 : Int32)) = 1 ∨ (x &&& (3 : Int32)) = 2 ∨ (x &&& (3 : Int32)) = 3 := by
  have e : (x &&& 3).toBitVec.toNat = x.toBitVec.toNat &&& 3 := by rw [Int32.toBitVec_and, BitVec.toNat_and]; rfl
  have hle : (x &&& 3).toBitVec.toNat ≤ 3 := by rw [e]; exact Nat.and_le_right
  have hx : x &&& 3 = Int32.ofNat (x &&& 3).toBitVec.toNat := by
    apply Int32.toBitVec_inj.mp
    apply BitVec.eq_of_toNat_eq
    show _ = (BitVec.ofNat 32 (x &&& 3).toBitVec.toNat).toNat
    rw [BitVec.toNat_ofNat]; omega
  generalize (x &&& 3).toBitVec.toNat = k at hle hx
  rw [hx]
  have : k = 0 ∨ k = 1 ∨ k = 2 ∨ k = 3 := by omega
  rcases this with rfl | rfl | rfl | rfl <;> decide
theorem own_cs {s : State} {args : Array Value} {cs : Int32} (hcw : (Jvm.Cond.not (.eq (.static "java/lang/String" "COMPACT_STRINGS" "Z") (.int 0))).before args s = true) (ecs : (Term.static "java/lang/String" "COMPACT_STRINGS" "Z").eval args s none [] s = some (.int cs)) : ¬ cs = (0 : Int32) := fun q => by
  have u := not_v (Cond.before_iff.mp hcw)
  have w := eq_i ecs (Term.int_eval 0) (by rw [q])
  rw [w] at u; cases u

def QI (r : Int32) (h0 : Heap) (n0 : Nat) (v : Option Value) (h : Heap) (L : List Loc) : Prop := v = some (.int r) ∧ Fr n0 L ∧ h = h0
def QA (r : Addr) (h0 : Heap) (n0 : Nat) (v : Option Value) (h : Heap) (L : List Loc) : Prop := v = some (.ref r) ∧ Fr n0 L ∧ h = h0
def QV (h0 : Heap) (n0 : Nat) (v : Option Value) (h : Heap) (L : List Loc) : Prop := v = none ∧ Fr n0 L ∧ h = h0
def Q1 (h0 : Heap) (n0 : Nat) (v : Option Value) (h : Heap) (L : List Loc) : Prop := ∃ c : Int32, v = some (.int c) ∧ Fr n0 L ∧ h = h0 ∧ OwnC c
theorem d1_0 : decode method_2_code 0 = .ok (.iload_n 0, 1) := by decide +kernel
theorem d1_1 : decode method_2_code 1 = .ok (.bipush 7, 2) := by decide +kernel
theorem d1_3 : decode method_2_code 3 = .ok (.iand, 1) := by decide +kernel
theorem d1_4 : decode method_2_code 4 = .ok (.istore_n 1, 1) := by decide +kernel
theorem d1_5 : decode method_2_code 5 = .ok (.iload_n 1, 1) := by decide +kernel
theorem d1_6 : decode method_2_code 6 = .ok (.ifCond .ne 6, 3) := by decide +kernel
theorem d1_9 : decode method_2_code 9 = .ok (.bipush 92, 2) := by decide +kernel
theorem d1_11 : decode method_2_code 11 = .ok (.ireturn, 1) := by decide +kernel
theorem d1_12 : decode method_2_code 12 = .ok (.iload_n 1, 1) := by decide +kernel
theorem d1_13 : decode method_2_code 13 = .ok (.iconst 1, 1) := by decide +kernel
theorem d1_14 : decode method_2_code 14 = .ok (.if_icmp .ne 6, 3) := by decide +kernel
theorem d1_17 : decode method_2_code 17 = .ok (.bipush 54, 2) := by decide +kernel
theorem d1_19 : decode method_2_code 19 = .ok (.ireturn, 1) := by decide +kernel
theorem d1_20 : decode method_2_code 20 = .ok (.iload_n 1, 1) := by decide +kernel
theorem d1_21 : decode method_2_code 21 = .ok (.iconst 2, 1) := by decide +kernel
theorem d1_22 : decode method_2_code 22 = .ok (.if_icmp .ne 6, 3) := by decide +kernel
theorem d1_25 : decode method_2_code 25 = .ok (.bipush 55, 2) := by decide +kernel
theorem d1_27 : decode method_2_code 27 = .ok (.ireturn, 1) := by decide +kernel
theorem d1_28 : decode method_2_code 28 = .ok (.iload_n 1, 1) := by decide +kernel
theorem d1_29 : decode method_2_code 29 = .ok (.iconst 3, 1) := by decide +kernel
theorem d1_30 : decode method_2_code 30 = .ok (.if_icmp .ne 6, 3) := by decide +kernel
theorem d1_33 : decode method_2_code 33 = .ok (.bipush 89, 2) := by decide +kernel
theorem d1_35 : decode method_2_code 35 = .ok (.ireturn, 1) := by decide +kernel
theorem d1_36 : decode method_2_code 36 = .ok (.iload_n 1, 1) := by decide +kernel
theorem d1_37 : decode method_2_code 37 = .ok (.iconst 4, 1) := by decide +kernel
theorem d1_38 : decode method_2_code 38 = .ok (.if_icmp .ne 6, 3) := by decide +kernel
theorem d1_41 : decode method_2_code 41 = .ok (.bipush 37, 2) := by decide +kernel
theorem d1_43 : decode method_2_code 43 = .ok (.ireturn, 1) := by decide +kernel
theorem d1_44 : decode method_2_code 44 = .ok (.iload_n 0, 1) := by decide +kernel
theorem d1_45 : decode method_2_code 45 = .ok (.iconst 3, 1) := by decide +kernel
theorem d1_46 : decode method_2_code 46 = .ok (.iushr, 1) := by decide +kernel
theorem d1_47 : decode method_2_code 47 = .ok (.sipush 255, 3) := by decide +kernel
theorem d1_50 : decode method_2_code 50 = .ok (.iand, 1) := by decide +kernel
theorem d1_51 : decode method_2_code 51 = .ok (.i2c, 1) := by decide +kernel
theorem d1_52 : decode method_2_code 52 = .ok (.ireturn, 1) := by decide +kernel
theorem pn_1 : plainName "com/example/lit2/lit2/weave/TexOutputDropFinalBreakPinLaw" = true := by first | (simp [plainName, overriddenIn]; done) | decide +kernel
theorem ef_rm1 (m : MethodId) (x0 : Int32) : entryFrame m #[(.int x0)] 2 = mkF m 0 #[.val (.int x0), .unset] [] := by first | (simp [entryFrame, mkF, argsToLocals, Value.category]; done) | rfl
set_option maxRecDepth 65536 in
set_option maxHeartbeats 40000000 in
theorem rm1 (l : Launch) (Z : State) (a0 : Array Value) (hw : ∀ d ∈ tables_1, d.before a0 Z = true) (ws : List Jvm.Cond) (p1 : Int32) (h0 : Heap) (n0 : Nat) (Z0 : n0 ≤ h0.size)  :
    MetFree l (⟨"com/example/lit2/lit2/weave/TexOutputDropFinalBreakPinLaw", "pick", "(I)C"⟩ : MethodName) (head1 (Jvm.Cond.code (⟨"com/example/lit2/lit2/weave/TexOutputDropFinalBreakPinLaw", "pick", "(I)C"⟩ : MethodName) method_2_code 2 (some .char) :: ws) ({ frames := 0, cells := 0, slots := 0, locals := 0 } : Room)) (fun a U => a = #[(.int p1)] ∧ Z.Warmed39 U.vm ∧ U.heap = h0) (fun _ _ _ _ _ => True) (fun _ U o U' => ∃ v L, o = .returned v ∧ Q1 h0 n0 v U'.heap L ∧ FrameEnd U o U' L ({ frames := 0, cells := 0, slots := 0, locals := 0 } : Room).cells ({ frames := 0, cells := 0, slots := 0, locals := 0 } : Room).slots) := by
  refine MetFree.of_bodySF (plainFor_of_name pn_1) hisR ?_
  intro p e s m args below meth c s₁ Bd hml0 hP hK
  obtain ⟨rfl, hZ, hh⟩ := hP
  have hx := Bd.exec
  have hby := Bd.bytes
  have hlk : meth.locks = false := BodyLoose.notSynchronized Bd
  have hml : c.maxLocals = 2 := hml0
  have hown : s.vm.findClass "com/example/lit2/lit2/weave/TexOutputDropFinalBreakPinLaw" = some m.cls := findClass_of_methodNamed Bd.named
  have hnm := (name_of_methodNamed Bd.named Bd.method).1
  have X0 : Stand p l e ({ frames := 0, cells := 0, slots := 0, locals := 0 } : Room) s m #[(.int p1)] below meth c s₁ [] 0 0 := Stand.of_body Bd
  have e0 : s₁.heap = h0 := by rw [← hh, Bd.state]; rfl
  have N0 := Fr.nil n0
  show OwnEnds p e below s (Q1 h0 n0) ({ frames := 0, cells := 0, slots := 0, locals := 0 } : Room).cells ({ frames := 0, cells := 0, slots := 0, locals := 0 } : Room).slots s₁ (entryFrame m #[(.int p1)] 2)
  refine own_step (T' := s₁) (f' := (mkF m 0 #[.val (.int p1), .unset] [])) (fun t k => castTop (ef_rm1 m p1) k) ?_
  refine own_step (T' := s₁) (f' := (mkF m 1 #[.val (.int p1), .unset] [(.int p1)])) (fun t k => XS.iloadN X0.here hx rfl (hb hby d1_0) rfl k) ?_
  refine own_step (T' := s₁) (f' := (mkF m 3 #[.val (.int p1), .unset] [(.int (7 : Int32)), (.int p1)])) (fun t k => XS.bipush X0.here hx rfl (hb hby d1_1) k) ?_
  refine own_step (T' := s₁) (f' := (mkF m 4 #[.val (.int p1), .unset] [(.int (p1 &&& (7 : Int32)))])) (fun t k => XS.iand X0.here hx rfl (hb hby d1_3) rfl k) ?_
  refine own_step (T' := s₁) (f' := (mkF m 5 #[.val (.int p1), .val (.int (p1 &&& (7 : Int32)))] [])) (fun t k => XS.istoreN X0.here hx rfl (hb hby d1_4) rfl (l' := #[.val (.int p1), .val (.int (p1 &&& (7 : Int32)))]) rfl k) ?_
  refine own_step (T' := s₁) (f' := (mkF m 6 #[.val (.int p1), .val (.int (p1 &&& (7 : Int32)))] [(.int (p1 &&& (7 : Int32)))])) (fun t k => XS.iloadN X0.here hx rfl (hb hby d1_5) rfl k) ?_
  by_cases hc6_1 : (p1 &&& (7 : Int32)) = (0 : Int32)
  · skip
    refine own_step (T' := s₁) (f' := (mkF m 9 #[.val (.int p1), .val (.int (p1 &&& (7 : Int32)))] [])) (fun t k => XS.ifNo X0.here hx rfl (hb hby d1_6) rfl ((if0 _ _).trans (teq hc6_1).2) k) ?_
    refine own_step (T' := s₁) (f' := (mkF m 11 #[.val (.int p1), .val (.int (p1 &&& (7 : Int32)))] [(.int (92 : Int32))])) (fun t k => XS.bipush X0.here hx rfl (hb hby d1_9) k) ?_
    exact own_retN X0 hx hlk (t := .char) Bd.returns (by simp) (hb hby d1_11) (by decide) (by decide) ⟨_, rfl, N0, e0, (by constructor <;> decide)⟩
  · skip
    refine own_step (T' := s₁) (f' := (mkF m 12 #[.val (.int p1), .val (.int (p1 &&& (7 : Int32)))] [])) (fun t k => XS.ifYes X0.here hx rfl (pc0 := 6) (pc' := 12) rfl (hb hby d1_6) rfl ((if0 _ _).trans (feq hc6_1).2) (by decide) (by decide) k) ?_
    refine own_step (T' := s₁) (f' := (mkF m 13 #[.val (.int p1), .val (.int (p1 &&& (7 : Int32)))] [(.int (p1 &&& (7 : Int32)))])) (fun t k => XS.iloadN X0.here hx rfl (hb hby d1_12) rfl k) ?_
    refine own_step (T' := s₁) (f' := (mkF m 14 #[.val (.int p1), .val (.int (p1 &&& (7 : Int32)))] [(.int (1 : Int32)), (.int (p1 &&& (7 : Int32)))])) (fun t k => XS.iconst X0.here hx rfl (hb hby d1_13) k) ?_
    by_cases hc14_2 : (p1 &&& (7 : Int32)) = (1 : Int32)
    · skip
      refine own_step (T' := s₁) (f' := (mkF m 17 #[.val (.int p1), .val (.int (p1 &&& (7 : Int32)))] [])) (fun t k => XS.icmpNo X0.here hx rfl (hb hby d1_14) rfl (teq hc14_2).2 k) ?_
      refine own_step (T' := s₁) (f' := (mkF m 19 #[.val (.int p1), .val (.int (p1 &&& (7 : Int32)))] [(.int (54 : Int32))])) (fun t k => XS.bipush X0.here hx rfl (hb hby d1_17) k) ?_
      exact own_retN X0 hx hlk (t := .char) Bd.returns (by simp) (hb hby d1_19) (by decide) (by decide) ⟨_, rfl, N0, e0, (by constructor <;> decide)⟩
    · skip
      refine own_step (T' := s₁) (f' := (mkF m 20 #[.val (.int p1), .val (.int (p1 &&& (7 : Int32)))] [])) (fun t k => XS.icmpYes X0.here hx rfl (pc0 := 14) (pc' := 20) rfl (hb hby d1_14) rfl (feq hc14_2).2 (by decide) (by decide) k) ?_
      refine own_step (T' := s₁) (f' := (mkF m 21 #[.val (.int p1), .val (.int (p1 &&& (7 : Int32)))] [(.int (p1 &&& (7 : Int32)))])) (fun t k => XS.iloadN X0.here hx rfl (hb hby d1_20) rfl k) ?_
      refine own_step (T' := s₁) (f' := (mkF m 22 #[.val (.int p1), .val (.int (p1 &&& (7 : Int32)))] [(.int (2 : Int32)), (.int (p1 &&& (7 : Int32)))])) (fun t k => XS.iconst X0.here hx rfl (hb hby d1_21) k) ?_
      by_cases hc22_3 : (p1 &&& (7 : Int32)) = (2 : Int32)
      · skip
        refine own_step (T' := s₁) (f' := (mkF m 25 #[.val (.int p1), .val (.int (p1 &&& (7 : Int32)))] [])) (fun t k => XS.icmpNo X0.here hx rfl (hb hby d1_22) rfl (teq hc22_3).2 k) ?_
        refine own_step (T' := s₁) (f' := (mkF m 27 #[.val (.int p1), .val (.int (p1 &&& (7 : Int32)))] [(.int (55 : Int32))])) (fun t k => XS.bipush X0.here hx rfl (hb hby d1_25) k) ?_
        exact own_retN X0 hx hlk (t := .char) Bd.returns (by simp) (hb hby d1_27) (by decide) (by decide) ⟨_, rfl, N0, e0, (by constructor <;> decide)⟩
      · skip
        refine own_step (T' := s₁) (f' := (mkF m 28 #[.val (.int p1), .val (.int (p1 &&& (7 : Int32)))] [])) (fun t k => XS.icmpYes X0.here hx rfl (pc0 := 22) (pc' := 28) rfl (hb hby d1_22) rfl (feq hc22_3).2 (by decide) (by decide) k) ?_
        refine own_step (T' := s₁) (f' := (mkF m 29 #[.val (.int p1), .val (.int (p1 &&& (7 : Int32)))] [(.int (p1 &&& (7 : Int32)))])) (fun t k => XS.iloadN X0.here hx rfl (hb hby d1_28) rfl k) ?_
        refine own_step (T' := s₁) (f' := (mkF m 30 #[.val (.int p1), .val (.int (p1 &&& (7 : Int32)))] [(.int (3 : Int32)), (.int (p1 &&& (7 : Int32)))])) (fun t k => XS.iconst X0.here hx rfl (hb hby d1_29) k) ?_
        by_cases hc30_4 : (p1 &&& (7 : Int32)) = (3 : Int32)
        · skip
          refine own_step (T' := s₁) (f' := (mkF m 33 #[.val (.int p1), .val (.int (p1 &&& (7 : Int32)))] [])) (fun t k => XS.icmpNo X0.here hx rfl (hb hby d1_30) rfl (teq hc30_4).2 k) ?_
          refine own_step (T' := s₁) (f' := (mkF m 35 #[.val (.int p1), .val (.int (p1 &&& (7 : Int32)))] [(.int (89 : Int32))])) (fun t k => XS.bipush X0.here hx rfl (hb hby d1_33) k) ?_
          exact own_retN X0 hx hlk (t := .char) Bd.returns (by simp) (hb hby d1_35) (by decide) (by decide) ⟨_, rfl, N0, e0, (by constructor <;> decide)⟩
        · skip
          refine own_step (T' := s₁) (f' := (mkF m 36 #[.val (.int p1), .val (.int (p1 &&& (7 : Int32)))] [])) (fun t k => XS.icmpYes X0.here hx rfl (pc0 := 30) (pc' := 36) rfl (hb hby d1_30) rfl (feq hc30_4).2 (by decide) (by decide) k) ?_
          refine own_step (T' := s₁) (f' := (mkF m 37 #[.val (.int p1), .val (.int (p1 &&& (7 : Int32)))] [(.int (p1 &&& (7 : Int32)))])) (fun t k => XS.iloadN X0.here hx rfl (hb hby d1_36) rfl k) ?_
          refine own_step (T' := s₁) (f' := (mkF m 38 #[.val (.int p1), .val (.int (p1 &&& (7 : Int32)))] [(.int (4 : Int32)), (.int (p1 &&& (7 : Int32)))])) (fun t k => XS.iconst X0.here hx rfl (hb hby d1_37) k) ?_
          by_cases hc38_5 : (p1 &&& (7 : Int32)) = (4 : Int32)
          · skip
            refine own_step (T' := s₁) (f' := (mkF m 41 #[.val (.int p1), .val (.int (p1 &&& (7 : Int32)))] [])) (fun t k => XS.icmpNo X0.here hx rfl (hb hby d1_38) rfl (teq hc38_5).2 k) ?_
            refine own_step (T' := s₁) (f' := (mkF m 43 #[.val (.int p1), .val (.int (p1 &&& (7 : Int32)))] [(.int (37 : Int32))])) (fun t k => XS.bipush X0.here hx rfl (hb hby d1_41) k) ?_
            exact own_retN X0 hx hlk (t := .char) Bd.returns (by simp) (hb hby d1_43) (by decide) (by decide) ⟨_, rfl, N0, e0, (by constructor <;> decide)⟩
          · skip
            refine own_step (T' := s₁) (f' := (mkF m 44 #[.val (.int p1), .val (.int (p1 &&& (7 : Int32)))] [])) (fun t k => XS.icmpYes X0.here hx rfl (pc0 := 38) (pc' := 44) rfl (hb hby d1_38) rfl (feq hc38_5).2 (by decide) (by decide) k) ?_
            refine own_step (T' := s₁) (f' := (mkF m 45 #[.val (.int p1), .val (.int (p1 &&& (7 : Int32)))] [(.int p1)])) (fun t k => XS.iloadN X0.here hx rfl (hb hby d1_44) rfl k) ?_
            refine own_step (T' := s₁) (f' := (mkF m 46 #[.val (.int p1), .val (.int (p1 &&& (7 : Int32)))] [(.int (3 : Int32)), (.int p1)])) (fun t k => XS.iconst X0.here hx rfl (hb hby d1_45) k) ?_
            refine own_step (T' := s₁) (f' := (mkF m 47 #[.val (.int p1), .val (.int (p1 &&& (7 : Int32)))] [(.int ((p1.toUInt32 >>> ((3 : Int32) &&& 31).toUInt32).toInt32))])) (fun t k => XS.iushr X0.here hx rfl (hb hby d1_46) rfl k) ?_
            refine own_step (T' := s₁) (f' := (mkF m 50 #[.val (.int p1), .val (.int (p1 &&& (7 : Int32)))] [(.int (255 : Int32)), (.int ((p1.toUInt32 >>> ((3 : Int32) &&& 31).toUInt32).toInt32))])) (fun t k => XS.sipush X0.here hx rfl (hb hby d1_47) k) ?_
            refine own_step (T' := s₁) (f' := (mkF m 51 #[.val (.int p1), .val (.int (p1 &&& (7 : Int32)))] [(.int (((p1.toUInt32 >>> ((3 : Int32) &&& 31).toUInt32).toInt32) &&& (255 : Int32)))])) (fun t k => XS.iand X0.here hx rfl (hb hby d1_50) rfl k) ?_
            refine own_step (T' := s₁) (f' := (mkF m 52 #[.val (.int p1), .val (.int (p1 &&& (7 : Int32)))] [(.int ((((p1.toUInt32 >>> ((3 : Int32) &&& 31).toUInt32).toInt32) &&& (255 : Int32)).toUInt32.toUInt16.toUInt32.toInt32))])) (fun t k => XS.i2c X0.here hx rfl (hb hby d1_51) rfl k) ?_
            exact own_retN X0 hx hlk (t := .char) Bd.returns (by simp) (hb hby d1_52) (by decide) (by decide) ⟨_, rfl, N0, e0, own_pickc _⟩

def Q2 (Z : State) (a1 : Addr) (h0 : Heap) (n0 : Nat) (v : Option Value) (h : Heap) (L : List Loc) : Prop := v = none ∧ Fr n0 L ∧ Keep h0 h [a1] ∧ ∃ (b : Addr) (k : ClassId), h0.size ≤ b ∧ OwnTx Z h a1 b k 0 [(.int (0 : Int32)), (.int (0 : Int32)), (.int (0 : Int32))]
theorem d2_0 : decode prog_135_method_1_code 0 = .ok (.aload_n 0, 1) := by decide +kernel
theorem d2_1 : decode prog_135_method_1_code 1 = .ok (.invokespecial 1, 3) := by decide +kernel
theorem d2_4 : decode prog_135_method_1_code 4 = .ok (.aload_n 0, 1) := by decide +kernel
theorem d2_5 : decode prog_135_method_1_code 5 = .ok (.ldc 7, 2) := by decide +kernel
theorem d2_7 : decode prog_135_method_1_code 7 = .ok (.newarray .byte, 2) := by decide +kernel
theorem d2_9 : decode prog_135_method_1_code 9 = .ok (.putfield 8, 3) := by decide +kernel
theorem d2_12 : decode prog_135_method_1_code 12 = .ok (.aload_n 0, 1) := by decide +kernel
theorem d2_13 : decode prog_135_method_1_code 13 = .ok (.bipush 80, 2) := by decide +kernel
theorem d2_15 : decode prog_135_method_1_code 15 = .ok (.newarray .byte, 2) := by decide +kernel
theorem d2_17 : decode prog_135_method_1_code 17 = .ok (.putfield 14, 3) := by decide +kernel
theorem d2_20 : decode prog_135_method_1_code 20 = .ok (.return_, 1) := by decide +kernel
theorem pn_2 : plainName "com/example/lit2/lit2/weave/TexOutput" = true := by first | (simp [plainName, overriddenIn]; done) | decide +kernel
theorem ef_rm2 (m : MethodId) (x0 : Addr) : entryFrame m #[(.ref x0)] 1 = mkF m 0 #[.val (.ref x0)] [] := by first | (simp [entryFrame, mkF, argsToLocals, Value.category]; done) | rfl
set_option maxRecDepth 65536 in
set_option maxHeartbeats 40000000 in
theorem rm2 (l : Launch) (Z : State) (a0 : Array Value) (hw : ∀ d ∈ tables_1, d.before a0 Z = true) (ws : List Jvm.Cond) (a1 : Addr) (h0 : Heap) (n0 : Nat) (Z0 : n0 ≤ h0.size) (E_a1 : Exa Z h0 a1 "com/example/lit2/lit2/weave/TexOutput") (F_document_a1 : Fld Z h0 a1 "com/example/lit2/lit2/weave/TexOutput" "document" "[B" .null) (F_line_a1 : Fld Z h0 a1 "com/example/lit2/lit2/weave/TexOutput" "line" "[B" .null) (F_length_a1 : Fld Z h0 a1 "com/example/lit2/lit2/weave/TexOutput" "length" "I" (.int (0 : Int32))) (F_linesWritten_a1 : Fld Z h0 a1 "com/example/lit2/lit2/weave/TexOutput" "linesWritten" "I" (.int (0 : Int32))) (g_a1 : n0 ≤ a1) :
    MetFree l (⟨"com/example/lit2/lit2/weave/TexOutput", "<init>", "()V"⟩ : MethodName) (head1 (Jvm.Cond.code (⟨"com/example/lit2/lit2/weave/TexOutput", "<init>", "()V"⟩ : MethodName) prog_135_method_1_code 1 none :: ws) ({ frames := 1, cells := 2, slots := 65616, locals := 13 } : Room)) (fun a U => a = #[(.ref a1)] ∧ Z.Warmed39 U.vm ∧ U.heap = h0) (fun _ _ _ _ _ => True) (fun _ U o U' => ∃ v L, o = .returned v ∧ Q2 Z a1 h0 n0 v U'.heap L ∧ FrameEnd U o U' L ({ frames := 1, cells := 2, slots := 65616, locals := 13 } : Room).cells ({ frames := 1, cells := 2, slots := 65616, locals := 13 } : Room).slots) := by
  refine MetFree.of_bodySF (plainFor_of_name pn_2) hisR ?_
  intro p e s m args below meth c s₁ Bd hml0 hP hK
  obtain ⟨rfl, hZ, hh⟩ := hP
  have hx := Bd.exec
  have hby := Bd.bytes
  have hlk : meth.locks = false := BodyLoose.notSynchronized Bd
  have hml : c.maxLocals = 1 := hml0
  have hown : s.vm.findClass "com/example/lit2/lit2/weave/TexOutput" = some m.cls := findClass_of_methodNamed Bd.named
  have hnm := (name_of_methodNamed Bd.named Bd.method).1
  have X0 : Stand p l e ({ frames := 1, cells := 2, slots := 65616, locals := 13 } : Room) s m #[(.ref a1)] below meth c s₁ [] 0 0 := Stand.of_body Bd
  have e0 : s₁.heap = h0 := by rw [← hh, Bd.state]; rfl
  have N0 := Fr.nil n0
  have Zz := Z0
  have Kp : Keep h0 h0 [a1] := Keep.refl _ _
  show OwnEnds p e below s (Q2 Z a1 h0 n0) ({ frames := 1, cells := 2, slots := 65616, locals := 13 } : Room).cells ({ frames := 1, cells := 2, slots := 65616, locals := 13 } : Room).slots s₁ (entryFrame m #[(.ref a1)] 1)
  refine own_step (T' := s₁) (f' := (mkF m 0 #[.val (.ref a1)] [])) (fun t k => castTop (ef_rm2 m a1) k) ?_
  refine own_step (T' := s₁) (f' := (mkF m 1 #[.val (.ref a1)] [(.ref a1)])) (fun t k => XS.aloadN X0.here hx rfl (hb hby d2_0) rfl rfl k) ?_
  obtain ⟨T1, X1, e1, st1⟩ := initO X0 hx hZ hown (hw _ (List.mem_of_getElem? (i := 11) rfl)) (hw _ (List.mem_of_getElem? (i := 12) rfl)) (hw _ (List.mem_of_getElem? (i := 13) rfl)) e0 (g := (mkF m 1 #[.val (.ref a1)] [(.ref a1)])) rfl (by rw [hml]; rfl) rfl (hb hby d2_1) (by decide) (W := 0) (by show 2 * 0 + _ ≤ _; exact Nat.le_of_eq rfl) (by decide)
  refine own_step (T' := T1) (f' := (mkF m 4 #[.val (.ref a1)] [])) (fun t k => st1 t k) ?_
  refine own_step (T' := T1) (f' := (mkF m 5 #[.val (.ref a1)] [(.ref a1)])) (fun t k => XS.aloadN X1.here hx rfl (hb hby d2_4) rfl rfl k) ?_
  refine own_step (T' := T1) (f' := (mkF m 7 #[.val (.ref a1)] [(.int (65536 : Int32)), (.ref a1)])) (fun t k => X1.ldcInt hx hown (mvT hZ (hw _ (List.mem_of_getElem? (i := 14) rfl))) (g := (mkF m 5 #[.val (.ref a1)] [(.ref a1)])) rfl (hb hby d2_5) _ k) ?_
  obtain ⟨T2, h2, k2, X2, e2, E2, A2, EX2, st2⟩ := newPE X1 hx hZ (hw _ (List.mem_of_getElem? (i := 15) rfl)) e1 (g := (mkF m 7 #[.val (.ref a1)] [(.int (65536 : Int32)), (.ref a1)])) rfl (hb hby d2_7) rfl (by decide) (cap := 65536) (by decide) (by decide) (by decide) (by decide) (ad := "[B") rfl
  obtain ⟨b2, g2⟩ : ∃ z, z = h0.size := ⟨_, rfl⟩
  rw [← g2] at A2 EX2 st2
  have ne_a1_b2 : a1 ≠ b2 := Nat.ne_of_lt (Nat.lt_of_lt_of_le E_a1.lt (Nat.le_of_eq g2.symm))
  have g_b2 : n0 ≤ b2 := Nat.le_trans Zz (Nat.le_of_eq g2.symm)
  have sz_b2 : h0.size ≤ b2 := Nat.le_trans Kp.1 (Nat.le_of_eq g2.symm)
  replace E_a1 := E_a1.ext E2
  replace F_document_a1 := F_document_a1.ext E2
  replace F_line_a1 := F_line_a1.ext E2
  replace F_length_a1 := F_length_a1.ext E2
  replace F_linesWritten_a1 := F_linesWritten_a1.ext E2
  replace Zz := Nat.le_trans Zz E2.1
  replace Kp := Kp.ext E2
  have V_b2 : Arv Z h2 b2 k2 .byte (65536 : Int32) [(.int (0 : Int32)), (.int (0 : Int32)), (.int (0 : Int32))] (.int (0 : Int32)) := (Arv.new A2 (by decide)).pad (pad_rep [] (.int (0 : Int32)) 3)
  have EX_b2 := EX2
  refine own_step (T' := T2) (f' := (mkF m 9 #[.val (.ref a1)] [(.ref b2), (.ref a1)])) (fun t k => st2 t k) ?_
  obtain ⟨T3, h3, X3, e3, W3, st3⟩ := putF X2 hx hZ hown (host := "") (Or.inl (hw _ (List.mem_of_getElem? (i := 16) rfl))) Via.refl e2 F_document_a1 E_a1 (Or.inl (hw _ (List.mem_of_getElem? (i := 17) rfl))) (hw _ (List.mem_of_getElem? (i := 6) rfl)) (ty := (.array .byte)) (by decide) rfl rfl (g := (mkF m 9 #[.val (.ref a1)] [(.ref b2), (.ref a1)])) rfl rfl (hb hby d2_9)
  replace E_a1 := E_a1.wr W3
  replace F_document_a1 := F_document_a1.same W3
  replace F_line_a1 := F_line_a1.other W3 (Or.inr (Jvm.RoadKit.slot_ne (Or.inr (hw _ (List.mem_of_getElem? (i := 19) rfl))) (Or.inl (hw _ (List.mem_of_getElem? (i := 17) rfl))) (by decide) (t := (.array .byte)) (t' := (.array .byte)) (by decide) (by decide)))
  replace F_length_a1 := F_length_a1.other W3 (Or.inr (Jvm.RoadKit.slot_ne (Or.inl (hw _ (List.mem_of_getElem? (i := 26) rfl))) (Or.inl (hw _ (List.mem_of_getElem? (i := 17) rfl))) (by decide) (t := .int) (t' := (.array .byte)) (by decide) (by decide)))
  replace F_linesWritten_a1 := F_linesWritten_a1.other W3 (Or.inr (Jvm.RoadKit.slot_ne (Or.inl (hw _ (List.mem_of_getElem? (i := 109) rfl))) (Or.inl (hw _ (List.mem_of_getElem? (i := 17) rfl))) (by decide) (t := .int) (t' := (.array .byte)) (by decide) (by decide)))
  replace V_b2 := V_b2.other W3 (Ne.symm ne_a1_b2)
  replace EX_b2 := EX_b2.wr W3
  replace Zz := Nat.le_trans Zz (Keep.of_wr W3).1
  replace Kp := Kp.wr W3 (Or.inl (List.mem_of_getElem? (i := 0) rfl))
  have N3 := Fr.snoc X3 N0 g_a1
  refine own_step (T' := T3) (f' := (mkF m 12 #[.val (.ref a1)] [])) (fun t k => st3 t k) ?_
  refine own_step (T' := T3) (f' := (mkF m 13 #[.val (.ref a1)] [(.ref a1)])) (fun t k => XS.aloadN X3.here hx rfl (hb hby d2_12) rfl rfl k) ?_
  refine own_step (T' := T3) (f' := (mkF m 15 #[.val (.ref a1)] [(.int (80 : Int32)), (.ref a1)])) (fun t k => XS.bipush X3.here hx rfl (hb hby d2_13) k) ?_
  obtain ⟨T4, h4, k4, X4, e4, E4, A4, EX4, st4⟩ := newPE X3 hx hZ (hw _ (List.mem_of_getElem? (i := 15) rfl)) e3 (g := (mkF m 15 #[.val (.ref a1)] [(.int (80 : Int32)), (.ref a1)])) rfl (hb hby d2_15) rfl (by decide) (cap := 80) (by decide) (by decide) (by decide) (by decide) (ad := "[B") rfl
  obtain ⟨b4, g4⟩ : ∃ z, z = h3.size := ⟨_, rfl⟩
  rw [← g4] at A4 EX4 st4
  have ne_a1_b4 : a1 ≠ b4 := Nat.ne_of_lt (Nat.lt_of_lt_of_le E_a1.lt (Nat.le_of_eq g4.symm))
  have ne_b2_b4 : b2 ≠ b4 := Nat.ne_of_lt (Nat.lt_of_lt_of_le V_b2.lt (Nat.le_of_eq g4.symm))
  have g_b4 : n0 ≤ b4 := Nat.le_trans Zz (Nat.le_of_eq g4.symm)
  have sz_b4 : h0.size ≤ b4 := Nat.le_trans Kp.1 (Nat.le_of_eq g4.symm)
  replace E_a1 := E_a1.ext E4
  replace F_document_a1 := F_document_a1.ext E4
  replace F_line_a1 := F_line_a1.ext E4
  replace F_length_a1 := F_length_a1.ext E4
  replace F_linesWritten_a1 := F_linesWritten_a1.ext E4
  replace V_b2 := V_b2.ext E4
  replace EX_b2 := EX_b2.ext E4
  replace Zz := Nat.le_trans Zz E4.1
  replace Kp := Kp.ext E4
  have V_b4 : Arv Z h4 b4 k4 .byte (80 : Int32) [(.int (0 : Int32)), (.int (0 : Int32)), (.int (0 : Int32))] (.int (0 : Int32)) := (Arv.new A4 (by decide)).pad (pad_rep [] (.int (0 : Int32)) 3)
  have EX_b4 := EX4
  refine own_step (T' := T4) (f' := (mkF m 17 #[.val (.ref a1)] [(.ref b4), (.ref a1)])) (fun t k => st4 t k) ?_
  obtain ⟨T5, h5, X5, e5, W5, st5⟩ := putF X4 hx hZ hown (host := "") (Or.inl (hw _ (List.mem_of_getElem? (i := 18) rfl))) Via.refl e4 F_line_a1 E_a1 (Or.inr ⟨(hw _ (List.mem_of_getElem? (i := 19) rfl)), rfl, hnm⟩) (hw _ (List.mem_of_getElem? (i := 6) rfl)) (ty := (.array .byte)) (by decide) rfl rfl (g := (mkF m 17 #[.val (.ref a1)] [(.ref b4), (.ref a1)])) rfl rfl (hb hby d2_17)
  replace E_a1 := E_a1.wr W5
  replace F_document_a1 := F_document_a1.other W5 (Or.inr (Jvm.RoadKit.slot_ne (Or.inl (hw _ (List.mem_of_getElem? (i := 17) rfl))) (Or.inr (hw _ (List.mem_of_getElem? (i := 19) rfl))) (by decide) (t := (.array .byte)) (t' := (.array .byte)) (by decide) (by decide)))
  replace F_line_a1 := F_line_a1.same W5
  replace F_length_a1 := F_length_a1.other W5 (Or.inr (Jvm.RoadKit.slot_ne (Or.inl (hw _ (List.mem_of_getElem? (i := 26) rfl))) (Or.inr (hw _ (List.mem_of_getElem? (i := 19) rfl))) (by decide) (t := .int) (t' := (.array .byte)) (by decide) (by decide)))
  replace F_linesWritten_a1 := F_linesWritten_a1.other W5 (Or.inr (Jvm.RoadKit.slot_ne (Or.inl (hw _ (List.mem_of_getElem? (i := 109) rfl))) (Or.inr (hw _ (List.mem_of_getElem? (i := 19) rfl))) (by decide) (t := .int) (t' := (.array .byte)) (by decide) (by decide)))
  replace V_b2 := V_b2.other W5 (Ne.symm ne_a1_b2)
  replace EX_b2 := EX_b2.wr W5
  replace V_b4 := V_b4.other W5 (Ne.symm ne_a1_b4)
  replace EX_b4 := EX_b4.wr W5
  replace Zz := Nat.le_trans Zz (Keep.of_wr W5).1
  replace Kp := Kp.wr W5 (Or.inl (List.mem_of_getElem? (i := 0) rfl))
  have N5 := Fr.snoc X5 N3 g_a1
  refine own_step (T' := T5) (f' := (mkF m 20 #[.val (.ref a1)] [])) (fun t k => st5 t k) ?_
  exact own_retV X5 hx hlk Bd.returns (hb hby d2_20) (by decide) (by decide) (by rw [e5]; exact ⟨rfl, N5, Kp, b4, k4, sz_b4, E_a1, F_line_a1, F_length_a1, F_linesWritten_a1, V_b4, EX_b4, ne_a1_b4⟩)

def Q4_0 (Z : State) (a1 bv : Addr) (kv : ClassId) (cx : Int32) (v0 v1 v2 : Value) (h0 : Heap) (n0 : Nat) (v : Option Value) (h : Heap) (L : List Loc) : Prop := v = none ∧ Fr n0 L ∧ Keep h0 h [a1, bv] ∧ OwnTx Z h a1 bv kv 1 [(.int (own_sb cx)), v1, v2]
theorem d4_0 : decode prog_135_method_2_code 0 = .ok (.aload_n 0, 1) := by decide +kernel
theorem d4_1 : decode prog_135_method_2_code 1 = .ok (.getfield 17, 3) := by decide +kernel
theorem d4_4 : decode prog_135_method_2_code 4 = .ok (.bipush 80, 2) := by decide +kernel
theorem d4_6 : decode prog_135_method_2_code 6 = .ok (.if_icmp .ne 7, 3) := by decide +kernel
theorem d4_13 : decode prog_135_method_2_code 13 = .ok (.aload_n 0, 1) := by decide +kernel
theorem d4_14 : decode prog_135_method_2_code 14 = .ok (.getfield 14, 3) := by decide +kernel
theorem d4_17 : decode prog_135_method_2_code 17 = .ok (.aload_n 0, 1) := by decide +kernel
theorem d4_18 : decode prog_135_method_2_code 18 = .ok (.getfield 17, 3) := by decide +kernel
theorem d4_21 : decode prog_135_method_2_code 21 = .ok (.iload_n 1, 1) := by decide +kernel
theorem d4_22 : decode prog_135_method_2_code 22 = .ok (.i2b, 1) := by decide +kernel
theorem d4_23 : decode prog_135_method_2_code 23 = .ok (.bastore, 1) := by decide +kernel
theorem d4_24 : decode prog_135_method_2_code 24 = .ok (.aload_n 0, 1) := by decide +kernel
theorem d4_25 : decode prog_135_method_2_code 25 = .ok (.dup, 1) := by decide +kernel
theorem d4_26 : decode prog_135_method_2_code 26 = .ok (.getfield 17, 3) := by decide +kernel
theorem d4_29 : decode prog_135_method_2_code 29 = .ok (.iconst 1, 1) := by decide +kernel
theorem d4_30 : decode prog_135_method_2_code 30 = .ok (.iadd, 1) := by decide +kernel
theorem d4_31 : decode prog_135_method_2_code 31 = .ok (.putfield 17, 3) := by decide +kernel
theorem d4_34 : decode prog_135_method_2_code 34 = .ok (.return_, 1) := by decide +kernel
theorem pn_4 : plainName "com/example/lit2/lit2/weave/TexOutput" = true := by first | (simp [plainName, overriddenIn]; done) | decide +kernel
theorem ef_rm4_0 (m : MethodId) (x0 : Addr) (x1 : Int32) : entryFrame m #[(.ref x0), (.int x1)] 2 = mkF m 0 #[.val (.ref x0), .val (.int x1)] [] := by first | (simp [entryFrame, mkF, argsToLocals, Value.category]; done) | rfl
set_option maxRecDepth 65536 in
set_option maxHeartbeats 40000000 in
theorem rm4_0 (l : Launch) (Z : State) (a0 : Array Value) (hw : ∀ d ∈ tables_1, d.before a0 Z = true) (ws : List Jvm.Cond) (a1 : Addr) (cx : Int32) (h0 : Heap) (n0 : Nat) (Z0 : n0 ≤ h0.size) (v0 v1 v2 : Value) (bv : Addr) (kv : ClassId) (O : OwnTx Z h0 a1 bv kv 0 [v0, v1, v2]) (g_a1 : n0 ≤ a1) (g_bv : n0 ≤ bv) :
    MetFree l (⟨"com/example/lit2/lit2/weave/TexOutput", "out", "(C)V"⟩ : MethodName) (head1 (Jvm.Cond.code (⟨"com/example/lit2/lit2/weave/TexOutput", "out", "(C)V"⟩ : MethodName) prog_135_method_2_code 2 none :: ws) ({ frames := 0, cells := 0, slots := 0, locals := 0 } : Room)) (fun a U => a = #[(.ref a1), (.int cx)] ∧ Z.Warmed39 U.vm ∧ U.heap = h0) (fun _ _ _ _ _ => True) (fun _ U o U' => ∃ v L, o = .returned v ∧ Q4_0 Z a1 bv kv cx v0 v1 v2 h0 n0 v U'.heap L ∧ FrameEnd U o U' L ({ frames := 0, cells := 0, slots := 0, locals := 0 } : Room).cells ({ frames := 0, cells := 0, slots := 0, locals := 0 } : Room).slots) := by
  refine MetFree.of_bodySF (plainFor_of_name pn_4) hisR ?_
  intro p e s m args below meth c s₁ Bd hml0 hP hK
  obtain ⟨rfl, hZ, hh⟩ := hP
  have hx := Bd.exec
  have hby := Bd.bytes
  have hlk : meth.locks = false := BodyLoose.notSynchronized Bd
  have hml : c.maxLocals = 2 := hml0
  have hown : s.vm.findClass "com/example/lit2/lit2/weave/TexOutput" = some m.cls := findClass_of_methodNamed Bd.named
  have hnm := (name_of_methodNamed Bd.named Bd.method).1
  have X0 : Stand p l e ({ frames := 0, cells := 0, slots := 0, locals := 0 } : Room) s m #[(.ref a1), (.int cx)] below meth c s₁ [] 0 0 := Stand.of_body Bd
  have e0 : s₁.heap = h0 := by rw [← hh, Bd.state]; rfl
  have N0 := Fr.nil n0
  have Zz := Z0
  have Kp : Keep h0 h0 [a1, bv] := Keep.refl _ _
  obtain ⟨E_a1, F_line_a1, F_length_a1, F_linesWritten_a1, V_bv, EX_bv, ne1⟩ := O
  show OwnEnds p e below s (Q4_0 Z a1 bv kv cx v0 v1 v2 h0 n0) ({ frames := 0, cells := 0, slots := 0, locals := 0 } : Room).cells ({ frames := 0, cells := 0, slots := 0, locals := 0 } : Room).slots s₁ (entryFrame m #[(.ref a1), (.int cx)] 2)
  refine own_step (T' := s₁) (f' := (mkF m 0 #[.val (.ref a1), .val (.int cx)] [])) (fun t k => castTop (ef_rm4_0 m a1 cx) k) ?_
  refine own_step (T' := s₁) (f' := (mkF m 1 #[.val (.ref a1), .val (.int cx)] [(.ref a1)])) (fun t k => XS.aloadN X0.here hx rfl (hb hby d4_0) rfl rfl k) ?_
  obtain ⟨T1, X1, e1, st1⟩ := getF X0 hx hZ hown (host := "") (Or.inl (hw _ (List.mem_of_getElem? (i := 25) rfl))) Via.refl e0 F_length_a1 (g := (mkF m 1 #[.val (.ref a1), .val (.int cx)] [(.ref a1)])) rfl rfl (hb hby d4_1)
  refine own_step (T' := T1) (f' := (mkF m 4 #[.val (.ref a1), .val (.int cx)] [(.int (0 : Int32))])) (fun t k => st1 t k) ?_
  refine own_step (T' := T1) (f' := (mkF m 6 #[.val (.ref a1), .val (.int cx)] [(.int (80 : Int32)), (.int (0 : Int32))])) (fun t k => XS.bipush X1.here hx rfl (hb hby d4_4) k) ?_
  refine own_step (T' := T1) (f' := (mkF m 13 #[.val (.ref a1), .val (.int cx)] [])) (fun t k => XS.icmpYes X1.here hx rfl (pc0 := 6) (pc' := 13) rfl (hb hby d4_6) rfl (feq (by decide : ¬ ((0 : Int32) = (80 : Int32)))).2 (by decide) (by decide) k) ?_
  refine own_step (T' := T1) (f' := (mkF m 14 #[.val (.ref a1), .val (.int cx)] [(.ref a1)])) (fun t k => XS.aloadN X1.here hx rfl (hb hby d4_13) rfl rfl k) ?_
  obtain ⟨T2, X2, e2, st2⟩ := getF X1 hx hZ hown (host := "") (Or.inl (hw _ (List.mem_of_getElem? (i := 18) rfl))) Via.refl e1 F_line_a1 (g := (mkF m 14 #[.val (.ref a1), .val (.int cx)] [(.ref a1)])) rfl rfl (hb hby d4_14)
  refine own_step (T' := T2) (f' := (mkF m 17 #[.val (.ref a1), .val (.int cx)] [(.ref bv)])) (fun t k => st2 t k) ?_
  refine own_step (T' := T2) (f' := (mkF m 18 #[.val (.ref a1), .val (.int cx)] [(.ref a1), (.ref bv)])) (fun t k => XS.aloadN X2.here hx rfl (hb hby d4_17) rfl rfl k) ?_
  obtain ⟨T3, X3, e3, st3⟩ := getF X2 hx hZ hown (host := "") (Or.inl (hw _ (List.mem_of_getElem? (i := 25) rfl))) Via.refl e2 F_length_a1 (g := (mkF m 18 #[.val (.ref a1), .val (.int cx)] [(.ref a1), (.ref bv)])) rfl rfl (hb hby d4_18)
  refine own_step (T' := T3) (f' := (mkF m 21 #[.val (.ref a1), .val (.int cx)] [(.int (0 : Int32)), (.ref bv)])) (fun t k => st3 t k) ?_
  refine own_step (T' := T3) (f' := (mkF m 22 #[.val (.ref a1), .val (.int cx)] [(.int cx), (.int (0 : Int32)), (.ref bv)])) (fun t k => XS.iloadN X3.here hx rfl (hb hby d4_21) rfl k) ?_
  refine own_step (T' := T3) (f' := (mkF m 23 #[.val (.ref a1), .val (.int cx)] [(.int (cx.toInt8.toInt32)), (.int (0 : Int32)), (.ref bv)])) (fun t k => XS.i2b X3.here hx rfl (hb hby d4_22) rfl k) ?_
  obtain ⟨cl4, Ar4, q4, S4, M4, H4, G4⟩ := V_bv
  have hin4 : ¬ ((0 : Int32) < 0 ∨ cl4.slots.size ≤ ((0 : Int32)).toNatClampNeg) := inb_of S4 ⟨by decide, by decide⟩
  obtain ⟨T4, h4, X4, e4, W4, st4⟩ := stB X3 hx hZ e3 Ar4 (j := (0 : Int32)) hin4 (g := (mkF m 23 #[.val (.ref a1), .val (.int cx)] [(.int (cx.toInt8.toInt32)), (.int (0 : Int32)), (.ref bv)])) rfl rfl (hb hby d4_23)
  have V_bv : Arv Z h4 bv kv .byte (80 : Int32) [(.int (own_sb cx)), v1, v2] (.int (0 : Int32)) := Arv.set Ar4 q4 S4 M4 H4 G4 (fits_nar_byte _) W4 0 rfl (Nat.le_of_ble_eq_true rfl)
  replace E_a1 := E_a1.wr W4
  replace F_line_a1 := F_line_a1.other W4 (Or.inl ne1)
  replace F_length_a1 := F_length_a1.other W4 (Or.inl ne1)
  replace F_linesWritten_a1 := F_linesWritten_a1.other W4 (Or.inl ne1)
  replace EX_bv := EX_bv.wr W4
  replace Zz := Nat.le_trans Zz (Keep.of_wr W4).1
  replace Kp := Kp.wr W4 (Or.inl (List.mem_of_getElem? (i := 1) rfl))
  have N4 := Fr.snoc X4 N0 g_bv
  refine own_step (T' := T4) (f' := (mkF m 24 #[.val (.ref a1), .val (.int cx)] [])) (fun t k => st4 t k) ?_
  refine own_step (T' := T4) (f' := (mkF m 25 #[.val (.ref a1), .val (.int cx)] [(.ref a1)])) (fun t k => XS.aloadN X4.here hx rfl (hb hby d4_24) rfl rfl k) ?_
  refine own_step (T' := T4) (f' := (mkF m 26 #[.val (.ref a1), .val (.int cx)] [(.ref a1), (.ref a1)])) (fun t k => XS.dup X4.here hx rfl (hb hby d4_25) rfl rfl k) ?_
  obtain ⟨T5, X5, e5, st5⟩ := getF X4 hx hZ hown (host := "") (Or.inl (hw _ (List.mem_of_getElem? (i := 25) rfl))) Via.refl e4 F_length_a1 (g := (mkF m 26 #[.val (.ref a1), .val (.int cx)] [(.ref a1), (.ref a1)])) rfl rfl (hb hby d4_26)
  refine own_step (T' := T5) (f' := (mkF m 29 #[.val (.ref a1), .val (.int cx)] [(.int (0 : Int32)), (.ref a1)])) (fun t k => st5 t k) ?_
  refine own_step (T' := T5) (f' := (mkF m 30 #[.val (.ref a1), .val (.int cx)] [(.int (1 : Int32)), (.int (0 : Int32)), (.ref a1)])) (fun t k => XS.iconst X5.here hx rfl (hb hby d4_29) k) ?_
  refine own_step (T' := T5) (f' := (mkF m 31 #[.val (.ref a1), .val (.int cx)] [(.int (1 : Int32)), (.ref a1)])) (fun t k => XS.iadd X5.here hx rfl (hb hby d4_30) rfl k) ?_
  obtain ⟨T6, h6, X6, e6, W6, st6⟩ := putF X5 hx hZ hown (host := "") (Or.inl (hw _ (List.mem_of_getElem? (i := 25) rfl))) Via.refl e5 F_length_a1 E_a1 (Or.inl (hw _ (List.mem_of_getElem? (i := 26) rfl))) (hw _ (List.mem_of_getElem? (i := 6) rfl)) (ty := .int) (by decide) rfl rfl (g := (mkF m 31 #[.val (.ref a1), .val (.int cx)] [(.int (1 : Int32)), (.ref a1)])) rfl rfl (hb hby d4_31)
  replace E_a1 := E_a1.wr W6
  replace F_line_a1 := F_line_a1.other W6 (Or.inr (Jvm.RoadKit.slot_ne (Or.inr (hw _ (List.mem_of_getElem? (i := 19) rfl))) (Or.inl (hw _ (List.mem_of_getElem? (i := 26) rfl))) (by decide) (t := (.array .byte)) (t' := .int) (by decide) (by decide)))
  replace F_length_a1 := F_length_a1.same W6
  replace F_linesWritten_a1 := F_linesWritten_a1.other W6 (Or.inr (Jvm.RoadKit.slot_ne (Or.inl (hw _ (List.mem_of_getElem? (i := 109) rfl))) (Or.inl (hw _ (List.mem_of_getElem? (i := 26) rfl))) (by decide) (t := .int) (t' := .int) (by decide) (by decide)))
  replace V_bv := V_bv.other W6 (Ne.symm ne1)
  replace EX_bv := EX_bv.wr W6
  replace Zz := Nat.le_trans Zz (Keep.of_wr W6).1
  replace Kp := Kp.wr W6 (Or.inl (List.mem_of_getElem? (i := 0) rfl))
  have N6 := Fr.snoc X6 N4 g_a1
  refine own_step (T' := T6) (f' := (mkF m 34 #[.val (.ref a1), .val (.int cx)] [])) (fun t k => st6 t k) ?_
  exact own_retV X6 hx hlk Bd.returns (hb hby d4_34) (by decide) (by decide) (by rw [e6]; exact ⟨rfl, N6, Kp, ⟨E_a1, F_line_a1, F_length_a1, F_linesWritten_a1, V_bv, EX_bv, ne1⟩⟩)

def Q4_1 (Z : State) (a1 bv : Addr) (kv : ClassId) (cx : Int32) (v0 v1 v2 : Value) (h0 : Heap) (n0 : Nat) (v : Option Value) (h : Heap) (L : List Loc) : Prop := v = none ∧ Fr n0 L ∧ Keep h0 h [a1, bv] ∧ OwnTx Z h a1 bv kv 2 [v0, (.int (own_sb cx)), v2]
theorem ef_rm4_1 (m : MethodId) (x0 : Addr) (x1 : Int32) : entryFrame m #[(.ref x0), (.int x1)] 2 = mkF m 0 #[.val (.ref x0), .val (.int x1)] [] := by first | (simp [entryFrame, mkF, argsToLocals, Value.category]; done) | rfl
set_option maxRecDepth 65536 in
set_option maxHeartbeats 40000000 in
theorem rm4_1 (l : Launch) (Z : State) (a0 : Array Value) (hw : ∀ d ∈ tables_1, d.before a0 Z = true) (ws : List Jvm.Cond) (a1 : Addr) (cx : Int32) (h0 : Heap) (n0 : Nat) (Z0 : n0 ≤ h0.size) (v0 v1 v2 : Value) (bv : Addr) (kv : ClassId) (O : OwnTx Z h0 a1 bv kv 1 [v0, v1, v2]) (g_a1 : n0 ≤ a1) (g_bv : n0 ≤ bv) :
    MetFree l (⟨"com/example/lit2/lit2/weave/TexOutput", "out", "(C)V"⟩ : MethodName) (head1 (Jvm.Cond.code (⟨"com/example/lit2/lit2/weave/TexOutput", "out", "(C)V"⟩ : MethodName) prog_135_method_2_code 2 none :: ws) ({ frames := 0, cells := 0, slots := 0, locals := 0 } : Room)) (fun a U => a = #[(.ref a1), (.int cx)] ∧ Z.Warmed39 U.vm ∧ U.heap = h0) (fun _ _ _ _ _ => True) (fun _ U o U' => ∃ v L, o = .returned v ∧ Q4_1 Z a1 bv kv cx v0 v1 v2 h0 n0 v U'.heap L ∧ FrameEnd U o U' L ({ frames := 0, cells := 0, slots := 0, locals := 0 } : Room).cells ({ frames := 0, cells := 0, slots := 0, locals := 0 } : Room).slots) := by
  refine MetFree.of_bodySF (plainFor_of_name pn_4) hisR ?_
  intro p e s m args below meth c s₁ Bd hml0 hP hK
  obtain ⟨rfl, hZ, hh⟩ := hP
  have hx := Bd.exec
  have hby := Bd.bytes
  have hlk : meth.locks = false := BodyLoose.notSynchronized Bd
  have hml : c.maxLocals = 2 := hml0
  have hown : s.vm.findClass "com/example/lit2/lit2/weave/TexOutput" = some m.cls := findClass_of_methodNamed Bd.named
  have hnm := (name_of_methodNamed Bd.named Bd.method).1
  have X0 : Stand p l e ({ frames := 0, cells := 0, slots := 0, locals := 0 } : Room) s m #[(.ref a1), (.int cx)] below meth c s₁ [] 0 0 := Stand.of_body Bd
  have e0 : s₁.heap = h0 := by rw [← hh, Bd.state]; rfl
  have N0 := Fr.nil n0
  have Zz := Z0
  have Kp : Keep h0 h0 [a1, bv] := Keep.refl _ _
  obtain ⟨E_a1, F_line_a1, F_length_a1, F_linesWritten_a1, V_bv, EX_bv, ne1⟩ := O
  show OwnEnds p e below s (Q4_1 Z a1 bv kv cx v0 v1 v2 h0 n0) ({ frames := 0, cells := 0, slots := 0, locals := 0 } : Room).cells ({ frames := 0, cells := 0, slots := 0, locals := 0 } : Room).slots s₁ (entryFrame m #[(.ref a1), (.int cx)] 2)
  refine own_step (T' := s₁) (f' := (mkF m 0 #[.val (.ref a1), .val (.int cx)] [])) (fun t k => castTop (ef_rm4_1 m a1 cx) k) ?_
  refine own_step (T' := s₁) (f' := (mkF m 1 #[.val (.ref a1), .val (.int cx)] [(.ref a1)])) (fun t k => XS.aloadN X0.here hx rfl (hb hby d4_0) rfl rfl k) ?_
  obtain ⟨T1, X1, e1, st1⟩ := getF X0 hx hZ hown (host := "") (Or.inl (hw _ (List.mem_of_getElem? (i := 25) rfl))) Via.refl e0 F_length_a1 (g := (mkF m 1 #[.val (.ref a1), .val (.int cx)] [(.ref a1)])) rfl rfl (hb hby d4_1)
  refine own_step (T' := T1) (f' := (mkF m 4 #[.val (.ref a1), .val (.int cx)] [(.int (1 : Int32))])) (fun t k => st1 t k) ?_
  refine own_step (T' := T1) (f' := (mkF m 6 #[.val (.ref a1), .val (.int cx)] [(.int (80 : Int32)), (.int (1 : Int32))])) (fun t k => XS.bipush X1.here hx rfl (hb hby d4_4) k) ?_
  refine own_step (T' := T1) (f' := (mkF m 13 #[.val (.ref a1), .val (.int cx)] [])) (fun t k => XS.icmpYes X1.here hx rfl (pc0 := 6) (pc' := 13) rfl (hb hby d4_6) rfl (feq (by decide : ¬ ((1 : Int32) = (80 : Int32)))).2 (by decide) (by decide) k) ?_
  refine own_step (T' := T1) (f' := (mkF m 14 #[.val (.ref a1), .val (.int cx)] [(.ref a1)])) (fun t k => XS.aloadN X1.here hx rfl (hb hby d4_13) rfl rfl k) ?_
  obtain ⟨T2, X2, e2, st2⟩ := getF X1 hx hZ hown (host := "") (Or.inl (hw _ (List.mem_of_getElem? (i := 18) rfl))) Via.refl e1 F_line_a1 (g := (mkF m 14 #[.val (.ref a1), .val (.int cx)] [(.ref a1)])) rfl rfl (hb hby d4_14)
  refine own_step (T' := T2) (f' := (mkF m 17 #[.val (.ref a1), .val (.int cx)] [(.ref bv)])) (fun t k => st2 t k) ?_
  refine own_step (T' := T2) (f' := (mkF m 18 #[.val (.ref a1), .val (.int cx)] [(.ref a1), (.ref bv)])) (fun t k => XS.aloadN X2.here hx rfl (hb hby d4_17) rfl rfl k) ?_
  obtain ⟨T3, X3, e3, st3⟩ := getF X2 hx hZ hown (host := "") (Or.inl (hw _ (List.mem_of_getElem? (i := 25) rfl))) Via.refl e2 F_length_a1 (g := (mkF m 18 #[.val (.ref a1), .val (.int cx)] [(.ref a1), (.ref bv)])) rfl rfl (hb hby d4_18)
  refine own_step (T' := T3) (f' := (mkF m 21 #[.val (.ref a1), .val (.int cx)] [(.int (1 : Int32)), (.ref bv)])) (fun t k => st3 t k) ?_
  refine own_step (T' := T3) (f' := (mkF m 22 #[.val (.ref a1), .val (.int cx)] [(.int cx), (.int (1 : Int32)), (.ref bv)])) (fun t k => XS.iloadN X3.here hx rfl (hb hby d4_21) rfl k) ?_
  refine own_step (T' := T3) (f' := (mkF m 23 #[.val (.ref a1), .val (.int cx)] [(.int (cx.toInt8.toInt32)), (.int (1 : Int32)), (.ref bv)])) (fun t k => XS.i2b X3.here hx rfl (hb hby d4_22) rfl k) ?_
  obtain ⟨cl4, Ar4, q4, S4, M4, H4, G4⟩ := V_bv
  have hin4 : ¬ ((1 : Int32) < 0 ∨ cl4.slots.size ≤ ((1 : Int32)).toNatClampNeg) := inb_of S4 ⟨by decide, by decide⟩
  obtain ⟨T4, h4, X4, e4, W4, st4⟩ := stB X3 hx hZ e3 Ar4 (j := (1 : Int32)) hin4 (g := (mkF m 23 #[.val (.ref a1), .val (.int cx)] [(.int (cx.toInt8.toInt32)), (.int (1 : Int32)), (.ref bv)])) rfl rfl (hb hby d4_23)
  have V_bv : Arv Z h4 bv kv .byte (80 : Int32) [v0, (.int (own_sb cx)), v2] (.int (0 : Int32)) := Arv.set Ar4 q4 S4 M4 H4 G4 (fits_nar_byte _) W4 1 rfl (Nat.le_of_ble_eq_true rfl)
  replace E_a1 := E_a1.wr W4
  replace F_line_a1 := F_line_a1.other W4 (Or.inl ne1)
  replace F_length_a1 := F_length_a1.other W4 (Or.inl ne1)
  replace F_linesWritten_a1 := F_linesWritten_a1.other W4 (Or.inl ne1)
  replace EX_bv := EX_bv.wr W4
  replace Zz := Nat.le_trans Zz (Keep.of_wr W4).1
  replace Kp := Kp.wr W4 (Or.inl (List.mem_of_getElem? (i := 1) rfl))
  have N4 := Fr.snoc X4 N0 g_bv
  refine own_step (T' := T4) (f' := (mkF m 24 #[.val (.ref a1), .val (.int cx)] [])) (fun t k => st4 t k) ?_
  refine own_step (T' := T4) (f' := (mkF m 25 #[.val (.ref a1), .val (.int cx)] [(.ref a1)])) (fun t k => XS.aloadN X4.here hx rfl (hb hby d4_24) rfl rfl k) ?_
  refine own_step (T' := T4) (f' := (mkF m 26 #[.val (.ref a1), .val (.int cx)] [(.ref a1), (.ref a1)])) (fun t k => XS.dup X4.here hx rfl (hb hby d4_25) rfl rfl k) ?_
  obtain ⟨T5, X5, e5, st5⟩ := getF X4 hx hZ hown (host := "") (Or.inl (hw _ (List.mem_of_getElem? (i := 25) rfl))) Via.refl e4 F_length_a1 (g := (mkF m 26 #[.val (.ref a1), .val (.int cx)] [(.ref a1), (.ref a1)])) rfl rfl (hb hby d4_26)
  refine own_step (T' := T5) (f' := (mkF m 29 #[.val (.ref a1), .val (.int cx)] [(.int (1 : Int32)), (.ref a1)])) (fun t k => st5 t k) ?_
  refine own_step (T' := T5) (f' := (mkF m 30 #[.val (.ref a1), .val (.int cx)] [(.int (1 : Int32)), (.int (1 : Int32)), (.ref a1)])) (fun t k => XS.iconst X5.here hx rfl (hb hby d4_29) k) ?_
  refine own_step (T' := T5) (f' := (mkF m 31 #[.val (.ref a1), .val (.int cx)] [(.int (2 : Int32)), (.ref a1)])) (fun t k => XS.iadd X5.here hx rfl (hb hby d4_30) rfl k) ?_
  obtain ⟨T6, h6, X6, e6, W6, st6⟩ := putF X5 hx hZ hown (host := "") (Or.inl (hw _ (List.mem_of_getElem? (i := 25) rfl))) Via.refl e5 F_length_a1 E_a1 (Or.inl (hw _ (List.mem_of_getElem? (i := 26) rfl))) (hw _ (List.mem_of_getElem? (i := 6) rfl)) (ty := .int) (by decide) rfl rfl (g := (mkF m 31 #[.val (.ref a1), .val (.int cx)] [(.int (2 : Int32)), (.ref a1)])) rfl rfl (hb hby d4_31)
  replace E_a1 := E_a1.wr W6
  replace F_line_a1 := F_line_a1.other W6 (Or.inr (Jvm.RoadKit.slot_ne (Or.inr (hw _ (List.mem_of_getElem? (i := 19) rfl))) (Or.inl (hw _ (List.mem_of_getElem? (i := 26) rfl))) (by decide) (t := (.array .byte)) (t' := .int) (by decide) (by decide)))
  replace F_length_a1 := F_length_a1.same W6
  replace F_linesWritten_a1 := F_linesWritten_a1.other W6 (Or.inr (Jvm.RoadKit.slot_ne (Or.inl (hw _ (List.mem_of_getElem? (i := 109) rfl))) (Or.inl (hw _ (List.mem_of_getElem? (i := 26) rfl))) (by decide) (t := .int) (t' := .int) (by decide) (by decide)))
  replace V_bv := V_bv.other W6 (Ne.symm ne1)
  replace EX_bv := EX_bv.wr W6
  replace Zz := Nat.le_trans Zz (Keep.of_wr W6).1
  replace Kp := Kp.wr W6 (Or.inl (List.mem_of_getElem? (i := 0) rfl))
  have N6 := Fr.snoc X6 N4 g_a1
  refine own_step (T' := T6) (f' := (mkF m 34 #[.val (.ref a1), .val (.int cx)] [])) (fun t k => st6 t k) ?_
  exact own_retV X6 hx hlk Bd.returns (hb hby d4_34) (by decide) (by decide) (by rw [e6]; exact ⟨rfl, N6, Kp, ⟨E_a1, F_line_a1, F_length_a1, F_linesWritten_a1, V_bv, EX_bv, ne1⟩⟩)

def Q4_2 (Z : State) (a1 bv : Addr) (kv : ClassId) (cx : Int32) (v0 v1 v2 : Value) (h0 : Heap) (n0 : Nat) (v : Option Value) (h : Heap) (L : List Loc) : Prop := v = none ∧ Fr n0 L ∧ Keep h0 h [a1, bv] ∧ OwnTx Z h a1 bv kv 3 [v0, v1, (.int (own_sb cx))]
theorem ef_rm4_2 (m : MethodId) (x0 : Addr) (x1 : Int32) : entryFrame m #[(.ref x0), (.int x1)] 2 = mkF m 0 #[.val (.ref x0), .val (.int x1)] [] := by first | (simp [entryFrame, mkF, argsToLocals, Value.category]; done) | rfl
set_option maxRecDepth 65536 in
set_option maxHeartbeats 40000000 in
theorem rm4_2 (l : Launch) (Z : State) (a0 : Array Value) (hw : ∀ d ∈ tables_1, d.before a0 Z = true) (ws : List Jvm.Cond) (a1 : Addr) (cx : Int32) (h0 : Heap) (n0 : Nat) (Z0 : n0 ≤ h0.size) (v0 v1 v2 : Value) (bv : Addr) (kv : ClassId) (O : OwnTx Z h0 a1 bv kv 2 [v0, v1, v2]) (g_a1 : n0 ≤ a1) (g_bv : n0 ≤ bv) :
    MetFree l (⟨"com/example/lit2/lit2/weave/TexOutput", "out", "(C)V"⟩ : MethodName) (head1 (Jvm.Cond.code (⟨"com/example/lit2/lit2/weave/TexOutput", "out", "(C)V"⟩ : MethodName) prog_135_method_2_code 2 none :: ws) ({ frames := 0, cells := 0, slots := 0, locals := 0 } : Room)) (fun a U => a = #[(.ref a1), (.int cx)] ∧ Z.Warmed39 U.vm ∧ U.heap = h0) (fun _ _ _ _ _ => True) (fun _ U o U' => ∃ v L, o = .returned v ∧ Q4_2 Z a1 bv kv cx v0 v1 v2 h0 n0 v U'.heap L ∧ FrameEnd U o U' L ({ frames := 0, cells := 0, slots := 0, locals := 0 } : Room).cells ({ frames := 0, cells := 0, slots := 0, locals := 0 } : Room).slots) := by
  refine MetFree.of_bodySF (plainFor_of_name pn_4) hisR ?_
  intro p e s m args below meth c s₁ Bd hml0 hP hK
  obtain ⟨rfl, hZ, hh⟩ := hP
  have hx := Bd.exec
  have hby := Bd.bytes
  have hlk : meth.locks = false := BodyLoose.notSynchronized Bd
  have hml : c.maxLocals = 2 := hml0
  have hown : s.vm.findClass "com/example/lit2/lit2/weave/TexOutput" = some m.cls := findClass_of_methodNamed Bd.named
  have hnm := (name_of_methodNamed Bd.named Bd.method).1
  have X0 : Stand p l e ({ frames := 0, cells := 0, slots := 0, locals := 0 } : Room) s m #[(.ref a1), (.int cx)] below meth c s₁ [] 0 0 := Stand.of_body Bd
  have e0 : s₁.heap = h0 := by rw [← hh, Bd.state]; rfl
  have N0 := Fr.nil n0
  have Zz := Z0
  have Kp : Keep h0 h0 [a1, bv] := Keep.refl _ _
  obtain ⟨E_a1, F_line_a1, F_length_a1, F_linesWritten_a1, V_bv, EX_bv, ne1⟩ := O
  show OwnEnds p e below s (Q4_2 Z a1 bv kv cx v0 v1 v2 h0 n0) ({ frames := 0, cells := 0, slots := 0, locals := 0 } : Room).cells ({ frames := 0, cells := 0, slots := 0, locals := 0 } : Room).slots s₁ (entryFrame m #[(.ref a1), (.int cx)] 2)
  refine own_step (T' := s₁) (f' := (mkF m 0 #[.val (.ref a1), .val (.int cx)] [])) (fun t k => castTop (ef_rm4_2 m a1 cx) k) ?_
  refine own_step (T' := s₁) (f' := (mkF m 1 #[.val (.ref a1), .val (.int cx)] [(.ref a1)])) (fun t k => XS.aloadN X0.here hx rfl (hb hby d4_0) rfl rfl k) ?_
  obtain ⟨T1, X1, e1, st1⟩ := getF X0 hx hZ hown (host := "") (Or.inl (hw _ (List.mem_of_getElem? (i := 25) rfl))) Via.refl e0 F_length_a1 (g := (mkF m 1 #[.val (.ref a1), .val (.int cx)] [(.ref a1)])) rfl rfl (hb hby d4_1)
  refine own_step (T' := T1) (f' := (mkF m 4 #[.val (.ref a1), .val (.int cx)] [(.int (2 : Int32))])) (fun t k => st1 t k) ?_
  refine own_step (T' := T1) (f' := (mkF m 6 #[.val (.ref a1), .val (.int cx)] [(.int (80 : Int32)), (.int (2 : Int32))])) (fun t k => XS.bipush X1.here hx rfl (hb hby d4_4) k) ?_
  refine own_step (T' := T1) (f' := (mkF m 13 #[.val (.ref a1), .val (.int cx)] [])) (fun t k => XS.icmpYes X1.here hx rfl (pc0 := 6) (pc' := 13) rfl (hb hby d4_6) rfl (feq (by decide : ¬ ((2 : Int32) = (80 : Int32)))).2 (by decide) (by decide) k) ?_
  refine own_step (T' := T1) (f' := (mkF m 14 #[.val (.ref a1), .val (.int cx)] [(.ref a1)])) (fun t k => XS.aloadN X1.here hx rfl (hb hby d4_13) rfl rfl k) ?_
  obtain ⟨T2, X2, e2, st2⟩ := getF X1 hx hZ hown (host := "") (Or.inl (hw _ (List.mem_of_getElem? (i := 18) rfl))) Via.refl e1 F_line_a1 (g := (mkF m 14 #[.val (.ref a1), .val (.int cx)] [(.ref a1)])) rfl rfl (hb hby d4_14)
  refine own_step (T' := T2) (f' := (mkF m 17 #[.val (.ref a1), .val (.int cx)] [(.ref bv)])) (fun t k => st2 t k) ?_
  refine own_step (T' := T2) (f' := (mkF m 18 #[.val (.ref a1), .val (.int cx)] [(.ref a1), (.ref bv)])) (fun t k => XS.aloadN X2.here hx rfl (hb hby d4_17) rfl rfl k) ?_
  obtain ⟨T3, X3, e3, st3⟩ := getF X2 hx hZ hown (host := "") (Or.inl (hw _ (List.mem_of_getElem? (i := 25) rfl))) Via.refl e2 F_length_a1 (g := (mkF m 18 #[.val (.ref a1), .val (.int cx)] [(.ref a1), (.ref bv)])) rfl rfl (hb hby d4_18)
  refine own_step (T' := T3) (f' := (mkF m 21 #[.val (.ref a1), .val (.int cx)] [(.int (2 : Int32)), (.ref bv)])) (fun t k => st3 t k) ?_
  refine own_step (T' := T3) (f' := (mkF m 22 #[.val (.ref a1), .val (.int cx)] [(.int cx), (.int (2 : Int32)), (.ref bv)])) (fun t k => XS.iloadN X3.here hx rfl (hb hby d4_21) rfl k) ?_
  refine own_step (T' := T3) (f' := (mkF m 23 #[.val (.ref a1), .val (.int cx)] [(.int (cx.toInt8.toInt32)), (.int (2 : Int32)), (.ref bv)])) (fun t k => XS.i2b X3.here hx rfl (hb hby d4_22) rfl k) ?_
  obtain ⟨cl4, Ar4, q4, S4, M4, H4, G4⟩ := V_bv
  have hin4 : ¬ ((2 : Int32) < 0 ∨ cl4.slots.size ≤ ((2 : Int32)).toNatClampNeg) := inb_of S4 ⟨by decide, by decide⟩
  obtain ⟨T4, h4, X4, e4, W4, st4⟩ := stB X3 hx hZ e3 Ar4 (j := (2 : Int32)) hin4 (g := (mkF m 23 #[.val (.ref a1), .val (.int cx)] [(.int (cx.toInt8.toInt32)), (.int (2 : Int32)), (.ref bv)])) rfl rfl (hb hby d4_23)
  have V_bv : Arv Z h4 bv kv .byte (80 : Int32) [v0, v1, (.int (own_sb cx))] (.int (0 : Int32)) := Arv.set Ar4 q4 S4 M4 H4 G4 (fits_nar_byte _) W4 2 rfl (Nat.le_of_ble_eq_true rfl)
  replace E_a1 := E_a1.wr W4
  replace F_line_a1 := F_line_a1.other W4 (Or.inl ne1)
  replace F_length_a1 := F_length_a1.other W4 (Or.inl ne1)
  replace F_linesWritten_a1 := F_linesWritten_a1.other W4 (Or.inl ne1)
  replace EX_bv := EX_bv.wr W4
  replace Zz := Nat.le_trans Zz (Keep.of_wr W4).1
  replace Kp := Kp.wr W4 (Or.inl (List.mem_of_getElem? (i := 1) rfl))
  have N4 := Fr.snoc X4 N0 g_bv
  refine own_step (T' := T4) (f' := (mkF m 24 #[.val (.ref a1), .val (.int cx)] [])) (fun t k => st4 t k) ?_
  refine own_step (T' := T4) (f' := (mkF m 25 #[.val (.ref a1), .val (.int cx)] [(.ref a1)])) (fun t k => XS.aloadN X4.here hx rfl (hb hby d4_24) rfl rfl k) ?_
  refine own_step (T' := T4) (f' := (mkF m 26 #[.val (.ref a1), .val (.int cx)] [(.ref a1), (.ref a1)])) (fun t k => XS.dup X4.here hx rfl (hb hby d4_25) rfl rfl k) ?_
  obtain ⟨T5, X5, e5, st5⟩ := getF X4 hx hZ hown (host := "") (Or.inl (hw _ (List.mem_of_getElem? (i := 25) rfl))) Via.refl e4 F_length_a1 (g := (mkF m 26 #[.val (.ref a1), .val (.int cx)] [(.ref a1), (.ref a1)])) rfl rfl (hb hby d4_26)
  refine own_step (T' := T5) (f' := (mkF m 29 #[.val (.ref a1), .val (.int cx)] [(.int (2 : Int32)), (.ref a1)])) (fun t k => st5 t k) ?_
  refine own_step (T' := T5) (f' := (mkF m 30 #[.val (.ref a1), .val (.int cx)] [(.int (1 : Int32)), (.int (2 : Int32)), (.ref a1)])) (fun t k => XS.iconst X5.here hx rfl (hb hby d4_29) k) ?_
  refine own_step (T' := T5) (f' := (mkF m 31 #[.val (.ref a1), .val (.int cx)] [(.int (3 : Int32)), (.ref a1)])) (fun t k => XS.iadd X5.here hx rfl (hb hby d4_30) rfl k) ?_
  obtain ⟨T6, h6, X6, e6, W6, st6⟩ := putF X5 hx hZ hown (host := "") (Or.inl (hw _ (List.mem_of_getElem? (i := 25) rfl))) Via.refl e5 F_length_a1 E_a1 (Or.inl (hw _ (List.mem_of_getElem? (i := 26) rfl))) (hw _ (List.mem_of_getElem? (i := 6) rfl)) (ty := .int) (by decide) rfl rfl (g := (mkF m 31 #[.val (.ref a1), .val (.int cx)] [(.int (3 : Int32)), (.ref a1)])) rfl rfl (hb hby d4_31)
  replace E_a1 := E_a1.wr W6
  replace F_line_a1 := F_line_a1.other W6 (Or.inr (Jvm.RoadKit.slot_ne (Or.inr (hw _ (List.mem_of_getElem? (i := 19) rfl))) (Or.inl (hw _ (List.mem_of_getElem? (i := 26) rfl))) (by decide) (t := (.array .byte)) (t' := .int) (by decide) (by decide)))
  replace F_length_a1 := F_length_a1.same W6
  replace F_linesWritten_a1 := F_linesWritten_a1.other W6 (Or.inr (Jvm.RoadKit.slot_ne (Or.inl (hw _ (List.mem_of_getElem? (i := 109) rfl))) (Or.inl (hw _ (List.mem_of_getElem? (i := 26) rfl))) (by decide) (t := .int) (t' := .int) (by decide) (by decide)))
  replace V_bv := V_bv.other W6 (Ne.symm ne1)
  replace EX_bv := EX_bv.wr W6
  replace Zz := Nat.le_trans Zz (Keep.of_wr W6).1
  replace Kp := Kp.wr W6 (Or.inl (List.mem_of_getElem? (i := 0) rfl))
  have N6 := Fr.snoc X6 N4 g_a1
  refine own_step (T' := T6) (f' := (mkF m 34 #[.val (.ref a1), .val (.int cx)] [])) (fun t k => st6 t k) ?_
  exact own_retV X6 hx hlk Bd.returns (hb hby d4_34) (by decide) (by decide) (by rw [e6]; exact ⟨rfl, N6, Kp, ⟨E_a1, F_line_a1, F_length_a1, F_linesWritten_a1, V_bv, EX_bv, ne1⟩⟩)

def Q5_0 (Z : State) (a1 bv : Addr) (kv : ClassId) (x0 x1 x2 : Int32) (h0 : Heap) (n0 : Nat) (v : Option Value) (h : Heap) (L : List Loc) : Prop := v = none ∧ Fr n0 L ∧ Keep h0 h [a1, bv] ∧ OwnTx Z h a1 bv kv 0 [(.int x0), (.int x1), (.int x2)]
theorem d5_0 : decode prog_135_method_9_code 0 = .ok (.aload_n 0, 1) := by decide +kernel
theorem d5_1 : decode prog_135_method_9_code 1 = .ok (.getfield 17, 3) := by decide +kernel
theorem d5_4 : decode prog_135_method_9_code 4 = .ok (.iconst 1, 1) := by decide +kernel
theorem d5_5 : decode prog_135_method_9_code 5 = .ok (.if_icmp .le 77, 3) := by decide +kernel
theorem d5_82 : decode prog_135_method_9_code 82 = .ok (.return_, 1) := by decide +kernel
theorem pn_5 : plainName "com/example/lit2/lit2/weave/TexOutput" = true := by first | (simp [plainName, overriddenIn]; done) | decide +kernel
theorem ef_rm5_0 (m : MethodId) (x0 : Addr) : entryFrame m #[(.ref x0)] 1 = mkF m 0 #[.val (.ref x0)] [] := by first | (simp [entryFrame, mkF, argsToLocals, Value.category]; done) | rfl
set_option maxRecDepth 65536 in
set_option maxHeartbeats 40000000 in
theorem rm5_0 (l : Launch) (Z : State) (a0 : Array Value) (hw : ∀ d ∈ tables_1, d.before a0 Z = true) (ws : List Jvm.Cond) (a1 : Addr) (h0 : Heap) (n0 : Nat) (Z0 : n0 ≤ h0.size) (x0 x1 x2 : Int32) (bv : Addr) (kv : ClassId) (O : OwnTx Z h0 a1 bv kv 0 [(.int x0), (.int x1), (.int x2)]) (g_a1 : n0 ≤ a1) (g_bv : n0 ≤ bv) :
    MetFree l (⟨"com/example/lit2/lit2/weave/TexOutput", "dropFinalBreak", "()V"⟩ : MethodName) (head1 (Jvm.Cond.code (⟨"com/example/lit2/lit2/weave/TexOutput", "dropFinalBreak", "()V"⟩ : MethodName) prog_135_method_9_code 1 none :: ws) ({ frames := 0, cells := 0, slots := 0, locals := 0 } : Room)) (fun a U => a = #[(.ref a1)] ∧ Z.Warmed39 U.vm ∧ U.heap = h0) (fun _ _ _ _ _ => True) (fun _ U o U' => ∃ v L, o = .returned v ∧ Q5_0 Z a1 bv kv x0 x1 x2 h0 n0 v U'.heap L ∧ FrameEnd U o U' L ({ frames := 0, cells := 0, slots := 0, locals := 0 } : Room).cells ({ frames := 0, cells := 0, slots := 0, locals := 0 } : Room).slots) := by
  refine MetFree.of_bodySF (plainFor_of_name pn_5) hisR ?_
  intro p e s m args below meth c s₁ Bd hml0 hP hK
  obtain ⟨rfl, hZ, hh⟩ := hP
  have hx := Bd.exec
  have hby := Bd.bytes
  have hlk : meth.locks = false := BodyLoose.notSynchronized Bd
  have hml : c.maxLocals = 1 := hml0
  have hown : s.vm.findClass "com/example/lit2/lit2/weave/TexOutput" = some m.cls := findClass_of_methodNamed Bd.named
  have hnm := (name_of_methodNamed Bd.named Bd.method).1
  have X0 : Stand p l e ({ frames := 0, cells := 0, slots := 0, locals := 0 } : Room) s m #[(.ref a1)] below meth c s₁ [] 0 0 := Stand.of_body Bd
  have e0 : s₁.heap = h0 := by rw [← hh, Bd.state]; rfl
  have N0 := Fr.nil n0
  have Zz := Z0
  have Kp : Keep h0 h0 [a1, bv] := Keep.refl _ _
  obtain ⟨E_a1, F_line_a1, F_length_a1, F_linesWritten_a1, V_bv, EX_bv, ne1⟩ := O
  show OwnEnds p e below s (Q5_0 Z a1 bv kv x0 x1 x2 h0 n0) ({ frames := 0, cells := 0, slots := 0, locals := 0 } : Room).cells ({ frames := 0, cells := 0, slots := 0, locals := 0 } : Room).slots s₁ (entryFrame m #[(.ref a1)] 1)
  refine own_step (T' := s₁) (f' := (mkF m 0 #[.val (.ref a1)] [])) (fun t k => castTop (ef_rm5_0 m a1) k) ?_
  refine own_step (T' := s₁) (f' := (mkF m 1 #[.val (.ref a1)] [(.ref a1)])) (fun t k => XS.aloadN X0.here hx rfl (hb hby d5_0) rfl rfl k) ?_
  obtain ⟨T1, X1, e1, st1⟩ := getF X0 hx hZ hown (host := "") (Or.inl (hw _ (List.mem_of_getElem? (i := 25) rfl))) Via.refl e0 F_length_a1 (g := (mkF m 1 #[.val (.ref a1)] [(.ref a1)])) rfl rfl (hb hby d5_1)
  refine own_step (T' := T1) (f' := (mkF m 4 #[.val (.ref a1)] [(.int (0 : Int32))])) (fun t k => st1 t k) ?_
  refine own_step (T' := T1) (f' := (mkF m 5 #[.val (.ref a1)] [(.int (1 : Int32)), (.int (0 : Int32))])) (fun t k => XS.iconst X1.here hx rfl (hb hby d5_4) k) ?_
  refine own_step (T' := T1) (f' := (mkF m 82 #[.val (.ref a1)] [])) (fun t k => XS.icmpYes X1.here hx rfl (pc0 := 5) (pc' := 82) rfl (hb hby d5_5) rfl (flt (by decide : ¬ ((1 : Int32) < (0 : Int32)))).2.2.2 (by decide) (by decide) k) ?_
  exact own_retV X1 hx hlk Bd.returns (hb hby d5_82) (by decide) (by decide) (by rw [e1]; exact ⟨rfl, N0, Kp, ⟨E_a1, F_line_a1, F_length_a1, F_linesWritten_a1, V_bv, EX_bv, ne1⟩⟩)

def Q5_1 (Z : State) (a1 bv : Addr) (kv : ClassId) (x0 x1 x2 : Int32) (h0 : Heap) (n0 : Nat) (v : Option Value) (h : Heap) (L : List Loc) : Prop := v = none ∧ Fr n0 L ∧ Keep h0 h [a1, bv] ∧ OwnTx Z h a1 bv kv 1 [(.int x0), (.int x1), (.int x2)]
theorem ef_rm5_1 (m : MethodId) (x0 : Addr) : entryFrame m #[(.ref x0)] 1 = mkF m 0 #[.val (.ref x0)] [] := by first | (simp [entryFrame, mkF, argsToLocals, Value.category]; done) | rfl
set_option maxRecDepth 65536 in
set_option maxHeartbeats 40000000 in
theorem rm5_1 (l : Launch) (Z : State) (a0 : Array Value) (hw : ∀ d ∈ tables_1, d.before a0 Z = true) (ws : List Jvm.Cond) (a1 : Addr) (h0 : Heap) (n0 : Nat) (Z0 : n0 ≤ h0.size) (x0 x1 x2 : Int32) (bv : Addr) (kv : ClassId) (O : OwnTx Z h0 a1 bv kv 1 [(.int x0), (.int x1), (.int x2)]) (g_a1 : n0 ≤ a1) (g_bv : n0 ≤ bv) :
    MetFree l (⟨"com/example/lit2/lit2/weave/TexOutput", "dropFinalBreak", "()V"⟩ : MethodName) (head1 (Jvm.Cond.code (⟨"com/example/lit2/lit2/weave/TexOutput", "dropFinalBreak", "()V"⟩ : MethodName) prog_135_method_9_code 1 none :: ws) ({ frames := 0, cells := 0, slots := 0, locals := 0 } : Room)) (fun a U => a = #[(.ref a1)] ∧ Z.Warmed39 U.vm ∧ U.heap = h0) (fun _ _ _ _ _ => True) (fun _ U o U' => ∃ v L, o = .returned v ∧ Q5_1 Z a1 bv kv x0 x1 x2 h0 n0 v U'.heap L ∧ FrameEnd U o U' L ({ frames := 0, cells := 0, slots := 0, locals := 0 } : Room).cells ({ frames := 0, cells := 0, slots := 0, locals := 0 } : Room).slots) := by
  refine MetFree.of_bodySF (plainFor_of_name pn_5) hisR ?_
  intro p e s m args below meth c s₁ Bd hml0 hP hK
  obtain ⟨rfl, hZ, hh⟩ := hP
  have hx := Bd.exec
  have hby := Bd.bytes
  have hlk : meth.locks = false := BodyLoose.notSynchronized Bd
  have hml : c.maxLocals = 1 := hml0
  have hown : s.vm.findClass "com/example/lit2/lit2/weave/TexOutput" = some m.cls := findClass_of_methodNamed Bd.named
  have hnm := (name_of_methodNamed Bd.named Bd.method).1
  have X0 : Stand p l e ({ frames := 0, cells := 0, slots := 0, locals := 0 } : Room) s m #[(.ref a1)] below meth c s₁ [] 0 0 := Stand.of_body Bd
  have e0 : s₁.heap = h0 := by rw [← hh, Bd.state]; rfl
  have N0 := Fr.nil n0
  have Zz := Z0
  have Kp : Keep h0 h0 [a1, bv] := Keep.refl _ _
  obtain ⟨E_a1, F_line_a1, F_length_a1, F_linesWritten_a1, V_bv, EX_bv, ne1⟩ := O
  show OwnEnds p e below s (Q5_1 Z a1 bv kv x0 x1 x2 h0 n0) ({ frames := 0, cells := 0, slots := 0, locals := 0 } : Room).cells ({ frames := 0, cells := 0, slots := 0, locals := 0 } : Room).slots s₁ (entryFrame m #[(.ref a1)] 1)
  refine own_step (T' := s₁) (f' := (mkF m 0 #[.val (.ref a1)] [])) (fun t k => castTop (ef_rm5_1 m a1) k) ?_
  refine own_step (T' := s₁) (f' := (mkF m 1 #[.val (.ref a1)] [(.ref a1)])) (fun t k => XS.aloadN X0.here hx rfl (hb hby d5_0) rfl rfl k) ?_
  obtain ⟨T1, X1, e1, st1⟩ := getF X0 hx hZ hown (host := "") (Or.inl (hw _ (List.mem_of_getElem? (i := 25) rfl))) Via.refl e0 F_length_a1 (g := (mkF m 1 #[.val (.ref a1)] [(.ref a1)])) rfl rfl (hb hby d5_1)
  refine own_step (T' := T1) (f' := (mkF m 4 #[.val (.ref a1)] [(.int (1 : Int32))])) (fun t k => st1 t k) ?_
  refine own_step (T' := T1) (f' := (mkF m 5 #[.val (.ref a1)] [(.int (1 : Int32)), (.int (1 : Int32))])) (fun t k => XS.iconst X1.here hx rfl (hb hby d5_4) k) ?_
  refine own_step (T' := T1) (f' := (mkF m 82 #[.val (.ref a1)] [])) (fun t k => XS.icmpYes X1.here hx rfl (pc0 := 5) (pc' := 82) rfl (hb hby d5_5) rfl (flt (by decide : ¬ ((1 : Int32) < (1 : Int32)))).2.2.2 (by decide) (by decide) k) ?_
  exact own_retV X1 hx hlk Bd.returns (hb hby d5_82) (by decide) (by decide) (by rw [e1]; exact ⟨rfl, N0, Kp, ⟨E_a1, F_line_a1, F_length_a1, F_linesWritten_a1, V_bv, EX_bv, ne1⟩⟩)

def Q5_2 (Z : State) (a1 bv : Addr) (kv : ClassId) (x0 x1 x2 : Int32) (h0 : Heap) (n0 : Nat) (v : Option Value) (h : Heap) (L : List Loc) : Prop := v = none ∧ Fr n0 L ∧ Keep h0 h [a1, bv] ∧ ((x0 = 92 ∧ x1 = 54 ∧ OwnTx Z h a1 bv kv 0 [(.int x0), (.int x1), (.int x2)]) ∨ (x0 = 92 ∧ ¬ x1 = 54 ∧ x1 = 55 ∧ OwnTx Z h a1 bv kv 2 [(.int x0), (.int (89 : Int32)), (.int x2)]) ∨ (¬ x0 = 92 ∧ OwnTx Z h a1 bv kv 2 [(.int x0), (.int x1), (.int x2)]) ∨ (x0 = 92 ∧ ¬ x1 = 54 ∧ ¬ x1 = 55 ∧ OwnTx Z h a1 bv kv 2 [(.int x0), (.int x1), (.int x2)]))
theorem d5_8 : decode prog_135_method_9_code 8 = .ok (.aload_n 0, 1) := by decide +kernel
theorem d5_9 : decode prog_135_method_9_code 9 = .ok (.getfield 14, 3) := by decide +kernel
theorem d5_12 : decode prog_135_method_9_code 12 = .ok (.aload_n 0, 1) := by decide +kernel
theorem d5_13 : decode prog_135_method_9_code 13 = .ok (.getfield 17, 3) := by decide +kernel
theorem d5_16 : decode prog_135_method_9_code 16 = .ok (.iconst 2, 1) := by decide +kernel
theorem d5_17 : decode prog_135_method_9_code 17 = .ok (.isub, 1) := by decide +kernel
theorem d5_18 : decode prog_135_method_9_code 18 = .ok (.baload, 1) := by decide +kernel
theorem d5_19 : decode prog_135_method_9_code 19 = .ok (.bipush 92, 2) := by decide +kernel
theorem d5_21 : decode prog_135_method_9_code 21 = .ok (.if_icmp .ne 61, 3) := by decide +kernel
theorem d5_24 : decode prog_135_method_9_code 24 = .ok (.aload_n 0, 1) := by decide +kernel
theorem d5_25 : decode prog_135_method_9_code 25 = .ok (.getfield 14, 3) := by decide +kernel
theorem d5_28 : decode prog_135_method_9_code 28 = .ok (.aload_n 0, 1) := by decide +kernel
theorem d5_29 : decode prog_135_method_9_code 29 = .ok (.getfield 17, 3) := by decide +kernel
theorem d5_32 : decode prog_135_method_9_code 32 = .ok (.iconst 1, 1) := by decide +kernel
theorem d5_33 : decode prog_135_method_9_code 33 = .ok (.isub, 1) := by decide +kernel
theorem d5_34 : decode prog_135_method_9_code 34 = .ok (.baload, 1) := by decide +kernel
theorem d5_35 : decode prog_135_method_9_code 35 = .ok (.bipush 54, 2) := by decide +kernel
theorem d5_37 : decode prog_135_method_9_code 37 = .ok (.if_icmp .ne 16, 3) := by decide +kernel
theorem d5_40 : decode prog_135_method_9_code 40 = .ok (.aload_n 0, 1) := by decide +kernel
theorem d5_41 : decode prog_135_method_9_code 41 = .ok (.dup, 1) := by decide +kernel
theorem d5_42 : decode prog_135_method_9_code 42 = .ok (.getfield 17, 3) := by decide +kernel
theorem d5_45 : decode prog_135_method_9_code 45 = .ok (.iconst 2, 1) := by decide +kernel
theorem d5_46 : decode prog_135_method_9_code 46 = .ok (.isub, 1) := by decide +kernel
theorem d5_47 : decode prog_135_method_9_code 47 = .ok (.putfield 17, 3) := by decide +kernel
theorem d5_50 : decode prog_135_method_9_code 50 = .ok (.goto 32, 3) := by decide +kernel
theorem d5_53 : decode prog_135_method_9_code 53 = .ok (.aload_n 0, 1) := by decide +kernel
theorem d5_54 : decode prog_135_method_9_code 54 = .ok (.getfield 14, 3) := by decide +kernel
theorem d5_57 : decode prog_135_method_9_code 57 = .ok (.aload_n 0, 1) := by decide +kernel
theorem d5_58 : decode prog_135_method_9_code 58 = .ok (.getfield 17, 3) := by decide +kernel
theorem d5_61 : decode prog_135_method_9_code 61 = .ok (.iconst 1, 1) := by decide +kernel
theorem d5_62 : decode prog_135_method_9_code 62 = .ok (.isub, 1) := by decide +kernel
theorem d5_63 : decode prog_135_method_9_code 63 = .ok (.baload, 1) := by decide +kernel
theorem d5_64 : decode prog_135_method_9_code 64 = .ok (.bipush 55, 2) := by decide +kernel
theorem d5_66 : decode prog_135_method_9_code 66 = .ok (.if_icmp .ne 16, 3) := by decide +kernel
theorem d5_69 : decode prog_135_method_9_code 69 = .ok (.aload_n 0, 1) := by decide +kernel
theorem d5_70 : decode prog_135_method_9_code 70 = .ok (.getfield 14, 3) := by decide +kernel
theorem d5_73 : decode prog_135_method_9_code 73 = .ok (.aload_n 0, 1) := by decide +kernel
theorem d5_74 : decode prog_135_method_9_code 74 = .ok (.getfield 17, 3) := by decide +kernel
theorem d5_77 : decode prog_135_method_9_code 77 = .ok (.iconst 1, 1) := by decide +kernel
theorem d5_78 : decode prog_135_method_9_code 78 = .ok (.isub, 1) := by decide +kernel
theorem d5_79 : decode prog_135_method_9_code 79 = .ok (.bipush 89, 2) := by decide +kernel
theorem d5_81 : decode prog_135_method_9_code 81 = .ok (.bastore, 1) := by decide +kernel
theorem ef_rm5_2 (m : MethodId) (x0 : Addr) : entryFrame m #[(.ref x0)] 1 = mkF m 0 #[.val (.ref x0)] [] := by first | (simp [entryFrame, mkF, argsToLocals, Value.category]; done) | rfl
set_option maxRecDepth 65536 in
set_option maxHeartbeats 40000000 in
theorem rm5_2 (l : Launch) (Z : State) (a0 : Array Value) (hw : ∀ d ∈ tables_1, d.before a0 Z = true) (ws : List Jvm.Cond) (a1 : Addr) (h0 : Heap) (n0 : Nat) (Z0 : n0 ≤ h0.size) (x0 x1 x2 : Int32) (bv : Addr) (kv : ClassId) (O : OwnTx Z h0 a1 bv kv 2 [(.int x0), (.int x1), (.int x2)]) (g_a1 : n0 ≤ a1) (g_bv : n0 ≤ bv) :
    MetFree l (⟨"com/example/lit2/lit2/weave/TexOutput", "dropFinalBreak", "()V"⟩ : MethodName) (head1 (Jvm.Cond.code (⟨"com/example/lit2/lit2/weave/TexOutput", "dropFinalBreak", "()V"⟩ : MethodName) prog_135_method_9_code 1 none :: ws) ({ frames := 0, cells := 0, slots := 0, locals := 0 } : Room)) (fun a U => a = #[(.ref a1)] ∧ Z.Warmed39 U.vm ∧ U.heap = h0) (fun _ _ _ _ _ => True) (fun _ U o U' => ∃ v L, o = .returned v ∧ Q5_2 Z a1 bv kv x0 x1 x2 h0 n0 v U'.heap L ∧ FrameEnd U o U' L ({ frames := 0, cells := 0, slots := 0, locals := 0 } : Room).cells ({ frames := 0, cells := 0, slots := 0, locals := 0 } : Room).slots) := by
  refine MetFree.of_bodySF (plainFor_of_name pn_5) hisR ?_
  intro p e s m args below meth c s₁ Bd hml0 hP hK
  obtain ⟨rfl, hZ, hh⟩ := hP
  have hx := Bd.exec
  have hby := Bd.bytes
  have hlk : meth.locks = false := BodyLoose.notSynchronized Bd
  have hml : c.maxLocals = 1 := hml0
  have hown : s.vm.findClass "com/example/lit2/lit2/weave/TexOutput" = some m.cls := findClass_of_methodNamed Bd.named
  have hnm := (name_of_methodNamed Bd.named Bd.method).1
  have X0 : Stand p l e ({ frames := 0, cells := 0, slots := 0, locals := 0 } : Room) s m #[(.ref a1)] below meth c s₁ [] 0 0 := Stand.of_body Bd
  have e0 : s₁.heap = h0 := by rw [← hh, Bd.state]; rfl
  have N0 := Fr.nil n0
  have Zz := Z0
  have Kp : Keep h0 h0 [a1, bv] := Keep.refl _ _
  obtain ⟨E_a1, F_line_a1, F_length_a1, F_linesWritten_a1, V_bv, EX_bv, ne1⟩ := O
  show OwnEnds p e below s (Q5_2 Z a1 bv kv x0 x1 x2 h0 n0) ({ frames := 0, cells := 0, slots := 0, locals := 0 } : Room).cells ({ frames := 0, cells := 0, slots := 0, locals := 0 } : Room).slots s₁ (entryFrame m #[(.ref a1)] 1)
  refine own_step (T' := s₁) (f' := (mkF m 0 #[.val (.ref a1)] [])) (fun t k => castTop (ef_rm5_2 m a1) k) ?_
  refine own_step (T' := s₁) (f' := (mkF m 1 #[.val (.ref a1)] [(.ref a1)])) (fun t k => XS.aloadN X0.here hx rfl (hb hby d5_0) rfl rfl k) ?_
  obtain ⟨T1, X1, e1, st1⟩ := getF X0 hx hZ hown (host := "") (Or.inl (hw _ (List.mem_of_getElem? (i := 25) rfl))) Via.refl e0 F_length_a1 (g := (mkF m 1 #[.val (.ref a1)] [(.ref a1)])) rfl rfl (hb hby d5_1)
  refine own_step (T' := T1) (f' := (mkF m 4 #[.val (.ref a1)] [(.int (2 : Int32))])) (fun t k => st1 t k) ?_
  refine own_step (T' := T1) (f' := (mkF m 5 #[.val (.ref a1)] [(.int (1 : Int32)), (.int (2 : Int32))])) (fun t k => XS.iconst X1.here hx rfl (hb hby d5_4) k) ?_
  refine own_step (T' := T1) (f' := (mkF m 8 #[.val (.ref a1)] [])) (fun t k => XS.icmpNo X1.here hx rfl (hb hby d5_5) rfl (tlt (by decide : (1 : Int32) < (2 : Int32))).2.2.2 k) ?_
  refine own_step (T' := T1) (f' := (mkF m 9 #[.val (.ref a1)] [(.ref a1)])) (fun t k => XS.aloadN X1.here hx rfl (hb hby d5_8) rfl rfl k) ?_
  obtain ⟨T2, X2, e2, st2⟩ := getF X1 hx hZ hown (host := "") (Or.inl (hw _ (List.mem_of_getElem? (i := 18) rfl))) Via.refl e1 F_line_a1 (g := (mkF m 9 #[.val (.ref a1)] [(.ref a1)])) rfl rfl (hb hby d5_9)
  refine own_step (T' := T2) (f' := (mkF m 12 #[.val (.ref a1)] [(.ref bv)])) (fun t k => st2 t k) ?_
  refine own_step (T' := T2) (f' := (mkF m 13 #[.val (.ref a1)] [(.ref a1), (.ref bv)])) (fun t k => XS.aloadN X2.here hx rfl (hb hby d5_12) rfl rfl k) ?_
  obtain ⟨T3, X3, e3, st3⟩ := getF X2 hx hZ hown (host := "") (Or.inl (hw _ (List.mem_of_getElem? (i := 25) rfl))) Via.refl e2 F_length_a1 (g := (mkF m 13 #[.val (.ref a1)] [(.ref a1), (.ref bv)])) rfl rfl (hb hby d5_13)
  refine own_step (T' := T3) (f' := (mkF m 16 #[.val (.ref a1)] [(.int (2 : Int32)), (.ref bv)])) (fun t k => st3 t k) ?_
  refine own_step (T' := T3) (f' := (mkF m 17 #[.val (.ref a1)] [(.int (2 : Int32)), (.int (2 : Int32)), (.ref bv)])) (fun t k => XS.iconst X3.here hx rfl (hb hby d5_16) k) ?_
  refine own_step (T' := T3) (f' := (mkF m 18 #[.val (.ref a1)] [(.int (0 : Int32)), (.ref bv)])) (fun t k => XS.isub X3.here hx rfl (hb hby d5_17) rfl k) ?_
  obtain ⟨cl4, Ar4, q4, S4, M4, H4, G4⟩ := id V_bv
  have hin4 : ¬ ((0 : Int32) < 0 ∨ cl4.slots.size ≤ ((0 : Int32)).toNatClampNeg) := inb_of S4 ⟨by decide, by decide⟩
  have hat4 : cl4.slots[((0 : Int32)).toNatClampNeg]? = some (.int x0) := own_at hin4 H4 0 rfl rfl
  refine own_step (T' := T3) (f' := (mkF m 19 #[.val (.ref a1)] [(.int x0)])) (fun t k => X3.baloadBytes hx (j := (0 : Int32)) (v := (.int x0)) (by rw [e3]; exact Ar4.1) (State.isArrayOf_alike hZ.alike Ar4.2.1) Ar4.2.2 hin4 hat4 (g := (mkF m 18 #[.val (.ref a1)] [(.int (0 : Int32)), (.ref bv)])) rfl rfl (hb hby d5_18) _ k) ?_
  refine own_step (T' := T3) (f' := (mkF m 21 #[.val (.ref a1)] [(.int (92 : Int32)), (.int x0)])) (fun t k => XS.bipush X3.here hx rfl (hb hby d5_19) k) ?_
  by_cases hc21_5 : x0 = (92 : Int32)
  · skip
    refine own_step (T' := T3) (f' := (mkF m 24 #[.val (.ref a1)] [])) (fun t k => XS.icmpNo X3.here hx rfl (hb hby d5_21) rfl (teq hc21_5).2 k) ?_
    refine own_step (T' := T3) (f' := (mkF m 25 #[.val (.ref a1)] [(.ref a1)])) (fun t k => XS.aloadN X3.here hx rfl (hb hby d5_24) rfl rfl k) ?_
    obtain ⟨T6, X6, e6, st6⟩ := getF X3 hx hZ hown (host := "") (Or.inl (hw _ (List.mem_of_getElem? (i := 18) rfl))) Via.refl e3 F_line_a1 (g := (mkF m 25 #[.val (.ref a1)] [(.ref a1)])) rfl rfl (hb hby d5_25)
    refine own_step (T' := T6) (f' := (mkF m 28 #[.val (.ref a1)] [(.ref bv)])) (fun t k => st6 t k) ?_
    refine own_step (T' := T6) (f' := (mkF m 29 #[.val (.ref a1)] [(.ref a1), (.ref bv)])) (fun t k => XS.aloadN X6.here hx rfl (hb hby d5_28) rfl rfl k) ?_
    obtain ⟨T7, X7, e7, st7⟩ := getF X6 hx hZ hown (host := "") (Or.inl (hw _ (List.mem_of_getElem? (i := 25) rfl))) Via.refl e6 F_length_a1 (g := (mkF m 29 #[.val (.ref a1)] [(.ref a1), (.ref bv)])) rfl rfl (hb hby d5_29)
    refine own_step (T' := T7) (f' := (mkF m 32 #[.val (.ref a1)] [(.int (2 : Int32)), (.ref bv)])) (fun t k => st7 t k) ?_
    refine own_step (T' := T7) (f' := (mkF m 33 #[.val (.ref a1)] [(.int (1 : Int32)), (.int (2 : Int32)), (.ref bv)])) (fun t k => XS.iconst X7.here hx rfl (hb hby d5_32) k) ?_
    refine own_step (T' := T7) (f' := (mkF m 34 #[.val (.ref a1)] [(.int (1 : Int32)), (.ref bv)])) (fun t k => XS.isub X7.here hx rfl (hb hby d5_33) rfl k) ?_
    obtain ⟨cl8, Ar8, q8, S8, M8, H8, G8⟩ := id V_bv
    have hin8 : ¬ ((1 : Int32) < 0 ∨ cl8.slots.size ≤ ((1 : Int32)).toNatClampNeg) := inb_of S8 ⟨by decide, by decide⟩
    have hat8 : cl8.slots[((1 : Int32)).toNatClampNeg]? = some (.int x1) := own_at hin8 H8 1 rfl rfl
    refine own_step (T' := T7) (f' := (mkF m 35 #[.val (.ref a1)] [(.int x1)])) (fun t k => X7.baloadBytes hx (j := (1 : Int32)) (v := (.int x1)) (by rw [e7]; exact Ar8.1) (State.isArrayOf_alike hZ.alike Ar8.2.1) Ar8.2.2 hin8 hat8 (g := (mkF m 34 #[.val (.ref a1)] [(.int (1 : Int32)), (.ref bv)])) rfl rfl (hb hby d5_34) _ k) ?_
    refine own_step (T' := T7) (f' := (mkF m 37 #[.val (.ref a1)] [(.int (54 : Int32)), (.int x1)])) (fun t k => XS.bipush X7.here hx rfl (hb hby d5_35) k) ?_
    by_cases hc37_9 : x1 = (54 : Int32)
    · skip
      refine own_step (T' := T7) (f' := (mkF m 40 #[.val (.ref a1)] [])) (fun t k => XS.icmpNo X7.here hx rfl (hb hby d5_37) rfl (teq hc37_9).2 k) ?_
      refine own_step (T' := T7) (f' := (mkF m 41 #[.val (.ref a1)] [(.ref a1)])) (fun t k => XS.aloadN X7.here hx rfl (hb hby d5_40) rfl rfl k) ?_
      refine own_step (T' := T7) (f' := (mkF m 42 #[.val (.ref a1)] [(.ref a1), (.ref a1)])) (fun t k => XS.dup X7.here hx rfl (hb hby d5_41) rfl rfl k) ?_
      obtain ⟨T10, X10, e10, st10⟩ := getF X7 hx hZ hown (host := "") (Or.inl (hw _ (List.mem_of_getElem? (i := 25) rfl))) Via.refl e7 F_length_a1 (g := (mkF m 42 #[.val (.ref a1)] [(.ref a1), (.ref a1)])) rfl rfl (hb hby d5_42)
      refine own_step (T' := T10) (f' := (mkF m 45 #[.val (.ref a1)] [(.int (2 : Int32)), (.ref a1)])) (fun t k => st10 t k) ?_
      refine own_step (T' := T10) (f' := (mkF m 46 #[.val (.ref a1)] [(.int (2 : Int32)), (.int (2 : Int32)), (.ref a1)])) (fun t k => XS.iconst X10.here hx rfl (hb hby d5_45) k) ?_
      refine own_step (T' := T10) (f' := (mkF m 47 #[.val (.ref a1)] [(.int (0 : Int32)), (.ref a1)])) (fun t k => XS.isub X10.here hx rfl (hb hby d5_46) rfl k) ?_
      obtain ⟨T11, h11, X11, e11, W11, st11⟩ := putF X10 hx hZ hown (host := "") (Or.inl (hw _ (List.mem_of_getElem? (i := 25) rfl))) Via.refl e10 F_length_a1 E_a1 (Or.inl (hw _ (List.mem_of_getElem? (i := 26) rfl))) (hw _ (List.mem_of_getElem? (i := 6) rfl)) (ty := .int) (by decide) rfl rfl (g := (mkF m 47 #[.val (.ref a1)] [(.int (0 : Int32)), (.ref a1)])) rfl rfl (hb hby d5_47)
      replace E_a1 := E_a1.wr W11
      replace F_line_a1 := F_line_a1.other W11 (Or.inr (Jvm.RoadKit.slot_ne (Or.inr (hw _ (List.mem_of_getElem? (i := 19) rfl))) (Or.inl (hw _ (List.mem_of_getElem? (i := 26) rfl))) (by decide) (t := (.array .byte)) (t' := .int) (by decide) (by decide)))
      replace F_length_a1 := F_length_a1.same W11
      replace F_linesWritten_a1 := F_linesWritten_a1.other W11 (Or.inr (Jvm.RoadKit.slot_ne (Or.inl (hw _ (List.mem_of_getElem? (i := 109) rfl))) (Or.inl (hw _ (List.mem_of_getElem? (i := 26) rfl))) (by decide) (t := .int) (t' := .int) (by decide) (by decide)))
      replace V_bv := V_bv.other W11 (Ne.symm ne1)
      replace EX_bv := EX_bv.wr W11
      replace Zz := Nat.le_trans Zz (Keep.of_wr W11).1
      replace Kp := Kp.wr W11 (Or.inl (List.mem_of_getElem? (i := 0) rfl))
      have N11 := Fr.snoc X11 N0 g_a1
      refine own_step (T' := T11) (f' := (mkF m 50 #[.val (.ref a1)] [])) (fun t k => st11 t k) ?_
      refine own_step (T' := T11) (f' := (mkF m 82 #[.val (.ref a1)] [])) (fun t k => XS.goto X11.here hx rfl (pc0 := 50) (pc' := 82) rfl (hb hby d5_50) (by decide) (by decide) k) ?_
      exact own_retV X11 hx hlk Bd.returns (hb hby d5_82) (by decide) (by decide) (by rw [e11]; exact ⟨rfl, N11, Kp, Or.inl ⟨hc21_5, hc37_9, ⟨E_a1, F_line_a1, F_length_a1, F_linesWritten_a1, V_bv, EX_bv, ne1⟩⟩⟩)
    · skip
      refine own_step (T' := T7) (f' := (mkF m 53 #[.val (.ref a1)] [])) (fun t k => XS.icmpYes X7.here hx rfl (pc0 := 37) (pc' := 53) rfl (hb hby d5_37) rfl (feq hc37_9).2 (by decide) (by decide) k) ?_
      refine own_step (T' := T7) (f' := (mkF m 54 #[.val (.ref a1)] [(.ref a1)])) (fun t k => XS.aloadN X7.here hx rfl (hb hby d5_53) rfl rfl k) ?_
      obtain ⟨T12, X12, e12, st12⟩ := getF X7 hx hZ hown (host := "") (Or.inl (hw _ (List.mem_of_getElem? (i := 18) rfl))) Via.refl e7 F_line_a1 (g := (mkF m 54 #[.val (.ref a1)] [(.ref a1)])) rfl rfl (hb hby d5_54)
      refine own_step (T' := T12) (f' := (mkF m 57 #[.val (.ref a1)] [(.ref bv)])) (fun t k => st12 t k) ?_
      refine own_step (T' := T12) (f' := (mkF m 58 #[.val (.ref a1)] [(.ref a1), (.ref bv)])) (fun t k => XS.aloadN X12.here hx rfl (hb hby d5_57) rfl rfl k) ?_
      obtain ⟨T13, X13, e13, st13⟩ := getF X12 hx hZ hown (host := "") (Or.inl (hw _ (List.mem_of_getElem? (i := 25) rfl))) Via.refl e12 F_length_a1 (g := (mkF m 58 #[.val (.ref a1)] [(.ref a1), (.ref bv)])) rfl rfl (hb hby d5_58)
      refine own_step (T' := T13) (f' := (mkF m 61 #[.val (.ref a1)] [(.int (2 : Int32)), (.ref bv)])) (fun t k => st13 t k) ?_
      refine own_step (T' := T13) (f' := (mkF m 62 #[.val (.ref a1)] [(.int (1 : Int32)), (.int (2 : Int32)), (.ref bv)])) (fun t k => XS.iconst X13.here hx rfl (hb hby d5_61) k) ?_
      refine own_step (T' := T13) (f' := (mkF m 63 #[.val (.ref a1)] [(.int (1 : Int32)), (.ref bv)])) (fun t k => XS.isub X13.here hx rfl (hb hby d5_62) rfl k) ?_
      obtain ⟨cl14, Ar14, q14, S14, M14, H14, G14⟩ := id V_bv
      have hin14 : ¬ ((1 : Int32) < 0 ∨ cl14.slots.size ≤ ((1 : Int32)).toNatClampNeg) := inb_of S14 ⟨by decide, by decide⟩
      have hat14 : cl14.slots[((1 : Int32)).toNatClampNeg]? = some (.int x1) := own_at hin14 H14 1 rfl rfl
      refine own_step (T' := T13) (f' := (mkF m 64 #[.val (.ref a1)] [(.int x1)])) (fun t k => X13.baloadBytes hx (j := (1 : Int32)) (v := (.int x1)) (by rw [e13]; exact Ar14.1) (State.isArrayOf_alike hZ.alike Ar14.2.1) Ar14.2.2 hin14 hat14 (g := (mkF m 63 #[.val (.ref a1)] [(.int (1 : Int32)), (.ref bv)])) rfl rfl (hb hby d5_63) _ k) ?_
      refine own_step (T' := T13) (f' := (mkF m 66 #[.val (.ref a1)] [(.int (55 : Int32)), (.int x1)])) (fun t k => XS.bipush X13.here hx rfl (hb hby d5_64) k) ?_
      by_cases hc66_15 : x1 = (55 : Int32)
      · skip
        refine own_step (T' := T13) (f' := (mkF m 69 #[.val (.ref a1)] [])) (fun t k => XS.icmpNo X13.here hx rfl (hb hby d5_66) rfl (teq hc66_15).2 k) ?_
        refine own_step (T' := T13) (f' := (mkF m 70 #[.val (.ref a1)] [(.ref a1)])) (fun t k => XS.aloadN X13.here hx rfl (hb hby d5_69) rfl rfl k) ?_
        obtain ⟨T16, X16, e16, st16⟩ := getF X13 hx hZ hown (host := "") (Or.inl (hw _ (List.mem_of_getElem? (i := 18) rfl))) Via.refl e13 F_line_a1 (g := (mkF m 70 #[.val (.ref a1)] [(.ref a1)])) rfl rfl (hb hby d5_70)
        refine own_step (T' := T16) (f' := (mkF m 73 #[.val (.ref a1)] [(.ref bv)])) (fun t k => st16 t k) ?_
        refine own_step (T' := T16) (f' := (mkF m 74 #[.val (.ref a1)] [(.ref a1), (.ref bv)])) (fun t k => XS.aloadN X16.here hx rfl (hb hby d5_73) rfl rfl k) ?_
        obtain ⟨T17, X17, e17, st17⟩ := getF X16 hx hZ hown (host := "") (Or.inl (hw _ (List.mem_of_getElem? (i := 25) rfl))) Via.refl e16 F_length_a1 (g := (mkF m 74 #[.val (.ref a1)] [(.ref a1), (.ref bv)])) rfl rfl (hb hby d5_74)
        refine own_step (T' := T17) (f' := (mkF m 77 #[.val (.ref a1)] [(.int (2 : Int32)), (.ref bv)])) (fun t k => st17 t k) ?_
        refine own_step (T' := T17) (f' := (mkF m 78 #[.val (.ref a1)] [(.int (1 : Int32)), (.int (2 : Int32)), (.ref bv)])) (fun t k => XS.iconst X17.here hx rfl (hb hby d5_77) k) ?_
        refine own_step (T' := T17) (f' := (mkF m 79 #[.val (.ref a1)] [(.int (1 : Int32)), (.ref bv)])) (fun t k => XS.isub X17.here hx rfl (hb hby d5_78) rfl k) ?_
        refine own_step (T' := T17) (f' := (mkF m 81 #[.val (.ref a1)] [(.int (89 : Int32)), (.int (1 : Int32)), (.ref bv)])) (fun t k => XS.bipush X17.here hx rfl (hb hby d5_79) k) ?_
        obtain ⟨cl18, Ar18, q18, S18, M18, H18, G18⟩ := V_bv
        have hin18 : ¬ ((1 : Int32) < 0 ∨ cl18.slots.size ≤ ((1 : Int32)).toNatClampNeg) := inb_of S18 ⟨by decide, by decide⟩
        obtain ⟨T18, h18, X18, e18, W18, st18⟩ := stB X17 hx hZ e17 Ar18 (j := (1 : Int32)) hin18 (g := (mkF m 81 #[.val (.ref a1)] [(.int (89 : Int32)), (.int (1 : Int32)), (.ref bv)])) rfl rfl (hb hby d5_81)
        have V_bv : Arv Z h18 bv kv .byte (80 : Int32) [(.int x0), (.int (89 : Int32)), (.int x2)] (.int (0 : Int32)) := Arv.set Ar18 q18 S18 M18 H18 G18 (fits_nar_byte _) W18 1 rfl (Nat.le_of_ble_eq_true rfl)
        replace E_a1 := E_a1.wr W18
        replace F_line_a1 := F_line_a1.other W18 (Or.inl ne1)
        replace F_length_a1 := F_length_a1.other W18 (Or.inl ne1)
        replace F_linesWritten_a1 := F_linesWritten_a1.other W18 (Or.inl ne1)
        replace EX_bv := EX_bv.wr W18
        replace Zz := Nat.le_trans Zz (Keep.of_wr W18).1
        replace Kp := Kp.wr W18 (Or.inl (List.mem_of_getElem? (i := 1) rfl))
        have N18 := Fr.snoc X18 N0 g_bv
        refine own_step (T' := T18) (f' := (mkF m 82 #[.val (.ref a1)] [])) (fun t k => st18 t k) ?_
        exact own_retV X18 hx hlk Bd.returns (hb hby d5_82) (by decide) (by decide) (by rw [e18]; exact ⟨rfl, N18, Kp, Or.inr (Or.inl ⟨hc21_5, hc37_9, hc66_15, ⟨E_a1, F_line_a1, F_length_a1, F_linesWritten_a1, V_bv, EX_bv, ne1⟩⟩)⟩)
      · skip
        refine own_step (T' := T13) (f' := (mkF m 82 #[.val (.ref a1)] [])) (fun t k => XS.icmpYes X13.here hx rfl (pc0 := 66) (pc' := 82) rfl (hb hby d5_66) rfl (feq hc66_15).2 (by decide) (by decide) k) ?_
        exact own_retV X13 hx hlk Bd.returns (hb hby d5_82) (by decide) (by decide) (by rw [e13]; exact ⟨rfl, N0, Kp, Or.inr (Or.inr (Or.inr ⟨hc21_5, hc37_9, hc66_15, ⟨E_a1, F_line_a1, F_length_a1, F_linesWritten_a1, V_bv, EX_bv, ne1⟩⟩))⟩)
  · skip
    refine own_step (T' := T3) (f' := (mkF m 82 #[.val (.ref a1)] [])) (fun t k => XS.icmpYes X3.here hx rfl (pc0 := 21) (pc' := 82) rfl (hb hby d5_21) rfl (feq hc21_5).2 (by decide) (by decide) k) ?_
    exact own_retV X3 hx hlk Bd.returns (hb hby d5_82) (by decide) (by decide) (by rw [e3]; exact ⟨rfl, N0, Kp, Or.inr (Or.inr (Or.inl ⟨hc21_5, ⟨E_a1, F_line_a1, F_length_a1, F_linesWritten_a1, V_bv, EX_bv, ne1⟩⟩))⟩)

def Q5_3 (Z : State) (a1 bv : Addr) (kv : ClassId) (x0 x1 x2 : Int32) (h0 : Heap) (n0 : Nat) (v : Option Value) (h : Heap) (L : List Loc) : Prop := v = none ∧ Fr n0 L ∧ Keep h0 h [a1, bv] ∧ ((x1 = 92 ∧ x2 = 54 ∧ OwnTx Z h a1 bv kv 1 [(.int x0), (.int x1), (.int x2)]) ∨ (x1 = 92 ∧ ¬ x2 = 54 ∧ x2 = 55 ∧ OwnTx Z h a1 bv kv 3 [(.int x0), (.int x1), (.int (89 : Int32))]) ∨ (¬ x1 = 92 ∧ OwnTx Z h a1 bv kv 3 [(.int x0), (.int x1), (.int x2)]) ∨ (x1 = 92 ∧ ¬ x2 = 54 ∧ ¬ x2 = 55 ∧ OwnTx Z h a1 bv kv 3 [(.int x0), (.int x1), (.int x2)]))
theorem ef_rm5_3 (m : MethodId) (x0 : Addr) : entryFrame m #[(.ref x0)] 1 = mkF m 0 #[.val (.ref x0)] [] := by first | (simp [entryFrame, mkF, argsToLocals, Value.category]; done) | rfl
set_option maxRecDepth 65536 in
set_option maxHeartbeats 40000000 in
theorem rm5_3 (l : Launch) (Z : State) (a0 : Array Value) (hw : ∀ d ∈ tables_1, d.before a0 Z = true) (ws : List Jvm.Cond) (a1 : Addr) (h0 : Heap) (n0 : Nat) (Z0 : n0 ≤ h0.size) (x0 x1 x2 : Int32) (bv : Addr) (kv : ClassId) (O : OwnTx Z h0 a1 bv kv 3 [(.int x0), (.int x1), (.int x2)]) (g_a1 : n0 ≤ a1) (g_bv : n0 ≤ bv) :
    MetFree l (⟨"com/example/lit2/lit2/weave/TexOutput", "dropFinalBreak", "()V"⟩ : MethodName) (head1 (Jvm.Cond.code (⟨"com/example/lit2/lit2/weave/TexOutput", "dropFinalBreak", "()V"⟩ : MethodName) prog_135_method_9_code 1 none :: ws) ({ frames := 0, cells := 0, slots := 0, locals := 0 } : Room)) (fun a U => a = #[(.ref a1)] ∧ Z.Warmed39 U.vm ∧ U.heap = h0) (fun _ _ _ _ _ => True) (fun _ U o U' => ∃ v L, o = .returned v ∧ Q5_3 Z a1 bv kv x0 x1 x2 h0 n0 v U'.heap L ∧ FrameEnd U o U' L ({ frames := 0, cells := 0, slots := 0, locals := 0 } : Room).cells ({ frames := 0, cells := 0, slots := 0, locals := 0 } : Room).slots) := by
  refine MetFree.of_bodySF (plainFor_of_name pn_5) hisR ?_
  intro p e s m args below meth c s₁ Bd hml0 hP hK
  obtain ⟨rfl, hZ, hh⟩ := hP
  have hx := Bd.exec
  have hby := Bd.bytes
  have hlk : meth.locks = false := BodyLoose.notSynchronized Bd
  have hml : c.maxLocals = 1 := hml0
  have hown : s.vm.findClass "com/example/lit2/lit2/weave/TexOutput" = some m.cls := findClass_of_methodNamed Bd.named
  have hnm := (name_of_methodNamed Bd.named Bd.method).1
  have X0 : Stand p l e ({ frames := 0, cells := 0, slots := 0, locals := 0 } : Room) s m #[(.ref a1)] below meth c s₁ [] 0 0 := Stand.of_body Bd
  have e0 : s₁.heap = h0 := by rw [← hh, Bd.state]; rfl
  have N0 := Fr.nil n0
  have Zz := Z0
  have Kp : Keep h0 h0 [a1, bv] := Keep.refl _ _
  obtain ⟨E_a1, F_line_a1, F_length_a1, F_linesWritten_a1, V_bv, EX_bv, ne1⟩ := O
  show OwnEnds p e below s (Q5_3 Z a1 bv kv x0 x1 x2 h0 n0) ({ frames := 0, cells := 0, slots := 0, locals := 0 } : Room).cells ({ frames := 0, cells := 0, slots := 0, locals := 0 } : Room).slots s₁ (entryFrame m #[(.ref a1)] 1)
  refine own_step (T' := s₁) (f' := (mkF m 0 #[.val (.ref a1)] [])) (fun t k => castTop (ef_rm5_3 m a1) k) ?_
  refine own_step (T' := s₁) (f' := (mkF m 1 #[.val (.ref a1)] [(.ref a1)])) (fun t k => XS.aloadN X0.here hx rfl (hb hby d5_0) rfl rfl k) ?_
  obtain ⟨T1, X1, e1, st1⟩ := getF X0 hx hZ hown (host := "") (Or.inl (hw _ (List.mem_of_getElem? (i := 25) rfl))) Via.refl e0 F_length_a1 (g := (mkF m 1 #[.val (.ref a1)] [(.ref a1)])) rfl rfl (hb hby d5_1)
  refine own_step (T' := T1) (f' := (mkF m 4 #[.val (.ref a1)] [(.int (3 : Int32))])) (fun t k => st1 t k) ?_
  refine own_step (T' := T1) (f' := (mkF m 5 #[.val (.ref a1)] [(.int (1 : Int32)), (.int (3 : Int32))])) (fun t k => XS.iconst X1.here hx rfl (hb hby d5_4) k) ?_
  refine own_step (T' := T1) (f' := (mkF m 8 #[.val (.ref a1)] [])) (fun t k => XS.icmpNo X1.here hx rfl (hb hby d5_5) rfl (tlt (by decide : (1 : Int32) < (3 : Int32))).2.2.2 k) ?_
  refine own_step (T' := T1) (f' := (mkF m 9 #[.val (.ref a1)] [(.ref a1)])) (fun t k => XS.aloadN X1.here hx rfl (hb hby d5_8) rfl rfl k) ?_
  obtain ⟨T2, X2, e2, st2⟩ := getF X1 hx hZ hown (host := "") (Or.inl (hw _ (List.mem_of_getElem? (i := 18) rfl))) Via.refl e1 F_line_a1 (g := (mkF m 9 #[.val (.ref a1)] [(.ref a1)])) rfl rfl (hb hby d5_9)
  refine own_step (T' := T2) (f' := (mkF m 12 #[.val (.ref a1)] [(.ref bv)])) (fun t k => st2 t k) ?_
  refine own_step (T' := T2) (f' := (mkF m 13 #[.val (.ref a1)] [(.ref a1), (.ref bv)])) (fun t k => XS.aloadN X2.here hx rfl (hb hby d5_12) rfl rfl k) ?_
  obtain ⟨T3, X3, e3, st3⟩ := getF X2 hx hZ hown (host := "") (Or.inl (hw _ (List.mem_of_getElem? (i := 25) rfl))) Via.refl e2 F_length_a1 (g := (mkF m 13 #[.val (.ref a1)] [(.ref a1), (.ref bv)])) rfl rfl (hb hby d5_13)
  refine own_step (T' := T3) (f' := (mkF m 16 #[.val (.ref a1)] [(.int (3 : Int32)), (.ref bv)])) (fun t k => st3 t k) ?_
  refine own_step (T' := T3) (f' := (mkF m 17 #[.val (.ref a1)] [(.int (2 : Int32)), (.int (3 : Int32)), (.ref bv)])) (fun t k => XS.iconst X3.here hx rfl (hb hby d5_16) k) ?_
  refine own_step (T' := T3) (f' := (mkF m 18 #[.val (.ref a1)] [(.int (1 : Int32)), (.ref bv)])) (fun t k => XS.isub X3.here hx rfl (hb hby d5_17) rfl k) ?_
  obtain ⟨cl4, Ar4, q4, S4, M4, H4, G4⟩ := id V_bv
  have hin4 : ¬ ((1 : Int32) < 0 ∨ cl4.slots.size ≤ ((1 : Int32)).toNatClampNeg) := inb_of S4 ⟨by decide, by decide⟩
  have hat4 : cl4.slots[((1 : Int32)).toNatClampNeg]? = some (.int x1) := own_at hin4 H4 1 rfl rfl
  refine own_step (T' := T3) (f' := (mkF m 19 #[.val (.ref a1)] [(.int x1)])) (fun t k => X3.baloadBytes hx (j := (1 : Int32)) (v := (.int x1)) (by rw [e3]; exact Ar4.1) (State.isArrayOf_alike hZ.alike Ar4.2.1) Ar4.2.2 hin4 hat4 (g := (mkF m 18 #[.val (.ref a1)] [(.int (1 : Int32)), (.ref bv)])) rfl rfl (hb hby d5_18) _ k) ?_
  refine own_step (T' := T3) (f' := (mkF m 21 #[.val (.ref a1)] [(.int (92 : Int32)), (.int x1)])) (fun t k => XS.bipush X3.here hx rfl (hb hby d5_19) k) ?_
  by_cases hc21_5 : x1 = (92 : Int32)
  · skip
    refine own_step (T' := T3) (f' := (mkF m 24 #[.val (.ref a1)] [])) (fun t k => XS.icmpNo X3.here hx rfl (hb hby d5_21) rfl (teq hc21_5).2 k) ?_
    refine own_step (T' := T3) (f' := (mkF m 25 #[.val (.ref a1)] [(.ref a1)])) (fun t k => XS.aloadN X3.here hx rfl (hb hby d5_24) rfl rfl k) ?_
    obtain ⟨T6, X6, e6, st6⟩ := getF X3 hx hZ hown (host := "") (Or.inl (hw _ (List.mem_of_getElem? (i := 18) rfl))) Via.refl e3 F_line_a1 (g := (mkF m 25 #[.val (.ref a1)] [(.ref a1)])) rfl rfl (hb hby d5_25)
    refine own_step (T' := T6) (f' := (mkF m 28 #[.val (.ref a1)] [(.ref bv)])) (fun t k => st6 t k) ?_
    refine own_step (T' := T6) (f' := (mkF m 29 #[.val (.ref a1)] [(.ref a1), (.ref bv)])) (fun t k => XS.aloadN X6.here hx rfl (hb hby d5_28) rfl rfl k) ?_
    obtain ⟨T7, X7, e7, st7⟩ := getF X6 hx hZ hown (host := "") (Or.inl (hw _ (List.mem_of_getElem? (i := 25) rfl))) Via.refl e6 F_length_a1 (g := (mkF m 29 #[.val (.ref a1)] [(.ref a1), (.ref bv)])) rfl rfl (hb hby d5_29)
    refine own_step (T' := T7) (f' := (mkF m 32 #[.val (.ref a1)] [(.int (3 : Int32)), (.ref bv)])) (fun t k => st7 t k) ?_
    refine own_step (T' := T7) (f' := (mkF m 33 #[.val (.ref a1)] [(.int (1 : Int32)), (.int (3 : Int32)), (.ref bv)])) (fun t k => XS.iconst X7.here hx rfl (hb hby d5_32) k) ?_
    refine own_step (T' := T7) (f' := (mkF m 34 #[.val (.ref a1)] [(.int (2 : Int32)), (.ref bv)])) (fun t k => XS.isub X7.here hx rfl (hb hby d5_33) rfl k) ?_
    obtain ⟨cl8, Ar8, q8, S8, M8, H8, G8⟩ := id V_bv
    have hin8 : ¬ ((2 : Int32) < 0 ∨ cl8.slots.size ≤ ((2 : Int32)).toNatClampNeg) := inb_of S8 ⟨by decide, by decide⟩
    have hat8 : cl8.slots[((2 : Int32)).toNatClampNeg]? = some (.int x2) := own_at hin8 H8 2 rfl rfl
    refine own_step (T' := T7) (f' := (mkF m 35 #[.val (.ref a1)] [(.int x2)])) (fun t k => X7.baloadBytes hx (j := (2 : Int32)) (v := (.int x2)) (by rw [e7]; exact Ar8.1) (State.isArrayOf_alike hZ.alike Ar8.2.1) Ar8.2.2 hin8 hat8 (g := (mkF m 34 #[.val (.ref a1)] [(.int (2 : Int32)), (.ref bv)])) rfl rfl (hb hby d5_34) _ k) ?_
    refine own_step (T' := T7) (f' := (mkF m 37 #[.val (.ref a1)] [(.int (54 : Int32)), (.int x2)])) (fun t k => XS.bipush X7.here hx rfl (hb hby d5_35) k) ?_
    by_cases hc37_9 : x2 = (54 : Int32)
    · skip
      refine own_step (T' := T7) (f' := (mkF m 40 #[.val (.ref a1)] [])) (fun t k => XS.icmpNo X7.here hx rfl (hb hby d5_37) rfl (teq hc37_9).2 k) ?_
      refine own_step (T' := T7) (f' := (mkF m 41 #[.val (.ref a1)] [(.ref a1)])) (fun t k => XS.aloadN X7.here hx rfl (hb hby d5_40) rfl rfl k) ?_
      refine own_step (T' := T7) (f' := (mkF m 42 #[.val (.ref a1)] [(.ref a1), (.ref a1)])) (fun t k => XS.dup X7.here hx rfl (hb hby d5_41) rfl rfl k) ?_
      obtain ⟨T10, X10, e10, st10⟩ := getF X7 hx hZ hown (host := "") (Or.inl (hw _ (List.mem_of_getElem? (i := 25) rfl))) Via.refl e7 F_length_a1 (g := (mkF m 42 #[.val (.ref a1)] [(.ref a1), (.ref a1)])) rfl rfl (hb hby d5_42)
      refine own_step (T' := T10) (f' := (mkF m 45 #[.val (.ref a1)] [(.int (3 : Int32)), (.ref a1)])) (fun t k => st10 t k) ?_
      refine own_step (T' := T10) (f' := (mkF m 46 #[.val (.ref a1)] [(.int (2 : Int32)), (.int (3 : Int32)), (.ref a1)])) (fun t k => XS.iconst X10.here hx rfl (hb hby d5_45) k) ?_
      refine own_step (T' := T10) (f' := (mkF m 47 #[.val (.ref a1)] [(.int (1 : Int32)), (.ref a1)])) (fun t k => XS.isub X10.here hx rfl (hb hby d5_46) rfl k) ?_
      obtain ⟨T11, h11, X11, e11, W11, st11⟩ := putF X10 hx hZ hown (host := "") (Or.inl (hw _ (List.mem_of_getElem? (i := 25) rfl))) Via.refl e10 F_length_a1 E_a1 (Or.inl (hw _ (List.mem_of_getElem? (i := 26) rfl))) (hw _ (List.mem_of_getElem? (i := 6) rfl)) (ty := .int) (by decide) rfl rfl (g := (mkF m 47 #[.val (.ref a1)] [(.int (1 : Int32)), (.ref a1)])) rfl rfl (hb hby d5_47)
      replace E_a1 := E_a1.wr W11
      replace F_line_a1 := F_line_a1.other W11 (Or.inr (Jvm.RoadKit.slot_ne (Or.inr (hw _ (List.mem_of_getElem? (i := 19) rfl))) (Or.inl (hw _ (List.mem_of_getElem? (i := 26) rfl))) (by decide) (t := (.array .byte)) (t' := .int) (by decide) (by decide)))
      replace F_length_a1 := F_length_a1.same W11
      replace F_linesWritten_a1 := F_linesWritten_a1.other W11 (Or.inr (Jvm.RoadKit.slot_ne (Or.inl (hw _ (List.mem_of_getElem? (i := 109) rfl))) (Or.inl (hw _ (List.mem_of_getElem? (i := 26) rfl))) (by decide) (t := .int) (t' := .int) (by decide) (by decide)))
      replace V_bv := V_bv.other W11 (Ne.symm ne1)
      replace EX_bv := EX_bv.wr W11
      replace Zz := Nat.le_trans Zz (Keep.of_wr W11).1
      replace Kp := Kp.wr W11 (Or.inl (List.mem_of_getElem? (i := 0) rfl))
      have N11 := Fr.snoc X11 N0 g_a1
      refine own_step (T' := T11) (f' := (mkF m 50 #[.val (.ref a1)] [])) (fun t k => st11 t k) ?_
      refine own_step (T' := T11) (f' := (mkF m 82 #[.val (.ref a1)] [])) (fun t k => XS.goto X11.here hx rfl (pc0 := 50) (pc' := 82) rfl (hb hby d5_50) (by decide) (by decide) k) ?_
      exact own_retV X11 hx hlk Bd.returns (hb hby d5_82) (by decide) (by decide) (by rw [e11]; exact ⟨rfl, N11, Kp, Or.inl ⟨hc21_5, hc37_9, ⟨E_a1, F_line_a1, F_length_a1, F_linesWritten_a1, V_bv, EX_bv, ne1⟩⟩⟩)
    · skip
      refine own_step (T' := T7) (f' := (mkF m 53 #[.val (.ref a1)] [])) (fun t k => XS.icmpYes X7.here hx rfl (pc0 := 37) (pc' := 53) rfl (hb hby d5_37) rfl (feq hc37_9).2 (by decide) (by decide) k) ?_
      refine own_step (T' := T7) (f' := (mkF m 54 #[.val (.ref a1)] [(.ref a1)])) (fun t k => XS.aloadN X7.here hx rfl (hb hby d5_53) rfl rfl k) ?_
      obtain ⟨T12, X12, e12, st12⟩ := getF X7 hx hZ hown (host := "") (Or.inl (hw _ (List.mem_of_getElem? (i := 18) rfl))) Via.refl e7 F_line_a1 (g := (mkF m 54 #[.val (.ref a1)] [(.ref a1)])) rfl rfl (hb hby d5_54)
      refine own_step (T' := T12) (f' := (mkF m 57 #[.val (.ref a1)] [(.ref bv)])) (fun t k => st12 t k) ?_
      refine own_step (T' := T12) (f' := (mkF m 58 #[.val (.ref a1)] [(.ref a1), (.ref bv)])) (fun t k => XS.aloadN X12.here hx rfl (hb hby d5_57) rfl rfl k) ?_
      obtain ⟨T13, X13, e13, st13⟩ := getF X12 hx hZ hown (host := "") (Or.inl (hw _ (List.mem_of_getElem? (i := 25) rfl))) Via.refl e12 F_length_a1 (g := (mkF m 58 #[.val (.ref a1)] [(.ref a1), (.ref bv)])) rfl rfl (hb hby d5_58)
      refine own_step (T' := T13) (f' := (mkF m 61 #[.val (.ref a1)] [(.int (3 : Int32)), (.ref bv)])) (fun t k => st13 t k) ?_
      refine own_step (T' := T13) (f' := (mkF m 62 #[.val (.ref a1)] [(.int (1 : Int32)), (.int (3 : Int32)), (.ref bv)])) (fun t k => XS.iconst X13.here hx rfl (hb hby d5_61) k) ?_
      refine own_step (T' := T13) (f' := (mkF m 63 #[.val (.ref a1)] [(.int (2 : Int32)), (.ref bv)])) (fun t k => XS.isub X13.here hx rfl (hb hby d5_62) rfl k) ?_
      obtain ⟨cl14, Ar14, q14, S14, M14, H14, G14⟩ := id V_bv
      have hin14 : ¬ ((2 : Int32) < 0 ∨ cl14.slots.size ≤ ((2 : Int32)).toNatClampNeg) := inb_of S14 ⟨by decide, by decide⟩
      have hat14 : cl14.slots[((2 : Int32)).toNatClampNeg]? = some (.int x2) := own_at hin14 H14 2 rfl rfl
      refine own_step (T' := T13) (f' := (mkF m 64 #[.val (.ref a1)] [(.int x2)])) (fun t k => X13.baloadBytes hx (j := (2 : Int32)) (v := (.int x2)) (by rw [e13]; exact Ar14.1) (State.isArrayOf_alike hZ.alike Ar14.2.1) Ar14.2.2 hin14 hat14 (g := (mkF m 63 #[.val (.ref a1)] [(.int (2 : Int32)), (.ref bv)])) rfl rfl (hb hby d5_63) _ k) ?_
      refine own_step (T' := T13) (f' := (mkF m 66 #[.val (.ref a1)] [(.int (55 : Int32)), (.int x2)])) (fun t k => XS.bipush X13.here hx rfl (hb hby d5_64) k) ?_
      by_cases hc66_15 : x2 = (55 : Int32)
      · skip
        refine own_step (T' := T13) (f' := (mkF m 69 #[.val (.ref a1)] [])) (fun t k => XS.icmpNo X13.here hx rfl (hb hby d5_66) rfl (teq hc66_15).2 k) ?_
        refine own_step (T' := T13) (f' := (mkF m 70 #[.val (.ref a1)] [(.ref a1)])) (fun t k => XS.aloadN X13.here hx rfl (hb hby d5_69) rfl rfl k) ?_
        obtain ⟨T16, X16, e16, st16⟩ := getF X13 hx hZ hown (host := "") (Or.inl (hw _ (List.mem_of_getElem? (i := 18) rfl))) Via.refl e13 F_line_a1 (g := (mkF m 70 #[.val (.ref a1)] [(.ref a1)])) rfl rfl (hb hby d5_70)
        refine own_step (T' := T16) (f' := (mkF m 73 #[.val (.ref a1)] [(.ref bv)])) (fun t k => st16 t k) ?_
        refine own_step (T' := T16) (f' := (mkF m 74 #[.val (.ref a1)] [(.ref a1), (.ref bv)])) (fun t k => XS.aloadN X16.here hx rfl (hb hby d5_73) rfl rfl k) ?_
        obtain ⟨T17, X17, e17, st17⟩ := getF X16 hx hZ hown (host := "") (Or.inl (hw _ (List.mem_of_getElem? (i := 25) rfl))) Via.refl e16 F_length_a1 (g := (mkF m 74 #[.val (.ref a1)] [(.ref a1), (.ref bv)])) rfl rfl (hb hby d5_74)
        refine own_step (T' := T17) (f' := (mkF m 77 #[.val (.ref a1)] [(.int (3 : Int32)), (.ref bv)])) (fun t k => st17 t k) ?_
        refine own_step (T' := T17) (f' := (mkF m 78 #[.val (.ref a1)] [(.int (1 : Int32)), (.int (3 : Int32)), (.ref bv)])) (fun t k => XS.iconst X17.here hx rfl (hb hby d5_77) k) ?_
        refine own_step (T' := T17) (f' := (mkF m 79 #[.val (.ref a1)] [(.int (2 : Int32)), (.ref bv)])) (fun t k => XS.isub X17.here hx rfl (hb hby d5_78) rfl k) ?_
        refine own_step (T' := T17) (f' := (mkF m 81 #[.val (.ref a1)] [(.int (89 : Int32)), (.int (2 : Int32)), (.ref bv)])) (fun t k => XS.bipush X17.here hx rfl (hb hby d5_79) k) ?_
        obtain ⟨cl18, Ar18, q18, S18, M18, H18, G18⟩ := V_bv
        have hin18 : ¬ ((2 : Int32) < 0 ∨ cl18.slots.size ≤ ((2 : Int32)).toNatClampNeg) := inb_of S18 ⟨by decide, by decide⟩
        obtain ⟨T18, h18, X18, e18, W18, st18⟩ := stB X17 hx hZ e17 Ar18 (j := (2 : Int32)) hin18 (g := (mkF m 81 #[.val (.ref a1)] [(.int (89 : Int32)), (.int (2 : Int32)), (.ref bv)])) rfl rfl (hb hby d5_81)
        have V_bv : Arv Z h18 bv kv .byte (80 : Int32) [(.int x0), (.int x1), (.int (89 : Int32))] (.int (0 : Int32)) := Arv.set Ar18 q18 S18 M18 H18 G18 (fits_nar_byte _) W18 2 rfl (Nat.le_of_ble_eq_true rfl)
        replace E_a1 := E_a1.wr W18
        replace F_line_a1 := F_line_a1.other W18 (Or.inl ne1)
        replace F_length_a1 := F_length_a1.other W18 (Or.inl ne1)
        replace F_linesWritten_a1 := F_linesWritten_a1.other W18 (Or.inl ne1)
        replace EX_bv := EX_bv.wr W18
        replace Zz := Nat.le_trans Zz (Keep.of_wr W18).1
        replace Kp := Kp.wr W18 (Or.inl (List.mem_of_getElem? (i := 1) rfl))
        have N18 := Fr.snoc X18 N0 g_bv
        refine own_step (T' := T18) (f' := (mkF m 82 #[.val (.ref a1)] [])) (fun t k => st18 t k) ?_
        exact own_retV X18 hx hlk Bd.returns (hb hby d5_82) (by decide) (by decide) (by rw [e18]; exact ⟨rfl, N18, Kp, Or.inr (Or.inl ⟨hc21_5, hc37_9, hc66_15, ⟨E_a1, F_line_a1, F_length_a1, F_linesWritten_a1, V_bv, EX_bv, ne1⟩⟩)⟩)
      · skip
        refine own_step (T' := T13) (f' := (mkF m 82 #[.val (.ref a1)] [])) (fun t k => XS.icmpYes X13.here hx rfl (pc0 := 66) (pc' := 82) rfl (hb hby d5_66) rfl (feq hc66_15).2 (by decide) (by decide) k) ?_
        exact own_retV X13 hx hlk Bd.returns (hb hby d5_82) (by decide) (by decide) (by rw [e13]; exact ⟨rfl, N0, Kp, Or.inr (Or.inr (Or.inr ⟨hc21_5, hc37_9, hc66_15, ⟨E_a1, F_line_a1, F_length_a1, F_linesWritten_a1, V_bv, EX_bv, ne1⟩⟩))⟩)
  · skip
    refine own_step (T' := T3) (f' := (mkF m 82 #[.val (.ref a1)] [])) (fun t k => XS.icmpYes X3.here hx rfl (pc0 := 21) (pc' := 82) rfl (hb hby d5_21) rfl (feq hc21_5).2 (by decide) (by decide) k) ?_
    exact own_retV X3 hx hlk Bd.returns (hb hby d5_82) (by decide) (by decide) (by rw [e3]; exact ⟨rfl, N0, Kp, Or.inr (Or.inr (Or.inl ⟨hc21_5, ⟨E_a1, F_line_a1, F_length_a1, F_linesWritten_a1, V_bv, EX_bv, ne1⟩⟩))⟩)

theorem d6_0 : decode prog_135_method_12_code 0 = .ok (.aload_n 0, 1) := by decide +kernel
theorem d6_1 : decode prog_135_method_12_code 1 = .ok (.getfield 17, 3) := by decide +kernel
theorem d6_4 : decode prog_135_method_12_code 4 = .ok (.ireturn, 1) := by decide +kernel
theorem pn_6 : plainName "com/example/lit2/lit2/weave/TexOutput" = true := by first | (simp [plainName, overriddenIn]; done) | decide +kernel
theorem ef_rm6 (m : MethodId) (x0 : Addr) : entryFrame m #[(.ref x0)] 1 = mkF m 0 #[.val (.ref x0)] [] := by first | (simp [entryFrame, mkF, argsToLocals, Value.category]; done) | rfl
set_option maxRecDepth 65536 in
set_option maxHeartbeats 40000000 in
theorem rm6 (l : Launch) (Z : State) (a0 : Array Value) (hw : ∀ d ∈ tables_1, d.before a0 Z = true) (ws : List Jvm.Cond) (a1 : Addr) (h0 : Heap) (n0 : Nat) (Z0 : n0 ≤ h0.size) (z : Int32) (F : Fld Z h0 a1 "com/example/lit2/lit2/weave/TexOutput" "length" "I" (.int z)) :
    MetFree l (⟨"com/example/lit2/lit2/weave/TexOutput", "lineLength", "()I"⟩ : MethodName) (head1 (Jvm.Cond.code (⟨"com/example/lit2/lit2/weave/TexOutput", "lineLength", "()I"⟩ : MethodName) prog_135_method_12_code 1 (some .int) :: ws) ({ frames := 0, cells := 0, slots := 0, locals := 0 } : Room)) (fun a U => a = #[(.ref a1)] ∧ Z.Warmed39 U.vm ∧ U.heap = h0) (fun _ _ _ _ _ => True) (fun _ U o U' => ∃ v L, o = .returned v ∧ QI z h0 n0 v U'.heap L ∧ FrameEnd U o U' L ({ frames := 0, cells := 0, slots := 0, locals := 0 } : Room).cells ({ frames := 0, cells := 0, slots := 0, locals := 0 } : Room).slots) := by
  refine MetFree.of_bodySF (plainFor_of_name pn_6) hisR ?_
  intro p e s m args below meth c s₁ Bd hml0 hP hK
  obtain ⟨rfl, hZ, hh⟩ := hP
  have hx := Bd.exec
  have hby := Bd.bytes
  have hlk : meth.locks = false := BodyLoose.notSynchronized Bd
  have hml : c.maxLocals = 1 := hml0
  have hown : s.vm.findClass "com/example/lit2/lit2/weave/TexOutput" = some m.cls := findClass_of_methodNamed Bd.named
  have hnm := (name_of_methodNamed Bd.named Bd.method).1
  have X0 : Stand p l e ({ frames := 0, cells := 0, slots := 0, locals := 0 } : Room) s m #[(.ref a1)] below meth c s₁ [] 0 0 := Stand.of_body Bd
  have e0 : s₁.heap = h0 := by rw [← hh, Bd.state]; rfl
  have N0 := Fr.nil n0
  show OwnEnds p e below s (QI z h0 n0) ({ frames := 0, cells := 0, slots := 0, locals := 0 } : Room).cells ({ frames := 0, cells := 0, slots := 0, locals := 0 } : Room).slots s₁ (entryFrame m #[(.ref a1)] 1)
  refine own_step (T' := s₁) (f' := (mkF m 0 #[.val (.ref a1)] [])) (fun t k => castTop (ef_rm6 m a1) k) ?_
  refine own_step (T' := s₁) (f' := (mkF m 1 #[.val (.ref a1)] [(.ref a1)])) (fun t k => XS.aloadN X0.here hx rfl (hb hby d6_0) rfl rfl k) ?_
  obtain ⟨T1, X1, e1, st1⟩ := getF X0 hx hZ hown (host := "") (Or.inl (hw _ (List.mem_of_getElem? (i := 25) rfl))) Via.refl e0 F (g := (mkF m 1 #[.val (.ref a1)] [(.ref a1)])) rfl rfl (hb hby d6_1)
  refine own_step (T' := T1) (f' := (mkF m 4 #[.val (.ref a1)] [(.int z)])) (fun t k => st1 t k) ?_
  exact own_retO X1 hx hlk Bd.returns rfl (Or.inl ⟨rfl, Or.inl rfl, _, rfl⟩) (hb hby d6_4) (by decide) (by decide) ⟨rfl, N0, e1⟩

theorem d21_0 : decode prog_135_method_11_code 0 = .ok (.aload_n 0, 1) := by decide +kernel
theorem d21_1 : decode prog_135_method_11_code 1 = .ok (.getfield 62, 3) := by decide +kernel
theorem d21_4 : decode prog_135_method_11_code 4 = .ok (.ireturn, 1) := by decide +kernel
theorem pn_21 : plainName "com/example/lit2/lit2/weave/TexOutput" = true := by first | (simp [plainName, overriddenIn]; done) | decide +kernel
theorem ef_rm21 (m : MethodId) (x0 : Addr) : entryFrame m #[(.ref x0)] 1 = mkF m 0 #[.val (.ref x0)] [] := by first | (simp [entryFrame, mkF, argsToLocals, Value.category]; done) | rfl
set_option maxRecDepth 65536 in
set_option maxHeartbeats 40000000 in
theorem rm21 (l : Launch) (Z : State) (a0 : Array Value) (hw : ∀ d ∈ tables_1, d.before a0 Z = true) (ws : List Jvm.Cond) (a1 : Addr) (h0 : Heap) (n0 : Nat) (Z0 : n0 ≤ h0.size) (F : Fld Z h0 a1 "com/example/lit2/lit2/weave/TexOutput" "linesWritten" "I" (.int (0 : Int32))) :
    MetFree l (⟨"com/example/lit2/lit2/weave/TexOutput", "linesWritten", "()I"⟩ : MethodName) (head1 (Jvm.Cond.code (⟨"com/example/lit2/lit2/weave/TexOutput", "linesWritten", "()I"⟩ : MethodName) prog_135_method_11_code 1 (some .int) :: ws) ({ frames := 0, cells := 0, slots := 0, locals := 0 } : Room)) (fun a U => a = #[(.ref a1)] ∧ Z.Warmed39 U.vm ∧ U.heap = h0) (fun _ _ _ _ _ => True) (fun _ U o U' => ∃ v L, o = .returned v ∧ QI 0 h0 n0 v U'.heap L ∧ FrameEnd U o U' L ({ frames := 0, cells := 0, slots := 0, locals := 0 } : Room).cells ({ frames := 0, cells := 0, slots := 0, locals := 0 } : Room).slots) := by
  refine MetFree.of_bodySF (plainFor_of_name pn_21) hisR ?_
  intro p e s m args below meth c s₁ Bd hml0 hP hK
  obtain ⟨rfl, hZ, hh⟩ := hP
  have hx := Bd.exec
  have hby := Bd.bytes
  have hlk : meth.locks = false := BodyLoose.notSynchronized Bd
  have hml : c.maxLocals = 1 := hml0
  have hown : s.vm.findClass "com/example/lit2/lit2/weave/TexOutput" = some m.cls := findClass_of_methodNamed Bd.named
  have hnm := (name_of_methodNamed Bd.named Bd.method).1
  have X0 : Stand p l e ({ frames := 0, cells := 0, slots := 0, locals := 0 } : Room) s m #[(.ref a1)] below meth c s₁ [] 0 0 := Stand.of_body Bd
  have e0 : s₁.heap = h0 := by rw [← hh, Bd.state]; rfl
  have N0 := Fr.nil n0
  show OwnEnds p e below s (QI 0 h0 n0) ({ frames := 0, cells := 0, slots := 0, locals := 0 } : Room).cells ({ frames := 0, cells := 0, slots := 0, locals := 0 } : Room).slots s₁ (entryFrame m #[(.ref a1)] 1)
  refine own_step (T' := s₁) (f' := (mkF m 0 #[.val (.ref a1)] [])) (fun t k => castTop (ef_rm21 m a1) k) ?_
  refine own_step (T' := s₁) (f' := (mkF m 1 #[.val (.ref a1)] [(.ref a1)])) (fun t k => XS.aloadN X0.here hx rfl (hb hby d21_0) rfl rfl k) ?_
  obtain ⟨T1, X1, e1, st1⟩ := getF X0 hx hZ hown (host := "") (Or.inl (hw _ (List.mem_of_getElem? (i := 108) rfl))) Via.refl e0 F (g := (mkF m 1 #[.val (.ref a1)] [(.ref a1)])) rfl rfl (hb hby d21_1)
  refine own_step (T' := T1) (f' := (mkF m 4 #[.val (.ref a1)] [(.int (0 : Int32))])) (fun t k => st1 t k) ?_
  exact own_retO X1 hx hlk Bd.returns rfl (Or.inl ⟨rfl, Or.inl rfl, _, rfl⟩) (hb hby d21_4) (by decide) (by decide) ⟨rfl, N0, e1⟩

theorem d15_0 : decode jdk_42_method_152_code 0 = .ok (.getstatic 38, 3) := by decide +kernel
theorem d15_3 : decode jdk_42_method_152_code 3 = .ok (.ifCond .eq 10, 3) := by decide +kernel
theorem d15_6 : decode jdk_42_method_152_code 6 = .ok (.aload_n 0, 1) := by decide +kernel
theorem d15_7 : decode jdk_42_method_152_code 7 = .ok (.getfield 15, 3) := by decide +kernel
theorem d15_10 : decode jdk_42_method_152_code 10 = .ok (.goto 4, 3) := by decide +kernel
theorem d15_14 : decode jdk_42_method_152_code 14 = .ok (.ireturn, 1) := by decide +kernel
theorem pn_15 : plainName "java/lang/String" = true := by first | (simp [plainName, overriddenIn]; done) | decide +kernel
theorem ef_rm15 (m : MethodId) (x0 : Addr) : entryFrame m #[(.ref x0)] 1 = mkF m 0 #[.val (.ref x0)] [] := by first | (simp [entryFrame, mkF, argsToLocals, Value.category]; done) | rfl
set_option maxRecDepth 65536 in
set_option maxHeartbeats 40000000 in
theorem rm15 (l : Launch) (Z : State) (a0 : Array Value) (hw : ∀ d ∈ tables_1, d.before a0 Z = true) (ws : List Jvm.Cond) (a1 : Addr) (h0 : Heap) (n0 : Nat) (Z0 : n0 ≤ h0.size) (F_c : Fld Z h0 a1 "java/lang/String" "coder" "B" (.int (0 : Int32))) (cs : Int32) (S_CS : Sta Z h0 "java/lang/String" "COMPACT_STRINGS" "Z" (.int cs)) (hcs : ¬ cs = (0 : Int32)) :
    MetFree l (⟨"java/lang/String", "coder", "()B"⟩ : MethodName) (head1 (Jvm.Cond.code (⟨"java/lang/String", "coder", "()B"⟩ : MethodName) jdk_42_method_152_code 1 (some .byte) :: ws) ({ frames := 0, cells := 0, slots := 0, locals := 0 } : Room)) (fun a U => a = #[(.ref a1)] ∧ Z.Warmed39 U.vm ∧ U.heap = h0) (fun _ _ _ _ _ => True) (fun _ U o U' => ∃ v L, o = .returned v ∧ QI 0 h0 n0 v U'.heap L ∧ FrameEnd U o U' L ({ frames := 0, cells := 0, slots := 0, locals := 0 } : Room).cells ({ frames := 0, cells := 0, slots := 0, locals := 0 } : Room).slots) := by
  refine MetFree.of_bodySF (plainFor_of_name pn_15) hisR ?_
  intro p e s m args below meth c s₁ Bd hml0 hP hK
  obtain ⟨rfl, hZ, hh⟩ := hP
  have hx := Bd.exec
  have hby := Bd.bytes
  have hlk : meth.locks = false := BodyLoose.notSynchronized Bd
  have hml : c.maxLocals = 1 := hml0
  have hown : s.vm.findClass "java/lang/String" = some m.cls := findClass_of_methodNamed Bd.named
  have hnm := (name_of_methodNamed Bd.named Bd.method).1
  have X0 : Stand p l e ({ frames := 0, cells := 0, slots := 0, locals := 0 } : Room) s m #[(.ref a1)] below meth c s₁ [] 0 0 := Stand.of_body Bd
  have e0 : s₁.heap = h0 := by rw [← hh, Bd.state]; rfl
  have N0 := Fr.nil n0
  show OwnEnds p e below s (QI 0 h0 n0) ({ frames := 0, cells := 0, slots := 0, locals := 0 } : Room).cells ({ frames := 0, cells := 0, slots := 0, locals := 0 } : Room).slots s₁ (entryFrame m #[(.ref a1)] 1)
  refine own_step (T' := s₁) (f' := (mkF m 0 #[.val (.ref a1)] [])) (fun t k => castTop (ef_rm15 m a1) k) ?_
  obtain ⟨T1, X1, e1, st1⟩ := getS2 X0 hx hZ hown (host := "") (Or.inl (hw _ (List.mem_of_getElem? (i := 51) rfl))) Via.refl e0 S_CS (g := (mkF m 0 #[.val (.ref a1)] [])) rfl (hb hby d15_0)
  refine own_step (T' := T1) (f' := (mkF m 3 #[.val (.ref a1)] [(.int cs)])) (fun t k => st1 t k) ?_
  refine own_step (T' := T1) (f' := (mkF m 6 #[.val (.ref a1)] [])) (fun t k => XS.ifNo X1.here hx rfl (hb hby d15_3) rfl ((if0 _ _).trans (feq hcs).1) k) ?_
  refine own_step (T' := T1) (f' := (mkF m 7 #[.val (.ref a1)] [(.ref a1)])) (fun t k => XS.aloadN X1.here hx rfl (hb hby d15_6) rfl rfl k) ?_
  obtain ⟨T2, X2, e2, st2⟩ := getF X1 hx hZ hown (host := "") (Or.inl (hw _ (List.mem_of_getElem? (i := 62) rfl))) Via.refl e1 F_c (g := (mkF m 7 #[.val (.ref a1)] [(.ref a1)])) rfl rfl (hb hby d15_7)
  refine own_step (T' := T2) (f' := (mkF m 10 #[.val (.ref a1)] [(.int (0 : Int32))])) (fun t k => st2 t k) ?_
  refine own_step (T' := T2) (f' := (mkF m 14 #[.val (.ref a1)] [(.int (0 : Int32))])) (fun t k => XS.goto X2.here hx rfl (pc0 := 10) (pc' := 14) rfl (hb hby d15_10) (by decide) (by decide) k) ?_
  exact own_retN X2 hx hlk (t := .byte) Bd.returns (by simp) (hb hby d15_14) (by decide) (by decide) ⟨rfl, N0, e2⟩

theorem d17_0 : decode jdk_42_method_154_code 0 = .ok (.getstatic 38, 3) := by decide +kernel
theorem d17_3 : decode jdk_42_method_154_code 3 = .ok (.ifCond .eq 14, 3) := by decide +kernel
theorem d17_6 : decode jdk_42_method_154_code 6 = .ok (.aload_n 0, 1) := by decide +kernel
theorem d17_7 : decode jdk_42_method_154_code 7 = .ok (.getfield 15, 3) := by decide +kernel
theorem d17_10 : decode jdk_42_method_154_code 10 = .ok (.ifCond .ne 7, 3) := by decide +kernel
theorem d17_13 : decode jdk_42_method_154_code 13 = .ok (.iconst 1, 1) := by decide +kernel
theorem d17_14 : decode jdk_42_method_154_code 14 = .ok (.goto 4, 3) := by decide +kernel
theorem d17_18 : decode jdk_42_method_154_code 18 = .ok (.ireturn, 1) := by decide +kernel
theorem pn_17 : plainName "java/lang/String" = true := by first | (simp [plainName, overriddenIn]; done) | decide +kernel
theorem ef_rm17 (m : MethodId) (x0 : Addr) : entryFrame m #[(.ref x0)] 1 = mkF m 0 #[.val (.ref x0)] [] := by first | (simp [entryFrame, mkF, argsToLocals, Value.category]; done) | rfl
set_option maxRecDepth 65536 in
set_option maxHeartbeats 40000000 in
theorem rm17 (l : Launch) (Z : State) (a0 : Array Value) (hw : ∀ d ∈ tables_1, d.before a0 Z = true) (ws : List Jvm.Cond) (a1 : Addr) (h0 : Heap) (n0 : Nat) (Z0 : n0 ≤ h0.size) (F_c : Fld Z h0 a1 "java/lang/String" "coder" "B" (.int (0 : Int32))) (cs : Int32) (S_CS : Sta Z h0 "java/lang/String" "COMPACT_STRINGS" "Z" (.int cs)) (hcs : ¬ cs = (0 : Int32)) :
    MetFree l (⟨"java/lang/String", "isLatin1", "()Z"⟩ : MethodName) (head1 (Jvm.Cond.code (⟨"java/lang/String", "isLatin1", "()Z"⟩ : MethodName) jdk_42_method_154_code 1 (some .boolean) :: ws) ({ frames := 0, cells := 0, slots := 0, locals := 0 } : Room)) (fun a U => a = #[(.ref a1)] ∧ Z.Warmed39 U.vm ∧ U.heap = h0) (fun _ _ _ _ _ => True) (fun _ U o U' => ∃ v L, o = .returned v ∧ QI 1 h0 n0 v U'.heap L ∧ FrameEnd U o U' L ({ frames := 0, cells := 0, slots := 0, locals := 0 } : Room).cells ({ frames := 0, cells := 0, slots := 0, locals := 0 } : Room).slots) := by
  refine MetFree.of_bodySF (plainFor_of_name pn_17) hisR ?_
  intro p e s m args below meth c s₁ Bd hml0 hP hK
  obtain ⟨rfl, hZ, hh⟩ := hP
  have hx := Bd.exec
  have hby := Bd.bytes
  have hlk : meth.locks = false := BodyLoose.notSynchronized Bd
  have hml : c.maxLocals = 1 := hml0
  have hown : s.vm.findClass "java/lang/String" = some m.cls := findClass_of_methodNamed Bd.named
  have hnm := (name_of_methodNamed Bd.named Bd.method).1
  have X0 : Stand p l e ({ frames := 0, cells := 0, slots := 0, locals := 0 } : Room) s m #[(.ref a1)] below meth c s₁ [] 0 0 := Stand.of_body Bd
  have e0 : s₁.heap = h0 := by rw [← hh, Bd.state]; rfl
  have N0 := Fr.nil n0
  show OwnEnds p e below s (QI 1 h0 n0) ({ frames := 0, cells := 0, slots := 0, locals := 0 } : Room).cells ({ frames := 0, cells := 0, slots := 0, locals := 0 } : Room).slots s₁ (entryFrame m #[(.ref a1)] 1)
  refine own_step (T' := s₁) (f' := (mkF m 0 #[.val (.ref a1)] [])) (fun t k => castTop (ef_rm17 m a1) k) ?_
  obtain ⟨T1, X1, e1, st1⟩ := getS2 X0 hx hZ hown (host := "") (Or.inl (hw _ (List.mem_of_getElem? (i := 51) rfl))) Via.refl e0 S_CS (g := (mkF m 0 #[.val (.ref a1)] [])) rfl (hb hby d17_0)
  refine own_step (T' := T1) (f' := (mkF m 3 #[.val (.ref a1)] [(.int cs)])) (fun t k => st1 t k) ?_
  refine own_step (T' := T1) (f' := (mkF m 6 #[.val (.ref a1)] [])) (fun t k => XS.ifNo X1.here hx rfl (hb hby d17_3) rfl ((if0 _ _).trans (feq hcs).1) k) ?_
  refine own_step (T' := T1) (f' := (mkF m 7 #[.val (.ref a1)] [(.ref a1)])) (fun t k => XS.aloadN X1.here hx rfl (hb hby d17_6) rfl rfl k) ?_
  obtain ⟨T2, X2, e2, st2⟩ := getF X1 hx hZ hown (host := "") (Or.inl (hw _ (List.mem_of_getElem? (i := 62) rfl))) Via.refl e1 F_c (g := (mkF m 7 #[.val (.ref a1)] [(.ref a1)])) rfl rfl (hb hby d17_7)
  refine own_step (T' := T2) (f' := (mkF m 10 #[.val (.ref a1)] [(.int (0 : Int32))])) (fun t k => st2 t k) ?_
  refine own_step (T' := T2) (f' := (mkF m 13 #[.val (.ref a1)] [])) (fun t k => XS.ifNo X2.here hx rfl (hb hby d17_10) rfl ((if0 _ _).trans (teq (by decide : (0 : Int32) = (0 : Int32))).2) k) ?_
  refine own_step (T' := T2) (f' := (mkF m 14 #[.val (.ref a1)] [(.int (1 : Int32))])) (fun t k => XS.iconst X2.here hx rfl (hb hby d17_13) k) ?_
  refine own_step (T' := T2) (f' := (mkF m 18 #[.val (.ref a1)] [(.int (1 : Int32))])) (fun t k => XS.goto X2.here hx rfl (pc0 := 14) (pc' := 18) rfl (hb hby d17_14) (by decide) (by decide) k) ?_
  exact own_retN X2 hx hlk (t := .boolean) Bd.returns (by simp) (hb hby d17_18) (by decide) (by decide) ⟨rfl, N0, e2⟩

theorem d14_0 : decode jdk_42_method_54_code 0 = .ok (.aload_n 0, 1) := by decide +kernel
theorem d14_1 : decode jdk_42_method_54_code 1 = .ok (.getfield 9, 3) := by decide +kernel
theorem d14_4 : decode jdk_42_method_54_code 4 = .ok (.arraylength, 1) := by decide +kernel
theorem d14_5 : decode jdk_42_method_54_code 5 = .ok (.aload_n 0, 1) := by decide +kernel
theorem d14_6 : decode jdk_42_method_54_code 6 = .ok (.invokevirtual 335, 3) := by decide +kernel
theorem d14_9 : decode jdk_42_method_54_code 9 = .ok (.ishr, 1) := by decide +kernel
theorem d14_10 : decode jdk_42_method_54_code 10 = .ok (.ireturn, 1) := by decide +kernel
theorem pn_14 : plainName "java/lang/String" = true := by first | (simp [plainName, overriddenIn]; done) | decide +kernel
theorem pd_14_0 : parseMethodDescriptor "()B" = some ⟨[], some .byte⟩ := by decide +kernel
theorem ef_rm14_0 (m : MethodId) (x0 : Addr) : entryFrame m #[(.ref x0)] 1 = mkF m 0 #[.val (.ref x0)] [] := by first | (simp [entryFrame, mkF, argsToLocals, Value.category]; done) | rfl
set_option maxRecDepth 65536 in
set_option maxHeartbeats 40000000 in
theorem rm14_0 (l : Launch) (Z : State) (a0 : Array Value) (hw : ∀ d ∈ tables_1, d.before a0 Z = true) (ws : List Jvm.Cond) (a1 : Addr) (h0 : Heap) (n0 : Nat) (Z0 : n0 ≤ h0.size) (b : Addr) (kb : ClassId) (O : OwnStr Z h0 a1 b kb 0 []) (cs : Int32) (S_CS : Sta Z h0 "java/lang/String" "COMPACT_STRINGS" "Z" (.int cs)) (hcs : ¬ cs = (0 : Int32)) :
    MetFree l (⟨"java/lang/String", "length", "()I"⟩ : MethodName) (head1 (Jvm.Cond.code (⟨"java/lang/String", "length", "()I"⟩ : MethodName) jdk_42_method_54_code 1 (some .int) :: ws) ({ frames := 1, cells := 0, slots := 0, locals := 13 } : Room)) (fun a U => a = #[(.ref a1)] ∧ Z.Warmed39 U.vm ∧ U.heap = h0) (fun _ _ _ _ _ => True) (fun _ U o U' => ∃ v L, o = .returned v ∧ QI 0 h0 n0 v U'.heap L ∧ FrameEnd U o U' L ({ frames := 1, cells := 0, slots := 0, locals := 13 } : Room).cells ({ frames := 1, cells := 0, slots := 0, locals := 13 } : Room).slots) := by
  refine MetFree.of_bodySF (plainFor_of_name pn_14) hisR ?_
  intro p e s m args below meth c s₁ Bd hml0 hP hK
  obtain ⟨rfl, hZ, hh⟩ := hP
  have hx := Bd.exec
  have hby := Bd.bytes
  have hlk : meth.locks = false := BodyLoose.notSynchronized Bd
  have hml : c.maxLocals = 1 := hml0
  have hown : s.vm.findClass "java/lang/String" = some m.cls := findClass_of_methodNamed Bd.named
  have hnm := (name_of_methodNamed Bd.named Bd.method).1
  have X0 : Stand p l e ({ frames := 1, cells := 0, slots := 0, locals := 13 } : Room) s m #[(.ref a1)] below meth c s₁ [] 0 0 := Stand.of_body Bd
  have e0 : s₁.heap = h0 := by rw [← hh, Bd.state]; rfl
  have N0 := Fr.nil n0
  have Zz := Z0
  have Kp : Keep h0 h0 [] := Keep.refl _ _
  have V_b := O.2.2.2
  show OwnEnds p e below s (QI 0 h0 n0) ({ frames := 1, cells := 0, slots := 0, locals := 13 } : Room).cells ({ frames := 1, cells := 0, slots := 0, locals := 13 } : Room).slots s₁ (entryFrame m #[(.ref a1)] 1)
  refine own_step (T' := s₁) (f' := (mkF m 0 #[.val (.ref a1)] [])) (fun t k => castTop (ef_rm14_0 m a1) k) ?_
  refine own_step (T' := s₁) (f' := (mkF m 1 #[.val (.ref a1)] [(.ref a1)])) (fun t k => XS.aloadN X0.here hx rfl (hb hby d14_0) rfl rfl k) ?_
  obtain ⟨T1, X1, e1, st1⟩ := getF X0 hx hZ hown (host := "") (Or.inl (hw _ (List.mem_of_getElem? (i := 64) rfl))) Via.refl e0 O.2.2.1 (g := (mkF m 1 #[.val (.ref a1)] [(.ref a1)])) rfl rfl (hb hby d14_1)
  refine own_step (T' := T1) (f' := (mkF m 4 #[.val (.ref a1)] [(.ref b)])) (fun t k => st1 t k) ?_
  obtain ⟨cl2, Ar2, q2, S2, M2, H2, G2⟩ := id V_b
  refine own_step (T' := T1) (f' := (mkF m 5 #[.val (.ref a1)] [(.int (0 : Int32))])) (fun t k => X1.arraylength hx (by rw [e1]; exact Ar2.1) (State.isArrayOf_alike hZ.alike Ar2.2.1) (g := (mkF m 4 #[.val (.ref a1)] [(.ref b)])) rfl rfl (hb hby d14_4) _ (by rw [len_of S2 M2]; exact k)) ?_
  refine own_step (T' := T1) (f' := (mkF m 6 #[.val (.ref a1)] [(.ref a1), (.int (0 : Int32))])) (fun t k => XS.aloadN X1.here hx rfl (hb hby d14_5) rfl rfl k) ?_
  obtain ⟨cq3, kq3, q3a, q3b, q3c⟩ := isOf hZ e1 O.1
  obtain ⟨_, _, ⟨T3, L3, k3, n3⟩, -, X3, ⟨Lc3, hQ3, l3, y3, z3⟩, st3⟩ := X1.virtualBack hx (y := (⟨"java/lang/String", "coder", "()B"⟩ : MethodName)) (z := (⟨"java/lang/String", "coder", "()B"⟩ : MethodName)) hown (mvT hZ (hw _ (List.mem_of_getElem? (i := 76) rfl))) (mvT hZ (hw _ (List.mem_of_getElem? (i := 77) rfl))) (notFace_of_selects (args := #[]) (mvT hZ (hw _ (List.mem_of_getElem? (i := 79) rfl)))) (mvT hZ (hw _ (List.mem_of_getElem? (i := 79) rfl))) (mvT hZ (hw _ (List.mem_of_getElem? (i := 78) rfl))) (by decide) (backOf (W := 1) (rm15 l Z a0 hw [] a1 h0 n0 Zz O.2.1 cs S_CS hcs) hZ (hw _ (List.mem_of_getElem? (i := 80) rfl)) (hw _ (List.mem_of_getElem? (i := 42) rfl)) (by decide) (by decide)) q3a q3c (g := (mkF m 6 #[.val (.ref a1)] [(.ref a1), (.int (0 : Int32))])) rfl (by rw [hml]; rfl) (Steps.refl _) (argsL := []) (rest := [(.int (0 : Int32))]) (lenOf pd_14_0 rfl) rfl (by show 2 * 0 + _ ≤ _; exact Nat.le_of_eq rfl) (hb hby d14_6) (fun _ _ => ⟨rfl, e1, (by decide : 0 + 0 ≤ _), (by decide : 0 + 0 ≤ _)⟩)
  dsimp only [Pt.U, Pt.locs, Pt.cells, Pt.slots] at X3 l3 y3 z3 st3 hQ3
  subst l3 y3 z3
  obtain ⟨rfl, N3q, E3⟩ := hQ3
  have N3 := Fr.app N0 N3q
  refine own_step (T' := T3) (f' := (mkF m 9 #[.val (.ref a1)] [(.int (0 : Int32)), (.int (0 : Int32))])) (fun t k => st3.trans k) ?_
  refine own_step (T' := T3) (f' := (mkF m 10 #[.val (.ref a1)] [(.int ((0 : Int32) >>> ((0 : Int32) &&& 31)))])) (fun t k => XS.ishr X3.here hx rfl (hb hby d14_9) rfl k) ?_
  exact own_retO X3 hx hlk Bd.returns rfl (Or.inl ⟨rfl, Or.inl rfl, _, rfl⟩) (hb hby d14_10) (by decide) (by decide) ⟨rfl, N3, E3⟩

theorem d13_0 : decode prog_135_method_10_code 0 = .ok (.aload_n 0, 1) := by decide +kernel
theorem d13_1 : decode prog_135_method_10_code 1 = .ok (.getfield 17, 3) := by decide +kernel
theorem d13_4 : decode prog_135_method_10_code 4 = .ok (.aload_n 1, 1) := by decide +kernel
theorem d13_5 : decode prog_135_method_10_code 5 = .ok (.invokevirtual 24, 3) := by decide +kernel
theorem d13_8 : decode prog_135_method_10_code 8 = .ok (.isub, 1) := by decide +kernel
theorem d13_9 : decode prog_135_method_10_code 9 = .ok (.istore_n 2, 1) := by decide +kernel
theorem d13_10 : decode prog_135_method_10_code 10 = .ok (.iload_n 2, 1) := by decide +kernel
theorem d13_11 : decode prog_135_method_10_code 11 = .ok (.ifCond .lt 7, 3) := by decide +kernel
theorem d13_14 : decode prog_135_method_10_code 14 = .ok (.iconst 1, 1) := by decide +kernel
theorem d13_15 : decode prog_135_method_10_code 15 = .ok (.goto 4, 3) := by decide +kernel
theorem d13_19 : decode prog_135_method_10_code 19 = .ok (.istore_n 3, 1) := by decide +kernel
theorem d13_20 : decode prog_135_method_10_code 20 = .ok (.iconst 0, 1) := by decide +kernel
theorem d13_21 : decode prog_135_method_10_code 21 = .ok (.istore 4, 2) := by decide +kernel
theorem d13_23 : decode prog_135_method_10_code 23 = .ok (.iload 4, 2) := by decide +kernel
theorem d13_25 : decode prog_135_method_10_code 25 = .ok (.aload_n 1, 1) := by decide +kernel
theorem d13_26 : decode prog_135_method_10_code 26 = .ok (.invokevirtual 24, 3) := by decide +kernel
theorem d13_29 : decode prog_135_method_10_code 29 = .ok (.if_icmp .ge 41, 3) := by decide +kernel
theorem d13_70 : decode prog_135_method_10_code 70 = .ok (.iload_n 3, 1) := by decide +kernel
theorem d13_71 : decode prog_135_method_10_code 71 = .ok (.ireturn, 1) := by decide +kernel
theorem pn_13 : plainName "com/example/lit2/lit2/weave/TexOutput" = true := by first | (simp [plainName, overriddenIn]; done) | decide +kernel
theorem pd_13_0 : parseMethodDescriptor "()I" = some ⟨[], some .int⟩ := by decide +kernel
theorem ef_rm13_0 (m : MethodId) (x0 : Addr) (x1 : Addr) : entryFrame m #[(.ref x0), (.ref x1)] 5 = mkF m 0 #[.val (.ref x0), .val (.ref x1), .unset, .unset, .unset] [] := by first | (simp [entryFrame, mkF, argsToLocals, Value.category]; done) | rfl
set_option maxRecDepth 65536 in
set_option maxHeartbeats 40000000 in
theorem rm13_0 (l : Launch) (Z : State) (a0 : Array Value) (hw : ∀ d ∈ tables_1, d.before a0 Z = true) (ws : List Jvm.Cond) (a1 : Addr) (a2 : Addr) (h0 : Heap) (n0 : Nat) (Z0 : n0 ≤ h0.size) (x0 x1 x2 : Int32) (bv : Addr) (kv : ClassId) (O : OwnTx Z h0 a1 bv kv 0 [(.int x0), (.int x1), (.int x2)]) (b : Addr) (kb : ClassId) (O2 : OwnStr Z h0 a2 b kb 0 []) (cs : Int32) (S_CS : Sta Z h0 "java/lang/String" "COMPACT_STRINGS" "Z" (.int cs)) (hcs : ¬ cs = (0 : Int32)) (fm : Value) (S_FM : Sta Z h0 "jdk/internal/util/Preconditions" "SIOOBE_FORMATTER" "Ljava/util/function/BiFunction;" fm) (hfc : fm.category = 1) (hfr : fm.isRef = true) :
    MetFree l (⟨"com/example/lit2/lit2/weave/TexOutput", "endsWith", "(Ljava/lang/String;)Z"⟩ : MethodName) (head1 (Jvm.Cond.code (⟨"com/example/lit2/lit2/weave/TexOutput", "endsWith", "(Ljava/lang/String;)Z"⟩ : MethodName) prog_135_method_10_code 5 (some .boolean) :: ws) ({ frames := 4, cells := 0, slots := 0, locals := 56 } : Room)) (fun a U => a = #[(.ref a1), (.ref a2)] ∧ Z.Warmed39 U.vm ∧ U.heap = h0) (fun _ _ _ _ _ => True) (fun _ U o U' => ∃ v L, o = .returned v ∧ QI 1 h0 n0 v U'.heap L ∧ FrameEnd U o U' L ({ frames := 4, cells := 0, slots := 0, locals := 56 } : Room).cells ({ frames := 4, cells := 0, slots := 0, locals := 56 } : Room).slots) := by
  refine MetFree.of_bodySF (plainFor_of_name pn_13) hisR ?_
  intro p e s m args below meth c s₁ Bd hml0 hP hK
  obtain ⟨rfl, hZ, hh⟩ := hP
  have hx := Bd.exec
  have hby := Bd.bytes
  have hlk : meth.locks = false := BodyLoose.notSynchronized Bd
  have hml : c.maxLocals = 5 := hml0
  have hown : s.vm.findClass "com/example/lit2/lit2/weave/TexOutput" = some m.cls := findClass_of_methodNamed Bd.named
  have hnm := (name_of_methodNamed Bd.named Bd.method).1
  have X0 : Stand p l e ({ frames := 4, cells := 0, slots := 0, locals := 56 } : Room) s m #[(.ref a1), (.ref a2)] below meth c s₁ [] 0 0 := Stand.of_body Bd
  have e0 : s₁.heap = h0 := by rw [← hh, Bd.state]; rfl
  have N0 := Fr.nil n0
  have Zz := Z0
  have Kp : Keep h0 h0 [] := Keep.refl _ _
  have V_bv := O.2.2.2.2.1
  show OwnEnds p e below s (QI 1 h0 n0) ({ frames := 4, cells := 0, slots := 0, locals := 56 } : Room).cells ({ frames := 4, cells := 0, slots := 0, locals := 56 } : Room).slots s₁ (entryFrame m #[(.ref a1), (.ref a2)] 5)
  refine own_step (T' := s₁) (f' := (mkF m 0 #[.val (.ref a1), .val (.ref a2), .unset, .unset, .unset] [])) (fun t k => castTop (ef_rm13_0 m a1 a2) k) ?_
  refine own_step (T' := s₁) (f' := (mkF m 1 #[.val (.ref a1), .val (.ref a2), .unset, .unset, .unset] [(.ref a1)])) (fun t k => XS.aloadN X0.here hx rfl (hb hby d13_0) rfl rfl k) ?_
  obtain ⟨T1, X1, e1, st1⟩ := getF X0 hx hZ hown (host := "") (Or.inl (hw _ (List.mem_of_getElem? (i := 25) rfl))) Via.refl e0 O.2.2.1 (g := (mkF m 1 #[.val (.ref a1), .val (.ref a2), .unset, .unset, .unset] [(.ref a1)])) rfl rfl (hb hby d13_1)
  refine own_step (T' := T1) (f' := (mkF m 4 #[.val (.ref a1), .val (.ref a2), .unset, .unset, .unset] [(.int (0 : Int32))])) (fun t k => st1 t k) ?_
  refine own_step (T' := T1) (f' := (mkF m 5 #[.val (.ref a1), .val (.ref a2), .unset, .unset, .unset] [(.ref a2), (.int (0 : Int32))])) (fun t k => XS.aloadN X1.here hx rfl (hb hby d13_4) rfl rfl k) ?_
  obtain ⟨cq2, kq2, q2a, q2b, q2c⟩ := isOf hZ e1 O2.1
  obtain ⟨_, _, ⟨T2, L2, k2, n2⟩, -, X2, ⟨Lc2, hQ2, l2, y2, z2⟩, st2⟩ := X1.virtualBack hx (y := (⟨"java/lang/String", "length", "()I"⟩ : MethodName)) (z := (⟨"java/lang/String", "length", "()I"⟩ : MethodName)) hown (mvT hZ (hw _ (List.mem_of_getElem? (i := 71) rfl))) (mvT hZ (hw _ (List.mem_of_getElem? (i := 72) rfl))) (notFace_of_selects (args := #[]) (mvT hZ (hw _ (List.mem_of_getElem? (i := 74) rfl)))) (mvT hZ (hw _ (List.mem_of_getElem? (i := 74) rfl))) (mvT hZ (hw _ (List.mem_of_getElem? (i := 73) rfl))) (by decide) (backOf (W := 1) (rm14_0 l Z a0 hw [] a2 h0 n0 Zz b kb  O2 cs S_CS hcs) hZ (hw _ (List.mem_of_getElem? (i := 75) rfl)) (hw _ (List.mem_of_getElem? (i := 42) rfl)) (by decide) (by decide)) q2a q2c (g := (mkF m 5 #[.val (.ref a1), .val (.ref a2), .unset, .unset, .unset] [(.ref a2), (.int (0 : Int32))])) rfl (by rw [hml]; rfl) (Steps.refl _) (argsL := []) (rest := [(.int (0 : Int32))]) (lenOf pd_13_0 rfl) rfl (by show 2 * 0 + _ ≤ _; exact Nat.le_of_eq rfl) (hb hby d13_5) (fun _ _ => ⟨rfl, e1, (by decide : 0 + 0 ≤ _), (by decide : 0 + 0 ≤ _)⟩)
  dsimp only [Pt.U, Pt.locs, Pt.cells, Pt.slots] at X2 l2 y2 z2 st2 hQ2
  subst l2 y2 z2
  obtain ⟨rfl, N2q, E2⟩ := hQ2
  have N2 := Fr.app N0 N2q
  refine own_step (T' := T2) (f' := (mkF m 8 #[.val (.ref a1), .val (.ref a2), .unset, .unset, .unset] [(.int (0 : Int32)), (.int (0 : Int32))])) (fun t k => st2.trans k) ?_
  refine own_step (T' := T2) (f' := (mkF m 9 #[.val (.ref a1), .val (.ref a2), .unset, .unset, .unset] [(.int (0 : Int32))])) (fun t k => XS.isub X2.here hx rfl (hb hby d13_8) rfl k) ?_
  refine own_step (T' := T2) (f' := (mkF m 10 #[.val (.ref a1), .val (.ref a2), .val (.int (0 : Int32)), .unset, .unset] [])) (fun t k => XS.istoreN X2.here hx rfl (hb hby d13_9) rfl (l' := #[.val (.ref a1), .val (.ref a2), .val (.int (0 : Int32)), .unset, .unset]) rfl k) ?_
  refine own_step (T' := T2) (f' := (mkF m 11 #[.val (.ref a1), .val (.ref a2), .val (.int (0 : Int32)), .unset, .unset] [(.int (0 : Int32))])) (fun t k => XS.iloadN X2.here hx rfl (hb hby d13_10) rfl k) ?_
  refine own_step (T' := T2) (f' := (mkF m 14 #[.val (.ref a1), .val (.ref a2), .val (.int (0 : Int32)), .unset, .unset] [])) (fun t k => XS.ifNo X2.here hx rfl (hb hby d13_11) rfl ((if0 _ _).trans (flt (by decide : ¬ ((0 : Int32) < (0 : Int32)))).1) k) ?_
  refine own_step (T' := T2) (f' := (mkF m 15 #[.val (.ref a1), .val (.ref a2), .val (.int (0 : Int32)), .unset, .unset] [(.int (1 : Int32))])) (fun t k => XS.iconst X2.here hx rfl (hb hby d13_14) k) ?_
  refine own_step (T' := T2) (f' := (mkF m 19 #[.val (.ref a1), .val (.ref a2), .val (.int (0 : Int32)), .unset, .unset] [(.int (1 : Int32))])) (fun t k => XS.goto X2.here hx rfl (pc0 := 15) (pc' := 19) rfl (hb hby d13_15) (by decide) (by decide) k) ?_
  refine own_step (T' := T2) (f' := (mkF m 20 #[.val (.ref a1), .val (.ref a2), .val (.int (0 : Int32)), .val (.int (1 : Int32)), .unset] [])) (fun t k => XS.istoreN X2.here hx rfl (hb hby d13_19) rfl (l' := #[.val (.ref a1), .val (.ref a2), .val (.int (0 : Int32)), .val (.int (1 : Int32)), .unset]) rfl k) ?_
  refine own_step (T' := T2) (f' := (mkF m 21 #[.val (.ref a1), .val (.ref a2), .val (.int (0 : Int32)), .val (.int (1 : Int32)), .unset] [(.int (0 : Int32))])) (fun t k => XS.iconst X2.here hx rfl (hb hby d13_20) k) ?_
  refine own_step (T' := T2) (f' := (mkF m 23 #[.val (.ref a1), .val (.ref a2), .val (.int (0 : Int32)), .val (.int (1 : Int32)), .val (.int (0 : Int32))] [])) (fun t k => XS.istore X2.here hx rfl (hb hby d13_21) rfl (l' := #[.val (.ref a1), .val (.ref a2), .val (.int (0 : Int32)), .val (.int (1 : Int32)), .val (.int (0 : Int32))]) rfl k) ?_
  refine own_step (T' := T2) (f' := (mkF m 25 #[.val (.ref a1), .val (.ref a2), .val (.int (0 : Int32)), .val (.int (1 : Int32)), .val (.int (0 : Int32))] [(.int (0 : Int32))])) (fun t k => XS.iload X2.here hx rfl (hb hby d13_23) rfl k) ?_
  refine own_step (T' := T2) (f' := (mkF m 26 #[.val (.ref a1), .val (.ref a2), .val (.int (0 : Int32)), .val (.int (1 : Int32)), .val (.int (0 : Int32))] [(.ref a2), (.int (0 : Int32))])) (fun t k => XS.aloadN X2.here hx rfl (hb hby d13_25) rfl rfl k) ?_
  obtain ⟨cq3, kq3, q3a, q3b, q3c⟩ := isOf hZ E2 O2.1
  obtain ⟨_, _, ⟨T3, L3, k3, n3⟩, -, X3, ⟨Lc3, hQ3, l3, y3, z3⟩, st3⟩ := X2.virtualBack hx (y := (⟨"java/lang/String", "length", "()I"⟩ : MethodName)) (z := (⟨"java/lang/String", "length", "()I"⟩ : MethodName)) hown (mvT hZ (hw _ (List.mem_of_getElem? (i := 71) rfl))) (mvT hZ (hw _ (List.mem_of_getElem? (i := 72) rfl))) (notFace_of_selects (args := #[]) (mvT hZ (hw _ (List.mem_of_getElem? (i := 74) rfl)))) (mvT hZ (hw _ (List.mem_of_getElem? (i := 74) rfl))) (mvT hZ (hw _ (List.mem_of_getElem? (i := 73) rfl))) (by decide) (backOf (W := 1) (rm14_0 l Z a0 hw [] a2 h0 n0 Zz b kb  O2 cs S_CS hcs) hZ (hw _ (List.mem_of_getElem? (i := 75) rfl)) (hw _ (List.mem_of_getElem? (i := 42) rfl)) (by decide) (by decide)) q3a q3c (g := (mkF m 26 #[.val (.ref a1), .val (.ref a2), .val (.int (0 : Int32)), .val (.int (1 : Int32)), .val (.int (0 : Int32))] [(.ref a2), (.int (0 : Int32))])) rfl (by rw [hml]; rfl) (Steps.refl _) (argsL := []) (rest := [(.int (0 : Int32))]) (lenOf pd_13_0 rfl) rfl (by show 2 * 0 + _ ≤ _; exact Nat.le_of_eq rfl) (hb hby d13_26) (fun _ _ => ⟨rfl, E2, (by decide : 0 + 0 ≤ _), (by decide : 0 + 0 ≤ _)⟩)
  dsimp only [Pt.U, Pt.locs, Pt.cells, Pt.slots] at X3 l3 y3 z3 st3 hQ3
  subst l3 y3 z3
  obtain ⟨rfl, N3q, E3⟩ := hQ3
  have N3 := Fr.app N2 N3q
  refine own_step (T' := T3) (f' := (mkF m 29 #[.val (.ref a1), .val (.ref a2), .val (.int (0 : Int32)), .val (.int (1 : Int32)), .val (.int (0 : Int32))] [(.int (0 : Int32)), (.int (0 : Int32))])) (fun t k => st3.trans k) ?_
  refine own_step (T' := T3) (f' := (mkF m 70 #[.val (.ref a1), .val (.ref a2), .val (.int (0 : Int32)), .val (.int (1 : Int32)), .val (.int (0 : Int32))] [])) (fun t k => XS.icmpYes X3.here hx rfl (pc0 := 29) (pc' := 70) rfl (hb hby d13_29) rfl (flt (by decide : ¬ ((0 : Int32) < (0 : Int32)))).2.1 (by decide) (by decide) k) ?_
  refine own_step (T' := T3) (f' := (mkF m 71 #[.val (.ref a1), .val (.ref a2), .val (.int (0 : Int32)), .val (.int (1 : Int32)), .val (.int (0 : Int32))] [(.int (1 : Int32))])) (fun t k => XS.iloadN X3.here hx rfl (hb hby d13_70) rfl k) ?_
  exact own_retN X3 hx hlk (t := .boolean) Bd.returns (by simp) (hb hby d13_71) (by decide) (by decide) ⟨rfl, N3, E3⟩

def Q9_0 (Z : State) (a1 : Addr) (h0 : Heap) (n0 : Nat) (v : Option Value) (h : Heap) (L : List Loc) : Prop := v = none ∧ Fr n0 L ∧ Keep h0 h [a1] ∧ ∃ (b : Addr) (k : ClassId), OwnStr Z h a1 b k 0 []
def Q7_0 (Z : State) (h0 : Heap) (n0 : Nat) (v : Option Value) (h : Heap) (L : List Loc) : Prop := ∃ (r b : Addr) (k : ClassId), v = some (.ref r) ∧ Fr n0 L ∧ Keep h0 h [] ∧ OwnStr Z h r b k 0 []
/-- a String under construction is no booked one: its value is null -/
theorem own_safe {Z : State} {EL : List (String × Nat)} {vm : Vm} {h : Heap} {x : Addr} (hal : Z.vm.Alike vm) (E : Exa Z h x "java/lang/String") (F : Fld Z h x "java/lang/String" "value" "[B" .null) : Safe Z EL vm h x := fun B => by
  obtain ⟨p, -, u, a, -, q, -, G, rfl | rfl⟩ := B
  · obtain ⟨cell, cf, k, i, f, f1, f2, -, -, -, -, f7⟩ := F
    cases (show h[q.sa]? = some q.sC from G.ha).symm.trans f1
    obtain ⟨cS, ⟨⟨-, -, -, ⟨cv, kv, ivv, s4, -⟩, -, -, -, s8, -⟩, -⟩, -⟩ := G
    obtain ⟨kv', z4⟩ := ff_back (U := Wst Z vm h) hal s4
    have z5 := f2.symm.trans z4
    simp only [Option.some.injEq, Prod.mk.injEq] at z5
    rw [← z5.2.2.2, f7] at s8
    cases s8
  · obtain ⟨cell, k, e1, e2, e3, -, -⟩ := E
    cases (show h[q.sd]? = some q.SA from G.hd).symm.trans e1
    obtain ⟨cS, -, -, f, -⟩ := G
    have f' : vm.findClass "[B" = some q.SA.cls := f
    rw [hal.findClass] at f'
    obtain ⟨k1, q1, q2⟩ := Vm.findClass_spec f'
    obtain ⟨k2, q3, q4⟩ := Vm.findClass_spec e2
    cases q1.symm.trans q3
    have := q2.symm.trans q4
    exact absurd this (by decide)

theorem d9_0 : decode jdk_42_method_149_code 0 = .ok (.aload_n 0, 1) := by decide +kernel
theorem d9_1 : decode jdk_42_method_149_code 1 = .ok (.invokespecial 1, 3) := by decide +kernel
theorem d9_4 : decode jdk_42_method_149_code 4 = .ok (.iload_n 3, 1) := by decide +kernel
theorem d9_5 : decode jdk_42_method_149_code 5 = .ok (.ifCond .ne 22, 3) := by decide +kernel
theorem d9_8 : decode jdk_42_method_149_code 8 = .ok (.aload_n 0, 1) := by decide +kernel
theorem d9_9 : decode jdk_42_method_149_code 9 = .ok (.ldc 7, 2) := by decide +kernel
theorem d9_11 : decode jdk_42_method_149_code 11 = .ok (.getfield 9, 3) := by decide +kernel
theorem d9_14 : decode jdk_42_method_149_code 14 = .ok (.putfield 9, 3) := by decide +kernel
theorem d9_17 : decode jdk_42_method_149_code 17 = .ok (.aload_n 0, 1) := by decide +kernel
theorem d9_18 : decode jdk_42_method_149_code 18 = .ok (.ldc 7, 2) := by decide +kernel
theorem d9_20 : decode jdk_42_method_149_code 20 = .ok (.getfield 15, 3) := by decide +kernel
theorem d9_23 : decode jdk_42_method_149_code 23 = .ok (.putfield 15, 3) := by decide +kernel
theorem d9_26 : decode jdk_42_method_149_code 26 = .ok (.return_, 1) := by decide +kernel
theorem pn_9 : plainName "java/lang/String" = true := by first | (simp [plainName, overriddenIn]; done) | decide +kernel
theorem ef_rm9_0 (m : MethodId) (x0 : Addr) (x1 : Addr) (x2 : Int32) (x3 : Int32) : entryFrame m #[(.ref x0), (.ref x1), (.int x2), (.int x3), .null] 6 = mkF m 0 #[.val (.ref x0), .val (.ref x1), .val (.int x2), .val (.int x3), .val .null, .unset] [] := by first | (simp [entryFrame, mkF, argsToLocals, Value.category]; done) | rfl
set_option maxRecDepth 65536 in
set_option maxHeartbeats 40000000 in
theorem rm9_0 (l : Launch) (Z : State) (a0 : Array Value) (hw : ∀ d ∈ tables_1, d.before a0 Z = true) (ws : List Jvm.Cond) (a1 : Addr) (a2 : Addr) (h0 : Heap) (n0 : Nat) (Z0 : n0 ≤ h0.size) (E_a1 : Exa Z h0 a1 "java/lang/String") (F_value_a1 : Fld Z h0 a1 "java/lang/String" "value" "[B" .null) (F_coder_a1 : Fld Z h0 a1 "java/lang/String" "coder" "B" (.int (0 : Int32))) (g_a1 : n0 ≤ a1) (hEL : EW Z a0 ownEL) :
    MetFree l (⟨"java/lang/String", "<init>", "([CIILjava/lang/Void;)V"⟩ : MethodName) (head1 (Jvm.Cond.code (⟨"java/lang/String", "<init>", "([CIILjava/lang/Void;)V"⟩ : MethodName) jdk_42_method_149_code 6 none :: ws) ({ frames := 1, cells := 2, slots := 4, locals := 12 } : Room)) (fun a U => a = #[(.ref a1), (.ref a2), (.int (0 : Int32)), (.int (0 : Int32)), .null] ∧ Z.Warmed39 U.vm ∧ U.heap = h0 ∧ CHv Z ownEL U.vm h0) (fun _ _ _ _ _ => True) (fun _ U o U' => ∃ v L, o = .returned v ∧ Q9_0 Z a1 h0 n0 v U'.heap L ∧ CHr Z ownEL U.vm U.heap U'.vm U'.heap ∧ ReturnedEndW U o U' L ({ frames := 1, cells := 2, slots := 4, locals := 12 } : Room).cells ({ frames := 1, cells := 2, slots := 4, locals := 12 } : Room).slots) := by
  refine MetFree.of_bodySF (plainFor_of_name pn_9) hisR ?_
  intro p e s m args below meth c s₁ Bd hml0 hP hK
  obtain ⟨rfl, hZ, hh, hCH⟩ := hP
  have hx := Bd.exec
  have hby := Bd.bytes
  have hlk : meth.locks = false := BodyLoose.notSynchronized Bd
  have hml : c.maxLocals = 6 := hml0
  have hown : s.vm.findClass "java/lang/String" = some m.cls := findClass_of_methodNamed Bd.named
  have hnm := (name_of_methodNamed Bd.named Bd.method).1
  have X0 : Stand p l e ({ frames := 1, cells := 2, slots := 4, locals := 12 } : Room) s m #[(.ref a1), (.ref a2), (.int (0 : Int32)), (.int (0 : Int32)), .null] below meth c s₁ [] 0 0 := Stand.of_body Bd
  have e0 : s₁.heap = h0 := by rw [← hh, Bd.state]; rfl
  have N0 := Fr.nil n0
  have Cr : CHr Z ownEL s.vm h0 s.vm h0 := CHr.refl hCH
  have Zz := Z0
  have Kp : Keep h0 h0 [a1] := Keep.refl _ _
  have Sf_a1 : Safe Z ownEL s.vm h0 a1 := own_safe hZ.alike E_a1 F_value_a1
  show OwnEndsH Z ownEL p e below s (Q9_0 Z a1 h0 n0) ({ frames := 1, cells := 2, slots := 4, locals := 12 } : Room).cells ({ frames := 1, cells := 2, slots := 4, locals := 12 } : Room).slots s₁ (entryFrame m #[(.ref a1), (.ref a2), (.int (0 : Int32)), (.int (0 : Int32)), .null] 6)
  refine ownH_step (T' := s₁) (f' := (mkF m 0 #[.val (.ref a1), .val (.ref a2), .val (.int (0 : Int32)), .val (.int (0 : Int32)), .val .null, .unset] [])) (fun t k => castTop (ef_rm9_0 m a1 a2 (0 : Int32) (0 : Int32)) k) ?_
  refine ownH_step (T' := s₁) (f' := (mkF m 1 #[.val (.ref a1), .val (.ref a2), .val (.int (0 : Int32)), .val (.int (0 : Int32)), .val .null, .unset] [(.ref a1)])) (fun t k => XS.aloadN X0.here hx rfl (hb hby d9_0) rfl rfl k) ?_
  obtain ⟨T1, X1, e1, st1⟩ := initO X0 hx hZ hown (hw _ (List.mem_of_getElem? (i := 50) rfl)) (hw _ (List.mem_of_getElem? (i := 12) rfl)) (hw _ (List.mem_of_getElem? (i := 13) rfl)) e0 (g := (mkF m 1 #[.val (.ref a1), .val (.ref a2), .val (.int (0 : Int32)), .val (.int (0 : Int32)), .val .null, .unset] [(.ref a1)])) rfl (by rw [hml]; rfl) rfl (hb hby d9_1) (by decide) (W := 0) (by show 2 * 0 + _ ≤ _; exact Nat.le_of_eq rfl) (by decide)
  refine ownH_step (T' := T1) (f' := (mkF m 4 #[.val (.ref a1), .val (.ref a2), .val (.int (0 : Int32)), .val (.int (0 : Int32)), .val .null, .unset] [])) (fun t k => st1 t k) ?_
  refine ownH_step (T' := T1) (f' := (mkF m 5 #[.val (.ref a1), .val (.ref a2), .val (.int (0 : Int32)), .val (.int (0 : Int32)), .val .null, .unset] [(.int (0 : Int32))])) (fun t k => XS.iloadN X1.here hx rfl (hb hby d9_4) rfl k) ?_
  refine ownH_step (T' := T1) (f' := (mkF m 8 #[.val (.ref a1), .val (.ref a2), .val (.int (0 : Int32)), .val (.int (0 : Int32)), .val .null, .unset] [])) (fun t k => XS.ifNo X1.here hx rfl (hb hby d9_5) rfl ((if0 _ _).trans (teq (by decide : (0 : Int32) = (0 : Int32))).2) k) ?_
  refine ownH_step (T' := T1) (f' := (mkF m 9 #[.val (.ref a1), .val (.ref a2), .val (.int (0 : Int32)), .val (.int (0 : Int32)), .val .null, .unset] [(.ref a1)])) (fun t k => XS.aloadN X1.here hx rfl (hb hby d9_8) rfl rfl k) ?_
  obtain ⟨la, T2, h2, k12, lb, lk, X2, e2, E2, hS2, hk2, hZ2, hown2, LE, LC, LV, LA, -, -, C2, Li, Sx, st2⟩ := ldcCH (s := s) (vm0 := s.vm) (Z := Z) (a0 := a0) (EL := ownEL) X1 hx hZ hown (hw _ (List.mem_of_getElem? (i := 110) rfl)) (fun d hd => by simp only [Bundle.stringAtoms, Bundle.sN, List.mem_cons, List.not_mem_nil, or_false] at hd; rcases hd with rfl | rfl | rfl | rfl | rfl | rfl | rfl <;> first | exact (hw _ (List.mem_of_getElem? (i := 42) rfl)) | exact (hw _ (List.mem_of_getElem? (i := 41) rfl)) | exact (hw _ (List.mem_of_getElem? (i := 15) rfl)) | exact (hw _ (List.mem_of_getElem? (i := 65) rfl)) | exact (hw _ (List.mem_of_getElem? (i := 63) rfl)) | exact (hw _ (List.mem_of_getElem? (i := 111) rfl)) | exact (hw _ (List.mem_of_getElem? (i := 112) rfl))) e1 ((State.WarmedH.refl s).since h0.size) (Nat.le_refl _) hEL (List.mem_cons_self ..) Cr.1 (vs := []) (z := (0 : Int32)) ⟨by decide, rfl⟩ (by decide) rfl (g := (mkF m 9 #[.val (.ref a1), .val (.ref a2), .val (.int (0 : Int32)), .val (.int (0 : Int32)), .val .null, .unset] [(.ref a1)])) rfl (hb hby d9_9) (n := 0) (by decide) (by decide) (by decide) (by decide)
  replace Sf_a1 := CHr.safe C2 E_a1.lt Sf_a1
  replace Cr := Cr.trans C2
  replace E_a1 := E_a1.ext E2
  replace F_value_a1 := F_value_a1.ext E2
  replace F_coder_a1 := F_coder_a1.ext E2
  replace Zz := Nat.le_trans Zz E2.1
  replace Kp := Kp.ext E2
  have nla := (Sx a1 Sf_a1).1
  have nlb := (Sx a1 Sf_a1).2
  refine ownH_step (T' := T2) (f' := (mkF m 11 #[.val (.ref a1), .val (.ref a2), .val (.int (0 : Int32)), .val (.int (0 : Int32)), .val .null, .unset] [(.ref la), (.ref a1)])) (fun t k => st2 t k) ?_
  obtain ⟨T3, X3, e3, st3⟩ := getF X2 hx hZ2 hown2 (host := "") (Or.inl (hw _ (List.mem_of_getElem? (i := 64) rfl))) Via.refl e2 LV (g := (mkF m 11 #[.val (.ref a1), .val (.ref a2), .val (.int (0 : Int32)), .val (.int (0 : Int32)), .val .null, .unset] [(.ref la), (.ref a1)])) rfl rfl (hb hby d9_11)
  refine ownH_step (T' := T3) (f' := (mkF m 14 #[.val (.ref a1), .val (.ref a2), .val (.int (0 : Int32)), .val (.int (0 : Int32)), .val .null, .unset] [(.ref lb), (.ref a1)])) (fun t k => st3 t k) ?_
  obtain ⟨T4, h4, X4, e4, W4, st4⟩ := putF X3 hx hZ2 hown2 (host := "") (Or.inl (hw _ (List.mem_of_getElem? (i := 64) rfl))) Via.refl e3 F_value_a1 E_a1 (Or.inr ⟨(hw _ (List.mem_of_getElem? (i := 65) rfl)), rfl, hnm⟩) (hw _ (List.mem_of_getElem? (i := 41) rfl)) (ty := (.array .byte)) (by decide) rfl rfl (g := (mkF m 14 #[.val (.ref a1), .val (.ref a2), .val (.int (0 : Int32)), .val (.int (0 : Int32)), .val .null, .unset] [(.ref lb), (.ref a1)])) rfl rfl (hb hby d9_14)
  replace E_a1 := E_a1.wr W4
  replace F_value_a1 := F_value_a1.same W4
  replace F_coder_a1 := F_coder_a1.other W4 (Or.inr (Jvm.RoadKit.slot_ne (Or.inr (hw _ (List.mem_of_getElem? (i := 63) rfl))) (Or.inr (hw _ (List.mem_of_getElem? (i := 65) rfl))) (by decide) (t := .byte) (t' := (.array .byte)) (by decide) (by decide)))
  replace LE := LE.wr W4
  replace LC := LC.other W4 (Or.inl (Ne.symm nla))
  replace LV := LV.other W4 (Or.inl (Ne.symm nla))
  replace LA := LA.other W4 (Ne.symm nlb)
  have So4 := Sf_a1
  replace Sf_a1 := Safe.wr W4 So4 Cr.1 Sf_a1
  replace Cr := Cr.trans (CHr.wr W4 So4 Cr.1)
  replace Zz := Nat.le_trans Zz (Keep.of_wr W4).1
  replace Kp := Kp.wr W4 (Or.inl (List.mem_of_getElem? (i := 0) rfl))
  have N4 := Fr.snoc X4 N0 g_a1
  refine ownH_step (T' := T4) (f' := (mkF m 17 #[.val (.ref a1), .val (.ref a2), .val (.int (0 : Int32)), .val (.int (0 : Int32)), .val .null, .unset] [])) (fun t k => st4 t k) ?_
  refine ownH_step (T' := T4) (f' := (mkF m 18 #[.val (.ref a1), .val (.ref a2), .val (.int (0 : Int32)), .val (.int (0 : Int32)), .val .null, .unset] [(.ref a1)])) (fun t k => XS.aloadN X4.here hx rfl (hb hby d9_17) rfl rfl k) ?_
  refine ownH_step (T' := T4) (f' := (mkF m 20 #[.val (.ref a1), .val (.ref a2), .val (.int (0 : Int32)), .val (.int (0 : Int32)), .val .null, .unset] [(.ref la), (.ref a1)])) (fun t k => ldcAgain (s := s) (vm0 := T2.vm) (Z := Z) (a0 := a0) X4 hx hZ2 hown2 (hw _ (List.mem_of_getElem? (i := 110) rfl)) Li (g := (mkF m 18 #[.val (.ref a1), .val (.ref a2), .val (.int (0 : Int32)), .val (.int (0 : Int32)), .val .null, .unset] [(.ref a1)])) rfl (hb hby d9_18) t k) ?_
  obtain ⟨T5, X5, e5, st5⟩ := getF X4 hx hZ2 hown2 (host := "") (Or.inl (hw _ (List.mem_of_getElem? (i := 62) rfl))) Via.refl e4 LC (g := (mkF m 20 #[.val (.ref a1), .val (.ref a2), .val (.int (0 : Int32)), .val (.int (0 : Int32)), .val .null, .unset] [(.ref la), (.ref a1)])) rfl rfl (hb hby d9_20)
  refine ownH_step (T' := T5) (f' := (mkF m 23 #[.val (.ref a1), .val (.ref a2), .val (.int (0 : Int32)), .val (.int (0 : Int32)), .val .null, .unset] [(.int (0 : Int32)), (.ref a1)])) (fun t k => st5 t k) ?_
  obtain ⟨T6, h6, X6, e6, W6, st6⟩ := putFN X5 hx hZ2 hown2 (hw _ (List.mem_of_getElem? (i := 62) rfl)) Via.refl e5 F_coder_a1 E_a1 (Or.inr ⟨(hw _ (List.mem_of_getElem? (i := 63) rfl)), rfl, hnm⟩) (hw _ (List.mem_of_getElem? (i := 41) rfl)) (ty := .byte) (v' := (.int (0 : Int32))) (by decide) rfl (by decide) (g := (mkF m 23 #[.val (.ref a1), .val (.ref a2), .val (.int (0 : Int32)), .val (.int (0 : Int32)), .val .null, .unset] [(.int (0 : Int32)), (.ref a1)])) rfl rfl (hb hby d9_23)
  replace E_a1 := E_a1.wr W6
  replace F_value_a1 := F_value_a1.other W6 (Or.inr (Jvm.RoadKit.slot_ne (Or.inr (hw _ (List.mem_of_getElem? (i := 65) rfl))) (Or.inr (hw _ (List.mem_of_getElem? (i := 63) rfl))) (by decide) (t := (.array .byte)) (t' := .byte) (by decide) (by decide)))
  replace F_coder_a1 := F_coder_a1.same W6
  replace LE := LE.wr W6
  replace LC := LC.other W6 (Or.inl (Ne.symm nla))
  replace LV := LV.other W6 (Or.inl (Ne.symm nla))
  replace LA := LA.other W6 (Ne.symm nlb)
  have So6 := Sf_a1
  replace Sf_a1 := Safe.wr W6 So6 Cr.1 Sf_a1
  replace Cr := Cr.trans (CHr.wr W6 So6 Cr.1)
  replace Zz := Nat.le_trans Zz (Keep.of_wr W6).1
  replace Kp := Kp.wr W6 (Or.inl (List.mem_of_getElem? (i := 0) rfl))
  have N6 := Fr.snoc X6 N4 g_a1
  refine ownH_step (T' := T6) (f' := (mkF m 26 #[.val (.ref a1), .val (.ref a2), .val (.int (0 : Int32)), .val (.int (0 : Int32)), .val .null, .unset] [])) (fun t k => st6 t k) ?_
  have hgrow : h2.size ≤ h6.size := Nat.le_trans (Keep.of_wr W4).1 (Keep.of_wr W6).1
  exact ownH_retV X6 hS2 (by rw [e6]; exact Nat.le_trans hk2 hgrow) hZ2 hEL hh e6 Cr hx hlk Bd.returns (hb hby d9_26) (by decide) (by decide) (by rw [e6]; exact ⟨rfl, N6, Kp, lb, lk, E_a1, F_coder_a1, F_value_a1, LA⟩)

theorem d8_0 : decode jdk_42_method_3_code 0 = .ok (.aload_n 0, 1) := by decide +kernel
theorem d8_1 : decode jdk_42_method_3_code 1 = .ok (.aload_n 1, 1) := by decide +kernel
theorem d8_2 : decode jdk_42_method_3_code 2 = .ok (.iconst 0, 1) := by decide +kernel
theorem d8_3 : decode jdk_42_method_3_code 3 = .ok (.aload_n 1, 1) := by decide +kernel
theorem d8_4 : decode jdk_42_method_3_code 4 = .ok (.arraylength, 1) := by decide +kernel
theorem d8_5 : decode jdk_42_method_3_code 5 = .ok (.aconst_null, 1) := by decide +kernel
theorem d8_6 : decode jdk_42_method_3_code 6 = .ok (.invokespecial 27, 3) := by decide +kernel
theorem d8_9 : decode jdk_42_method_3_code 9 = .ok (.return_, 1) := by decide +kernel
theorem pn_8 : plainName "java/lang/String" = true := by first | (simp [plainName, overriddenIn]; done) | decide +kernel
theorem pd_8_0 : parseMethodDescriptor "([CIILjava/lang/Void;)V" = some ⟨[(.array .char), .int, .int, (.object "java/lang/Void")], none⟩ := by decide +kernel
theorem ef_rm8_0 (m : MethodId) (x0 : Addr) (x1 : Addr) : entryFrame m #[(.ref x0), (.ref x1)] 2 = mkF m 0 #[.val (.ref x0), .val (.ref x1)] [] := by first | (simp [entryFrame, mkF, argsToLocals, Value.category]; done) | rfl
set_option maxRecDepth 65536 in
set_option maxHeartbeats 40000000 in
theorem rm8_0 (l : Launch) (Z : State) (a0 : Array Value) (hw : ∀ d ∈ tables_1, d.before a0 Z = true) (ws : List Jvm.Cond) (a1 : Addr) (a2 : Addr) (h0 : Heap) (n0 : Nat) (Z0 : n0 ≤ h0.size) (E_a1 : Exa Z h0 a1 "java/lang/String") (F_value_a1 : Fld Z h0 a1 "java/lang/String" "value" "[B" .null) (F_coder_a1 : Fld Z h0 a1 "java/lang/String" "coder" "B" (.int (0 : Int32))) (g_a1 : n0 ≤ a1) (kc : ClassId) (V_a2 : Arv Z h0 a2 kc .char (0 : Int32) [] (.int (0 : Int32))) (hEL : EW Z a0 ownEL) :
    MetFree l (⟨"java/lang/String", "<init>", "([C)V"⟩ : MethodName) (head1 (Jvm.Cond.code (⟨"java/lang/String", "<init>", "([C)V"⟩ : MethodName) jdk_42_method_3_code 2 none :: ws) ({ frames := 2, cells := 2, slots := 4, locals := 30 } : Room)) (fun a U => a = #[(.ref a1), (.ref a2)] ∧ Z.Warmed39 U.vm ∧ U.heap = h0 ∧ CHv Z ownEL U.vm h0) (fun _ _ _ _ _ => True) (fun _ U o U' => ∃ v L, o = .returned v ∧ Q9_0 Z a1 h0 n0 v U'.heap L ∧ CHr Z ownEL U.vm U.heap U'.vm U'.heap ∧ ReturnedEndW U o U' L ({ frames := 2, cells := 2, slots := 4, locals := 30 } : Room).cells ({ frames := 2, cells := 2, slots := 4, locals := 30 } : Room).slots) := by
  refine MetFree.of_bodySF (plainFor_of_name pn_8) hisR ?_
  intro p e s m args below meth c s₁ Bd hml0 hP hK
  obtain ⟨rfl, hZ, hh, hCH⟩ := hP
  have hx := Bd.exec
  have hby := Bd.bytes
  have hlk : meth.locks = false := BodyLoose.notSynchronized Bd
  have hml : c.maxLocals = 2 := hml0
  have hown : s.vm.findClass "java/lang/String" = some m.cls := findClass_of_methodNamed Bd.named
  have hnm := (name_of_methodNamed Bd.named Bd.method).1
  have X0 : Stand p l e ({ frames := 2, cells := 2, slots := 4, locals := 30 } : Room) s m #[(.ref a1), (.ref a2)] below meth c s₁ [] 0 0 := Stand.of_body Bd
  have e0 : s₁.heap = h0 := by rw [← hh, Bd.state]; rfl
  have N0 := Fr.nil n0
  have Cr : CHr Z ownEL s.vm h0 s.vm h0 := CHr.refl hCH
  have Zz := Z0
  have Kp : Keep h0 h0 [] := Keep.refl _ _
  show OwnEndsH Z ownEL p e below s (Q9_0 Z a1 h0 n0) ({ frames := 2, cells := 2, slots := 4, locals := 30 } : Room).cells ({ frames := 2, cells := 2, slots := 4, locals := 30 } : Room).slots s₁ (entryFrame m #[(.ref a1), (.ref a2)] 2)
  refine ownH_step (T' := s₁) (f' := (mkF m 0 #[.val (.ref a1), .val (.ref a2)] [])) (fun t k => castTop (ef_rm8_0 m a1 a2) k) ?_
  refine ownH_step (T' := s₁) (f' := (mkF m 1 #[.val (.ref a1), .val (.ref a2)] [(.ref a1)])) (fun t k => XS.aloadN X0.here hx rfl (hb hby d8_0) rfl rfl k) ?_
  refine ownH_step (T' := s₁) (f' := (mkF m 2 #[.val (.ref a1), .val (.ref a2)] [(.ref a2), (.ref a1)])) (fun t k => XS.aloadN X0.here hx rfl (hb hby d8_1) rfl rfl k) ?_
  refine ownH_step (T' := s₁) (f' := (mkF m 3 #[.val (.ref a1), .val (.ref a2)] [(.int (0 : Int32)), (.ref a2), (.ref a1)])) (fun t k => XS.iconst X0.here hx rfl (hb hby d8_2) k) ?_
  refine ownH_step (T' := s₁) (f' := (mkF m 4 #[.val (.ref a1), .val (.ref a2)] [(.ref a2), (.int (0 : Int32)), (.ref a2), (.ref a1)])) (fun t k => XS.aloadN X0.here hx rfl (hb hby d8_3) rfl rfl k) ?_
  obtain ⟨cl1, Ar1, q1, S1, M1, H1, G1⟩ := id V_a2
  refine ownH_step (T' := s₁) (f' := (mkF m 5 #[.val (.ref a1), .val (.ref a2)] [(.int (0 : Int32)), (.int (0 : Int32)), (.ref a2), (.ref a1)])) (fun t k => X0.arraylength hx (by rw [e0]; exact Ar1.1) (State.isArrayOf_alike hZ.alike Ar1.2.1) (g := (mkF m 4 #[.val (.ref a1), .val (.ref a2)] [(.ref a2), (.int (0 : Int32)), (.ref a2), (.ref a1)])) rfl rfl (hb hby d8_4) _ (by rw [len_of S1 M1]; exact k)) ?_
  refine ownH_step (T' := s₁) (f' := (mkF m 6 #[.val (.ref a1), .val (.ref a2)] [.null, (.int (0 : Int32)), (.int (0 : Int32)), (.ref a2), (.ref a1)])) (fun t k => XS.aconstNull X0.here hx rfl (hb hby d8_5) k) ?_
  obtain ⟨_, _, ⟨T2, L2, k2, n2⟩, -, X2, hS2, hgr2, ⟨Lc2, hQ2, l2, y2, z2, C2⟩, st2⟩ := X0.specialBackS hx (y := (⟨"java/lang/String", "<init>", "([CIILjava/lang/Void;)V"⟩ : MethodName)) rfl hown (mvT hZ (hw _ (List.mem_of_getElem? (i := 46) rfl))) (mvT hZ (hw _ (List.mem_of_getElem? (i := 47) rfl))) (mvT hZ (hw _ (List.mem_of_getElem? (i := 49) rfl))) (by decide) (backOfSH (s := s) (vm0 := s.vm) (W := 0) (rm9_0 l Z a0 hw [] a1 a2 h0 n0 Zz E_a1 F_value_a1 F_coder_a1 g_a1 hEL) hZ (hw _ (List.mem_of_getElem? (i := 49) rfl)) (hw _ (List.mem_of_getElem? (i := 42) rfl)) (by decide) (by decide) hEL Cr.1) (g := (mkF m 6 #[.val (.ref a1), .val (.ref a2)] [.null, (.int (0 : Int32)), (.int (0 : Int32)), (.ref a2), (.ref a1)])) rfl (by rw [hml]; rfl) (Steps.refl _) (a := a1) (argsL := [(.ref a2), (.int (0 : Int32)), (.int (0 : Int32)), .null]) (rest := []) (lenOf pd_8_0 rfl) rfl (by show 2 * 0 + _ ≤ _; exact Nat.le_of_eq rfl) (hb hby d8_6) (fun _ _ => ⟨rfl, e0, (by decide : 0 + 2 ≤ _), (by decide : 0 + 4 ≤ _)⟩)
  dsimp only [Pt.U, Pt.locs, Pt.cells, Pt.slots] at X2 l2 y2 z2 st2 hQ2 hS2 hgr2 C2
  subst l2 y2 z2
  obtain ⟨rfl, N2q, K2, Ow2⟩ := hQ2
  have N2 := Fr.app N0 N2q
  have hZ2 : Z.Warmed39 T2.vm := State.Warmed39.trans hZ hS2.1
  have hown2 : T2.vm.findClass "java/lang/String" = some m.cls := by rw [hS2.1.alike.findClass]; exact hown
  replace Cr := Cr.trans C2
  refine ownH_step (T' := T2) (f' := (mkF m 9 #[.val (.ref a1), .val (.ref a2)] [])) (fun t k => st2.trans k) ?_
  exact ownH_retV X2 hS2 (Nat.le_refl _) hZ2 hEL hh rfl Cr hx hlk Bd.returns (hb hby d8_9) (by decide) (by decide) ⟨rfl, N2, K2, Ow2⟩

theorem d7_0 : decode method_3_code 0 = .ok (.iload_n 0, 1) := by decide +kernel
theorem d7_1 : decode method_3_code 1 = .ok (.ifCond .gt 14, 3) := by decide +kernel
theorem d7_4 : decode method_3_code 4 = .ok (.new 7, 3) := by decide +kernel
theorem d7_7 : decode method_3_code 7 = .ok (.dup, 1) := by decide +kernel
theorem d7_8 : decode method_3_code 8 = .ok (.iconst 0, 1) := by decide +kernel
theorem d7_9 : decode method_3_code 9 = .ok (.newarray .char, 2) := by decide +kernel
theorem d7_11 : decode method_3_code 11 = .ok (.invokespecial 9, 3) := by decide +kernel
theorem d7_14 : decode method_3_code 14 = .ok (.areturn, 1) := by decide +kernel
theorem pn_7 : plainName "com/example/lit2/lit2/weave/TexOutputDropFinalBreakPinLaw" = true := by first | (simp [plainName, overriddenIn]; done) | decide +kernel
theorem pd_7_0 : parseMethodDescriptor "([C)V" = some ⟨[(.array .char)], none⟩ := by decide +kernel
theorem ef_rm7_0 (m : MethodId) (x0 : Int32) (x1 : Addr) : entryFrame m #[(.int x0), (.ref x1)] 2 = mkF m 0 #[.val (.int x0), .val (.ref x1)] [] := by first | (simp [entryFrame, mkF, argsToLocals, Value.category]; done) | rfl
set_option maxRecDepth 65536 in
set_option maxHeartbeats 40000000 in
theorem rm7_0 (l : Launch) (Z : State) (a0 : Array Value) (hw : ∀ d ∈ tables_1, d.before a0 Z = true) (ws : List Jvm.Cond) (a2 : Addr) (h0 : Heap) (n0 : Nat) (Z0 : n0 ≤ h0.size) (hEL : EW Z a0 ownEL) :
    MetFree l (⟨"com/example/lit2/lit2/weave/TexOutputDropFinalBreakPinLaw", "str", "(I[C)Ljava/lang/String;"⟩ : MethodName) (head1 (Jvm.Cond.code (⟨"com/example/lit2/lit2/weave/TexOutputDropFinalBreakPinLaw", "str", "(I[C)Ljava/lang/String;"⟩ : MethodName) method_3_code 2 (some (.object "java/lang/String")) :: ws) ({ frames := 3, cells := 4, slots := 8, locals := 45 } : Room)) (fun a U => a = #[(.int (0 : Int32)), (.ref a2)] ∧ Z.Warmed39 U.vm ∧ U.heap = h0 ∧ CHv Z ownEL U.vm h0) (fun _ _ _ _ _ => True) (fun _ U o U' => ∃ v L, o = .returned v ∧ Q7_0 Z h0 n0 v U'.heap L ∧ CHr Z ownEL U.vm U.heap U'.vm U'.heap ∧ ReturnedEndW U o U' L ({ frames := 3, cells := 4, slots := 8, locals := 45 } : Room).cells ({ frames := 3, cells := 4, slots := 8, locals := 45 } : Room).slots) := by
  refine MetFree.of_bodySF (plainFor_of_name pn_7) hisR ?_
  intro p e s m args below meth c s₁ Bd hml0 hP hK
  obtain ⟨rfl, hZ, hh, hCH⟩ := hP
  have hx := Bd.exec
  have hby := Bd.bytes
  have hlk : meth.locks = false := BodyLoose.notSynchronized Bd
  have hml : c.maxLocals = 2 := hml0
  have hown : s.vm.findClass "com/example/lit2/lit2/weave/TexOutputDropFinalBreakPinLaw" = some m.cls := findClass_of_methodNamed Bd.named
  have hnm := (name_of_methodNamed Bd.named Bd.method).1
  have X0 : Stand p l e ({ frames := 3, cells := 4, slots := 8, locals := 45 } : Room) s m #[(.int (0 : Int32)), (.ref a2)] below meth c s₁ [] 0 0 := Stand.of_body Bd
  have e0 : s₁.heap = h0 := by rw [← hh, Bd.state]; rfl
  have N0 := Fr.nil n0
  have Cr : CHr Z ownEL s.vm h0 s.vm h0 := CHr.refl hCH
  have Zz := Z0
  have Kp : Keep h0 h0 [] := Keep.refl _ _
  show OwnEndsH Z ownEL p e below s (Q7_0 Z h0 n0) ({ frames := 3, cells := 4, slots := 8, locals := 45 } : Room).cells ({ frames := 3, cells := 4, slots := 8, locals := 45 } : Room).slots s₁ (entryFrame m #[(.int (0 : Int32)), (.ref a2)] 2)
  refine ownH_step (T' := s₁) (f' := (mkF m 0 #[.val (.int (0 : Int32)), .val (.ref a2)] [])) (fun t k => castTop (ef_rm7_0 m (0 : Int32) a2) k) ?_
  refine ownH_step (T' := s₁) (f' := (mkF m 1 #[.val (.int (0 : Int32)), .val (.ref a2)] [(.int (0 : Int32))])) (fun t k => XS.iloadN X0.here hx rfl (hb hby d7_0) rfl k) ?_
  refine ownH_step (T' := s₁) (f' := (mkF m 4 #[.val (.int (0 : Int32)), .val (.ref a2)] [])) (fun t k => XS.ifNo X0.here hx rfl (hb hby d7_1) rfl ((if0 _ _).trans (flt (by decide : ¬ ((0 : Int32) < (0 : Int32)))).2.2.1) k) ?_
  obtain ⟨T1, h1, X1, e1, E1, A1, D1, -, st1⟩ := newO X0 hx hZ hown (hw _ (List.mem_of_getElem? (i := 40) rfl)) (hw _ (List.mem_of_getElem? (i := 41) rfl)) (hw _ (List.mem_of_getElem? (i := 42) rfl)) e0 (g := (mkF m 4 #[.val (.int (0 : Int32)), .val (.ref a2)] [])) rfl (hb hby d7_4) (by decide) (by decide)
  obtain ⟨b1, g1⟩ : ∃ z, z = h0.size := ⟨_, rfl⟩
  rw [← g1] at A1 D1 st1
  have Sf_b1 : Safe Z ownEL s.vm h0 b1 := Safe.new (Nat.le_of_eq g1.symm)
  have g_b1 : n0 ≤ b1 := Nat.le_trans Zz (Nat.le_of_eq g1.symm)
  have sz_b1 : h0.size ≤ b1 := Nat.le_trans Kp.1 (Nat.le_of_eq g1.symm)
  replace Sf_b1 := Safe.ext E1 Cr.1 Sf_b1
  replace Cr := Cr.trans (CHr.ext E1 Cr.1)
  replace Zz := Nat.le_trans Zz E1.1
  replace Kp := Kp.ext E1
  have E_b1 := A1
  have F_coder_b1 : Fld Z h1 b1 "java/lang/String" "coder" "B" (.int (0 : Int32)) := D1 (Or.inr (hw _ (List.mem_of_getElem? (i := 63) rfl))) (ty := .byte) (by decide)
  have F_value_b1 : Fld Z h1 b1 "java/lang/String" "value" "[B" .null := D1 (Or.inr (hw _ (List.mem_of_getElem? (i := 65) rfl))) (ty := (.array .byte)) (by decide)
  refine ownH_step (T' := T1) (f' := (mkF m 7 #[.val (.int (0 : Int32)), .val (.ref a2)] [(.ref b1)])) (fun t k => st1 t k) ?_
  refine ownH_step (T' := T1) (f' := (mkF m 8 #[.val (.int (0 : Int32)), .val (.ref a2)] [(.ref b1), (.ref b1)])) (fun t k => XS.dup X1.here hx rfl (hb hby d7_7) rfl rfl k) ?_
  refine ownH_step (T' := T1) (f' := (mkF m 9 #[.val (.int (0 : Int32)), .val (.ref a2)] [(.int (0 : Int32)), (.ref b1), (.ref b1)])) (fun t k => XS.iconst X1.here hx rfl (hb hby d7_8) k) ?_
  obtain ⟨T2, h2, k2, X2, e2, E2, A2, EX2, st2⟩ := newPE X1 hx hZ (hw _ (List.mem_of_getElem? (i := 0) rfl)) e1 (g := (mkF m 9 #[.val (.int (0 : Int32)), .val (.ref a2)] [(.int (0 : Int32)), (.ref b1), (.ref b1)])) rfl (hb hby d7_9) rfl (by decide) (cap := 0) (by decide) (by decide) (by decide) (by decide) (ad := "[C") rfl
  obtain ⟨b2, g2⟩ : ∃ z, z = h1.size := ⟨_, rfl⟩
  rw [← g2] at A2 EX2 st2
  have Sf_b2 : Safe Z ownEL s.vm h1 b2 := Safe.new (Nat.le_of_eq g2.symm)
  have ne_b1_b2 : b1 ≠ b2 := Nat.ne_of_lt (Nat.lt_of_lt_of_le E_b1.lt (Nat.le_of_eq g2.symm))
  have g_b2 : n0 ≤ b2 := Nat.le_trans Zz (Nat.le_of_eq g2.symm)
  have sz_b2 : h0.size ≤ b2 := Nat.le_trans Kp.1 (Nat.le_of_eq g2.symm)
  replace Sf_b1 := Safe.ext E2 Cr.1 Sf_b1
  replace E_b1 := E_b1.ext E2
  replace F_coder_b1 := F_coder_b1.ext E2
  replace F_value_b1 := F_value_b1.ext E2
  replace Sf_b2 := Safe.ext E2 Cr.1 Sf_b2
  replace Cr := Cr.trans (CHr.ext E2 Cr.1)
  replace Zz := Nat.le_trans Zz E2.1
  replace Kp := Kp.ext E2
  have V_b2 : Arv Z h2 b2 k2 .char (0 : Int32) [] (.int (0 : Int32)) := (Arv.new A2 (by decide)).pad (pad_rep [] (.int (0 : Int32)) 0)
  have EX_b2 := EX2
  refine ownH_step (T' := T2) (f' := (mkF m 11 #[.val (.int (0 : Int32)), .val (.ref a2)] [(.ref b2), (.ref b1), (.ref b1)])) (fun t k => st2 t k) ?_
  obtain ⟨_, _, ⟨T3, L3, k3, n3⟩, -, X3, hS3, hgr3, ⟨Lc3, hQ3, l3, y3, z3, C3⟩, st3⟩ := X2.specialBackS hx (y := (⟨"java/lang/String", "<init>", "([C)V"⟩ : MethodName)) rfl hown (mvT hZ (hw _ (List.mem_of_getElem? (i := 43) rfl))) (mvT hZ (hw _ (List.mem_of_getElem? (i := 44) rfl))) (mvT hZ (hw _ (List.mem_of_getElem? (i := 45) rfl))) (by decide) (backOfSH (s := s) (vm0 := s.vm) (W := 1) (rm8_0 l Z a0 hw [] b1 b2 h2 n0 Zz E_b1 F_value_b1 F_coder_b1 g_b1 k2 V_b2 hEL) hZ (hw _ (List.mem_of_getElem? (i := 45) rfl)) (hw _ (List.mem_of_getElem? (i := 42) rfl)) (by decide) (by decide) hEL Cr.1) (g := (mkF m 11 #[.val (.int (0 : Int32)), .val (.ref a2)] [(.ref b2), (.ref b1), (.ref b1)])) rfl (by rw [hml]; rfl) (Steps.refl _) (a := b1) (argsL := [(.ref b2)]) (rest := [(.ref b1)]) (lenOf pd_7_0 rfl) rfl (by show 2 * 0 + _ ≤ _; exact Nat.le_of_eq rfl) (hb hby d7_11) (fun _ _ => ⟨rfl, e2, (by decide : 2 + 2 ≤ _), (by decide : 4 + 4 ≤ _)⟩)
  dsimp only [Pt.U, Pt.locs, Pt.cells, Pt.slots] at X3 l3 y3 z3 st3 hQ3 hS3 hgr3 C3
  subst l3 y3 z3
  obtain ⟨rfl, N3q, K3, sb3, sk3, Os3⟩ := hQ3
  have N3 := Fr.app N0 N3q
  have hZ3 : Z.Warmed39 T3.vm := State.Warmed39.trans hZ hS3.1
  have hown3 : T3.vm.findClass "com/example/lit2/lit2/weave/TexOutputDropFinalBreakPinLaw" = some m.cls := by rw [hS3.1.alike.findClass]; exact hown
  replace E_b1 := E_b1.keep K3
  replace V_b2 := V_b2.keep K3 (ninS (Ne.symm ne_b1_b2) nin0)
  replace EX_b2 := EX_b2.keep K3
  replace Zz := Nat.le_trans Zz K3.1
  replace Kp := Kp.trans K3 (allS (Or.inr sz_b1) all0)
  replace Cr := Cr.trans C3
  refine ownH_step (T' := T3) (f' := (mkF m 14 #[.val (.int (0 : Int32)), .val (.ref a2)] [(.ref b1)])) (fun t k => st3.trans k) ?_
  exact ownH_retO X3 hS3 (Nat.le_refl _) hZ3 hEL hh rfl Cr hx hlk Bd.returns rfl (Or.inr (Or.inr (Or.inr (Or.inr ⟨rfl, rfl, rfl⟩)))) (hb hby d7_14) (by decide) (by decide) ⟨b1, sb3, sk3, rfl, N3, Kp, Os3⟩

theorem ef_rm14_1 (m : MethodId) (x0 : Addr) : entryFrame m #[(.ref x0)] 1 = mkF m 0 #[.val (.ref x0)] [] := by first | (simp [entryFrame, mkF, argsToLocals, Value.category]; done) | rfl
set_option maxRecDepth 65536 in
set_option maxHeartbeats 40000000 in
theorem rm14_1 (l : Launch) (Z : State) (a0 : Array Value) (hw : ∀ d ∈ tables_1, d.before a0 Z = true) (ws : List Jvm.Cond) (a1 : Addr) (h0 : Heap) (n0 : Nat) (Z0 : n0 ≤ h0.size) (b : Addr) (kb : ClassId) (y0 : Int32) (O : OwnStr Z h0 a1 b kb 1 [(.int y0)]) (cs : Int32) (S_CS : Sta Z h0 "java/lang/String" "COMPACT_STRINGS" "Z" (.int cs)) (hcs : ¬ cs = (0 : Int32)) :
    MetFree l (⟨"java/lang/String", "length", "()I"⟩ : MethodName) (head1 (Jvm.Cond.code (⟨"java/lang/String", "length", "()I"⟩ : MethodName) jdk_42_method_54_code 1 (some .int) :: ws) ({ frames := 1, cells := 0, slots := 0, locals := 13 } : Room)) (fun a U => a = #[(.ref a1)] ∧ Z.Warmed39 U.vm ∧ U.heap = h0) (fun _ _ _ _ _ => True) (fun _ U o U' => ∃ v L, o = .returned v ∧ QI 1 h0 n0 v U'.heap L ∧ FrameEnd U o U' L ({ frames := 1, cells := 0, slots := 0, locals := 13 } : Room).cells ({ frames := 1, cells := 0, slots := 0, locals := 13 } : Room).slots) := by
  refine MetFree.of_bodySF (plainFor_of_name pn_14) hisR ?_
  intro p e s m args below meth c s₁ Bd hml0 hP hK
  obtain ⟨rfl, hZ, hh⟩ := hP
  have hx := Bd.exec
  have hby := Bd.bytes
  have hlk : meth.locks = false := BodyLoose.notSynchronized Bd
  have hml : c.maxLocals = 1 := hml0
  have hown : s.vm.findClass "java/lang/String" = some m.cls := findClass_of_methodNamed Bd.named
  have hnm := (name_of_methodNamed Bd.named Bd.method).1
  have X0 : Stand p l e ({ frames := 1, cells := 0, slots := 0, locals := 13 } : Room) s m #[(.ref a1)] below meth c s₁ [] 0 0 := Stand.of_body Bd
  have e0 : s₁.heap = h0 := by rw [← hh, Bd.state]; rfl
  have N0 := Fr.nil n0
  have Zz := Z0
  have Kp : Keep h0 h0 [] := Keep.refl _ _
  have V_b := O.2.2.2
  show OwnEnds p e below s (QI 1 h0 n0) ({ frames := 1, cells := 0, slots := 0, locals := 13 } : Room).cells ({ frames := 1, cells := 0, slots := 0, locals := 13 } : Room).slots s₁ (entryFrame m #[(.ref a1)] 1)
  refine own_step (T' := s₁) (f' := (mkF m 0 #[.val (.ref a1)] [])) (fun t k => castTop (ef_rm14_1 m a1) k) ?_
  refine own_step (T' := s₁) (f' := (mkF m 1 #[.val (.ref a1)] [(.ref a1)])) (fun t k => XS.aloadN X0.here hx rfl (hb hby d14_0) rfl rfl k) ?_
  obtain ⟨T1, X1, e1, st1⟩ := getF X0 hx hZ hown (host := "") (Or.inl (hw _ (List.mem_of_getElem? (i := 64) rfl))) Via.refl e0 O.2.2.1 (g := (mkF m 1 #[.val (.ref a1)] [(.ref a1)])) rfl rfl (hb hby d14_1)
  refine own_step (T' := T1) (f' := (mkF m 4 #[.val (.ref a1)] [(.ref b)])) (fun t k => st1 t k) ?_
  obtain ⟨cl2, Ar2, q2, S2, M2, H2, G2⟩ := id V_b
  refine own_step (T' := T1) (f' := (mkF m 5 #[.val (.ref a1)] [(.int (1 : Int32))])) (fun t k => X1.arraylength hx (by rw [e1]; exact Ar2.1) (State.isArrayOf_alike hZ.alike Ar2.2.1) (g := (mkF m 4 #[.val (.ref a1)] [(.ref b)])) rfl rfl (hb hby d14_4) _ (by rw [len_of S2 M2]; exact k)) ?_
  refine own_step (T' := T1) (f' := (mkF m 6 #[.val (.ref a1)] [(.ref a1), (.int (1 : Int32))])) (fun t k => XS.aloadN X1.here hx rfl (hb hby d14_5) rfl rfl k) ?_
  obtain ⟨cq3, kq3, q3a, q3b, q3c⟩ := isOf hZ e1 O.1
  obtain ⟨_, _, ⟨T3, L3, k3, n3⟩, -, X3, ⟨Lc3, hQ3, l3, y3, z3⟩, st3⟩ := X1.virtualBack hx (y := (⟨"java/lang/String", "coder", "()B"⟩ : MethodName)) (z := (⟨"java/lang/String", "coder", "()B"⟩ : MethodName)) hown (mvT hZ (hw _ (List.mem_of_getElem? (i := 76) rfl))) (mvT hZ (hw _ (List.mem_of_getElem? (i := 77) rfl))) (notFace_of_selects (args := #[]) (mvT hZ (hw _ (List.mem_of_getElem? (i := 79) rfl)))) (mvT hZ (hw _ (List.mem_of_getElem? (i := 79) rfl))) (mvT hZ (hw _ (List.mem_of_getElem? (i := 78) rfl))) (by decide) (backOf (W := 1) (rm15 l Z a0 hw [] a1 h0 n0 Zz O.2.1 cs S_CS hcs) hZ (hw _ (List.mem_of_getElem? (i := 80) rfl)) (hw _ (List.mem_of_getElem? (i := 42) rfl)) (by decide) (by decide)) q3a q3c (g := (mkF m 6 #[.val (.ref a1)] [(.ref a1), (.int (1 : Int32))])) rfl (by rw [hml]; rfl) (Steps.refl _) (argsL := []) (rest := [(.int (1 : Int32))]) (lenOf pd_14_0 rfl) rfl (by show 2 * 0 + _ ≤ _; exact Nat.le_of_eq rfl) (hb hby d14_6) (fun _ _ => ⟨rfl, e1, (by decide : 0 + 0 ≤ _), (by decide : 0 + 0 ≤ _)⟩)
  dsimp only [Pt.U, Pt.locs, Pt.cells, Pt.slots] at X3 l3 y3 z3 st3 hQ3
  subst l3 y3 z3
  obtain ⟨rfl, N3q, E3⟩ := hQ3
  have N3 := Fr.app N0 N3q
  refine own_step (T' := T3) (f' := (mkF m 9 #[.val (.ref a1)] [(.int (0 : Int32)), (.int (1 : Int32))])) (fun t k => st3.trans k) ?_
  refine own_step (T' := T3) (f' := (mkF m 10 #[.val (.ref a1)] [(.int ((1 : Int32) >>> ((0 : Int32) &&& 31)))])) (fun t k => XS.ishr X3.here hx rfl (hb hby d14_9) rfl k) ?_
  exact own_retO X3 hx hlk Bd.returns rfl (Or.inl ⟨rfl, Or.inl rfl, _, rfl⟩) (hb hby d14_10) (by decide) (by decide) ⟨rfl, N3, E3⟩

theorem d20_0 : decode jdk_41_method_11_code 0 = .ok (.iload_n 0, 1) := by decide +kernel
theorem d20_1 : decode jdk_41_method_11_code 1 = .ok (.ifCond .lt 8, 3) := by decide +kernel
theorem d20_4 : decode jdk_41_method_11_code 4 = .ok (.iload_n 0, 1) := by decide +kernel
theorem d20_5 : decode jdk_41_method_11_code 5 = .ok (.iload_n 1, 1) := by decide +kernel
theorem d20_6 : decode jdk_41_method_11_code 6 = .ok (.if_icmp .lt 10, 3) := by decide +kernel
theorem d20_16 : decode jdk_41_method_11_code 16 = .ok (.iload_n 0, 1) := by decide +kernel
theorem d20_17 : decode jdk_41_method_11_code 17 = .ok (.ireturn, 1) := by decide +kernel
theorem pn_20 : plainName "jdk/internal/util/Preconditions" = true := by first | (simp [plainName, overriddenIn]; done) | decide +kernel
theorem ef_rm20_1_0 (m : MethodId) (x0 : Int32) (x1 : Int32) (x2 : Value) (hv : x2.category = 1) : entryFrame m #[(.int x0), (.int x1), x2] 3 = mkF m 0 #[.val (.int x0), .val (.int x1), .val x2] [] := by cases x2 <;> first | (simp [entryFrame, mkF, argsToLocals, Value.category]; done) | (simp [Value.category] at hv; done)
set_option maxRecDepth 65536 in
set_option maxHeartbeats 40000000 in
theorem rm20_1_0 (l : Launch) (Z : State) (a0 : Array Value) (hw : ∀ d ∈ tables_1, d.before a0 Z = true) (ws : List Jvm.Cond) (fm : Value) (h0 : Heap) (n0 : Nat) (Z0 : n0 ≤ h0.size) (hfc : fm.category = 1) :
    MetFree l (⟨"jdk/internal/util/Preconditions", "checkIndex", "(IILjava/util/function/BiFunction;)I"⟩ : MethodName) (head1 (Jvm.Cond.code (⟨"jdk/internal/util/Preconditions", "checkIndex", "(IILjava/util/function/BiFunction;)I"⟩ : MethodName) jdk_41_method_11_code 3 (some .int) :: ws) ({ frames := 0, cells := 0, slots := 0, locals := 0 } : Room)) (fun a U => a = #[(.int (0 : Int32)), (.int (1 : Int32)), fm] ∧ Z.Warmed39 U.vm ∧ U.heap = h0) (fun _ _ _ _ _ => True) (fun _ U o U' => ∃ v L, o = .returned v ∧ QI 0 h0 n0 v U'.heap L ∧ FrameEnd U o U' L ({ frames := 0, cells := 0, slots := 0, locals := 0 } : Room).cells ({ frames := 0, cells := 0, slots := 0, locals := 0 } : Room).slots) := by
  refine MetFree.of_bodySF (plainFor_of_name pn_20) hisR ?_
  intro p e s m args below meth c s₁ Bd hml0 hP hK
  obtain ⟨rfl, hZ, hh⟩ := hP
  have hx := Bd.exec
  have hby := Bd.bytes
  have hlk : meth.locks = false := BodyLoose.notSynchronized Bd
  have hml : c.maxLocals = 3 := hml0
  have hown : s.vm.findClass "jdk/internal/util/Preconditions" = some m.cls := findClass_of_methodNamed Bd.named
  have hnm := (name_of_methodNamed Bd.named Bd.method).1
  have X0 : Stand p l e ({ frames := 0, cells := 0, slots := 0, locals := 0 } : Room) s m #[(.int (0 : Int32)), (.int (1 : Int32)), fm] below meth c s₁ [] 0 0 := Stand.of_body Bd
  have e0 : s₁.heap = h0 := by rw [← hh, Bd.state]; rfl
  have N0 := Fr.nil n0
  show OwnEnds p e below s (QI 0 h0 n0) ({ frames := 0, cells := 0, slots := 0, locals := 0 } : Room).cells ({ frames := 0, cells := 0, slots := 0, locals := 0 } : Room).slots s₁ (entryFrame m #[(.int (0 : Int32)), (.int (1 : Int32)), fm] 3)
  refine own_step (T' := s₁) (f' := (mkF m 0 #[.val (.int (0 : Int32)), .val (.int (1 : Int32)), .val fm] [])) (fun t k => castTop (ef_rm20_1_0 m (0 : Int32) (1 : Int32) fm hfc) k) ?_
  refine own_step (T' := s₁) (f' := (mkF m 1 #[.val (.int (0 : Int32)), .val (.int (1 : Int32)), .val fm] [(.int (0 : Int32))])) (fun t k => XS.iloadN X0.here hx rfl (hb hby d20_0) rfl k) ?_
  refine own_step (T' := s₁) (f' := (mkF m 4 #[.val (.int (0 : Int32)), .val (.int (1 : Int32)), .val fm] [])) (fun t k => XS.ifNo X0.here hx rfl (hb hby d20_1) rfl ((if0 _ _).trans (flt (by decide : ¬ ((0 : Int32) < (0 : Int32)))).1) k) ?_
  refine own_step (T' := s₁) (f' := (mkF m 5 #[.val (.int (0 : Int32)), .val (.int (1 : Int32)), .val fm] [(.int (0 : Int32))])) (fun t k => XS.iloadN X0.here hx rfl (hb hby d20_4) rfl k) ?_
  refine own_step (T' := s₁) (f' := (mkF m 6 #[.val (.int (0 : Int32)), .val (.int (1 : Int32)), .val fm] [(.int (1 : Int32)), (.int (0 : Int32))])) (fun t k => XS.iloadN X0.here hx rfl (hb hby d20_5) rfl k) ?_
  refine own_step (T' := s₁) (f' := (mkF m 16 #[.val (.int (0 : Int32)), .val (.int (1 : Int32)), .val fm] [])) (fun t k => XS.icmpYes X0.here hx rfl (pc0 := 6) (pc' := 16) rfl (hb hby d20_6) rfl (tlt (by decide : (0 : Int32) < (1 : Int32))).1 (by decide) (by decide) k) ?_
  refine own_step (T' := s₁) (f' := (mkF m 17 #[.val (.int (0 : Int32)), .val (.int (1 : Int32)), .val fm] [(.int (0 : Int32))])) (fun t k => XS.iloadN X0.here hx rfl (hb hby d20_16) rfl k) ?_
  exact own_retO X0 hx hlk Bd.returns rfl (Or.inl ⟨rfl, Or.inl rfl, _, rfl⟩) (hb hby d20_17) (by decide) (by decide) ⟨rfl, N0, e0⟩

theorem d19_0 : decode jdk_42_method_155_code 0 = .ok (.iload_n 0, 1) := by decide +kernel
theorem d19_1 : decode jdk_42_method_155_code 1 = .ok (.iload_n 1, 1) := by decide +kernel
theorem d19_2 : decode jdk_42_method_155_code 2 = .ok (.getstatic 1053, 3) := by decide +kernel
theorem d19_5 : decode jdk_42_method_155_code 5 = .ok (.invokestatic 1059, 3) := by decide +kernel
theorem d19_8 : decode jdk_42_method_155_code 8 = .ok (.pop, 1) := by decide +kernel
theorem d19_9 : decode jdk_42_method_155_code 9 = .ok (.return_, 1) := by decide +kernel
theorem pn_19 : plainName "java/lang/String" = true := by first | (simp [plainName, overriddenIn]; done) | decide +kernel
theorem pd_19_0 : parseMethodDescriptor "(IILjava/util/function/BiFunction;)I" = some ⟨[.int, .int, (.object "java/util/function/BiFunction")], some .int⟩ := by decide +kernel
theorem ef_rm19_1_0 (m : MethodId) (x0 : Int32) (x1 : Int32) : entryFrame m #[(.int x0), (.int x1)] 2 = mkF m 0 #[.val (.int x0), .val (.int x1)] [] := by first | (simp [entryFrame, mkF, argsToLocals, Value.category]; done) | rfl
set_option maxRecDepth 65536 in
set_option maxHeartbeats 40000000 in
theorem rm19_1_0 (l : Launch) (Z : State) (a0 : Array Value) (hw : ∀ d ∈ tables_1, d.before a0 Z = true) (ws : List Jvm.Cond)  (h0 : Heap) (n0 : Nat) (Z0 : n0 ≤ h0.size) (fm : Value) (S_FM : Sta Z h0 "jdk/internal/util/Preconditions" "SIOOBE_FORMATTER" "Ljava/util/function/BiFunction;" fm) (hfc : fm.category = 1) (hfr : fm.isRef = true) :
    MetFree l (⟨"java/lang/String", "checkIndex", "(II)V"⟩ : MethodName) (head1 (Jvm.Cond.code (⟨"java/lang/String", "checkIndex", "(II)V"⟩ : MethodName) jdk_42_method_155_code 2 none :: ws) ({ frames := 1, cells := 0, slots := 0, locals := 14 } : Room)) (fun a U => a = #[(.int (0 : Int32)), (.int (1 : Int32))] ∧ Z.Warmed39 U.vm ∧ U.heap = h0) (fun _ _ _ _ _ => True) (fun _ U o U' => ∃ v L, o = .returned v ∧ QV h0 n0 v U'.heap L ∧ FrameEnd U o U' L ({ frames := 1, cells := 0, slots := 0, locals := 14 } : Room).cells ({ frames := 1, cells := 0, slots := 0, locals := 14 } : Room).slots) := by
  refine MetFree.of_bodySF (plainFor_of_name pn_19) hisR ?_
  intro p e s m args below meth c s₁ Bd hml0 hP hK
  obtain ⟨rfl, hZ, hh⟩ := hP
  have hx := Bd.exec
  have hby := Bd.bytes
  have hlk : meth.locks = false := BodyLoose.notSynchronized Bd
  have hml : c.maxLocals = 2 := hml0
  have hown : s.vm.findClass "java/lang/String" = some m.cls := findClass_of_methodNamed Bd.named
  have hnm := (name_of_methodNamed Bd.named Bd.method).1
  have X0 : Stand p l e ({ frames := 1, cells := 0, slots := 0, locals := 14 } : Room) s m #[(.int (0 : Int32)), (.int (1 : Int32))] below meth c s₁ [] 0 0 := Stand.of_body Bd
  have e0 : s₁.heap = h0 := by rw [← hh, Bd.state]; rfl
  have N0 := Fr.nil n0
  show OwnEnds p e below s (QV h0 n0) ({ frames := 1, cells := 0, slots := 0, locals := 14 } : Room).cells ({ frames := 1, cells := 0, slots := 0, locals := 14 } : Room).slots s₁ (entryFrame m #[(.int (0 : Int32)), (.int (1 : Int32))] 2)
  refine own_step (T' := s₁) (f' := (mkF m 0 #[.val (.int (0 : Int32)), .val (.int (1 : Int32))] [])) (fun t k => castTop (ef_rm19_1_0 m (0 : Int32) (1 : Int32)) k) ?_
  refine own_step (T' := s₁) (f' := (mkF m 1 #[.val (.int (0 : Int32)), .val (.int (1 : Int32))] [(.int (0 : Int32))])) (fun t k => XS.iloadN X0.here hx rfl (hb hby d19_0) rfl k) ?_
  refine own_step (T' := s₁) (f' := (mkF m 2 #[.val (.int (0 : Int32)), .val (.int (1 : Int32))] [(.int (1 : Int32)), (.int (0 : Int32))])) (fun t k => XS.iloadN X0.here hx rfl (hb hby d19_1) rfl k) ?_
  obtain ⟨T1, X1, e1, st1⟩ := getS2 X0 hx hZ hown (host := "") (Or.inl (hw _ (List.mem_of_getElem? (i := 98) rfl))) Via.refl e0 S_FM (g := (mkF m 2 #[.val (.int (0 : Int32)), .val (.int (1 : Int32))] [(.int (1 : Int32)), (.int (0 : Int32))])) rfl (hb hby d19_2)
  refine own_step (T' := T1) (f' := (mkF m 5 #[.val (.int (0 : Int32)), .val (.int (1 : Int32))] [fm, (.int (1 : Int32)), (.int (0 : Int32))])) (fun t k => st1 t k) ?_
  obtain ⟨_, _, ⟨T2, L2, k2, n2⟩, -, X2, ⟨Lc2, hQ2, l2, y2, z2⟩, st2⟩ := Jvm.LawKit.callS X1 hx (y := (⟨"jdk/internal/util/Preconditions", "checkIndex", "(IILjava/util/function/BiFunction;)I"⟩ : MethodName)) hown (mvT hZ (hw _ (List.mem_of_getElem? (i := 100) rfl))) (mvT hZ (hw _ (List.mem_of_getElem? (i := 101) rfl))) (mvT hZ (hw _ (List.mem_of_getElem? (i := 99) rfl))) (mvT hZ (hw _ (List.mem_of_getElem? (i := 102) rfl))) (by decide) (backOf (W := 0) (rm20_1_0 l Z a0 hw [] fm h0 n0 Z0 hfc) hZ (hw _ (List.mem_of_getElem? (i := 102) rfl)) (hw _ (List.mem_of_getElem? (i := 99) rfl)) (by decide) (by decide)) (g := (mkF m 5 #[.val (.int (0 : Int32)), .val (.int (1 : Int32))] [fm, (.int (1 : Int32)), (.int (0 : Int32))])) rfl (by rw [hml]; rfl) (argsL := [(.int (0 : Int32)), (.int (1 : Int32)), fm]) (rest := []) (lenOf pd_19_0 rfl) rfl (by show 2 * 0 + _ ≤ _; exact Nat.le_of_eq rfl) (hb hby d19_5) (fun _ _ => ⟨rfl, e1, (by decide : 0 + 0 ≤ _), (by decide : 0 + 0 ≤ _)⟩)
  dsimp only [Pt.U, Pt.locs, Pt.cells, Pt.slots] at X2 l2 y2 z2 st2 hQ2
  subst l2 y2 z2
  obtain ⟨rfl, N2q, E2⟩ := hQ2
  have N2 := Fr.app N0 N2q
  refine own_step (T' := T2) (f' := (mkF m 8 #[.val (.int (0 : Int32)), .val (.int (1 : Int32))] [(.int (0 : Int32))])) (fun t k => st2 t k) ?_
  refine own_step (T' := T2) (f' := (mkF m 9 #[.val (.int (0 : Int32)), .val (.int (1 : Int32))] [])) (fun t k => XS.pop X2.here hx rfl (hb hby d19_8) rfl rfl k) ?_
  exact own_retV X2 hx hlk Bd.returns (hb hby d19_9) (by decide) (by decide) ⟨rfl, N2, E2⟩

theorem d18_0 : decode jdk_43_method_2_code 0 = .ok (.iload_n 1, 1) := by decide +kernel
theorem d18_1 : decode jdk_43_method_2_code 1 = .ok (.aload_n 0, 1) := by decide +kernel
theorem d18_2 : decode jdk_43_method_2_code 2 = .ok (.arraylength, 1) := by decide +kernel
theorem d18_3 : decode jdk_43_method_2_code 3 = .ok (.invokestatic 9, 3) := by decide +kernel
theorem d18_6 : decode jdk_43_method_2_code 6 = .ok (.aload_n 0, 1) := by decide +kernel
theorem d18_7 : decode jdk_43_method_2_code 7 = .ok (.iload_n 1, 1) := by decide +kernel
theorem d18_8 : decode jdk_43_method_2_code 8 = .ok (.baload, 1) := by decide +kernel
theorem d18_9 : decode jdk_43_method_2_code 9 = .ok (.sipush 255, 3) := by decide +kernel
theorem d18_12 : decode jdk_43_method_2_code 12 = .ok (.iand, 1) := by decide +kernel
theorem d18_13 : decode jdk_43_method_2_code 13 = .ok (.i2c, 1) := by decide +kernel
theorem d18_14 : decode jdk_43_method_2_code 14 = .ok (.ireturn, 1) := by decide +kernel
theorem pn_18 : plainName "java/lang/StringLatin1" = true := by first | (simp [plainName, overriddenIn]; done) | decide +kernel
theorem pd_18_0 : parseMethodDescriptor "(II)V" = some ⟨[.int, .int], none⟩ := by decide +kernel
theorem ef_rm18_1_0 (m : MethodId) (x0 : Addr) (x1 : Int32) : entryFrame m #[(.ref x0), (.int x1)] 2 = mkF m 0 #[.val (.ref x0), .val (.int x1)] [] := by first | (simp [entryFrame, mkF, argsToLocals, Value.category]; done) | rfl
set_option maxRecDepth 65536 in
set_option maxHeartbeats 40000000 in
theorem rm18_1_0 (l : Launch) (Z : State) (a0 : Array Value) (hw : ∀ d ∈ tables_1, d.before a0 Z = true) (ws : List Jvm.Cond) (a1 : Addr) (h0 : Heap) (n0 : Nat) (Z0 : n0 ≤ h0.size) (kb : ClassId) (y0 : Int32) (V_a1 : Arv Z h0 a1 kb .byte (1 : Int32) [(.int y0)] (.int (0 : Int32))) (fm : Value) (S_FM : Sta Z h0 "jdk/internal/util/Preconditions" "SIOOBE_FORMATTER" "Ljava/util/function/BiFunction;" fm) (hfc : fm.category = 1) (hfr : fm.isRef = true) :
    MetFree l (⟨"java/lang/StringLatin1", "charAt", "([BI)C"⟩ : MethodName) (head1 (Jvm.Cond.code (⟨"java/lang/StringLatin1", "charAt", "([BI)C"⟩ : MethodName) jdk_43_method_2_code 2 (some .char) :: ws) ({ frames := 2, cells := 0, slots := 0, locals := 28 } : Room)) (fun a U => a = #[(.ref a1), (.int (0 : Int32))] ∧ Z.Warmed39 U.vm ∧ U.heap = h0) (fun _ _ _ _ _ => True) (fun _ U o U' => ∃ v L, o = .returned v ∧ QI (own_ch y0) h0 n0 v U'.heap L ∧ FrameEnd U o U' L ({ frames := 2, cells := 0, slots := 0, locals := 28 } : Room).cells ({ frames := 2, cells := 0, slots := 0, locals := 28 } : Room).slots) := by
  refine MetFree.of_bodySF (plainFor_of_name pn_18) hisR ?_
  intro p e s m args below meth c s₁ Bd hml0 hP hK
  obtain ⟨rfl, hZ, hh⟩ := hP
  have hx := Bd.exec
  have hby := Bd.bytes
  have hlk : meth.locks = false := BodyLoose.notSynchronized Bd
  have hml : c.maxLocals = 2 := hml0
  have hown : s.vm.findClass "java/lang/StringLatin1" = some m.cls := findClass_of_methodNamed Bd.named
  have hnm := (name_of_methodNamed Bd.named Bd.method).1
  have X0 : Stand p l e ({ frames := 2, cells := 0, slots := 0, locals := 28 } : Room) s m #[(.ref a1), (.int (0 : Int32))] below meth c s₁ [] 0 0 := Stand.of_body Bd
  have e0 : s₁.heap = h0 := by rw [← hh, Bd.state]; rfl
  have N0 := Fr.nil n0
  have Zz := Z0
  have Kp : Keep h0 h0 [] := Keep.refl _ _
  show OwnEnds p e below s (QI (own_ch y0) h0 n0) ({ frames := 2, cells := 0, slots := 0, locals := 28 } : Room).cells ({ frames := 2, cells := 0, slots := 0, locals := 28 } : Room).slots s₁ (entryFrame m #[(.ref a1), (.int (0 : Int32))] 2)
  refine own_step (T' := s₁) (f' := (mkF m 0 #[.val (.ref a1), .val (.int (0 : Int32))] [])) (fun t k => castTop (ef_rm18_1_0 m a1 (0 : Int32)) k) ?_
  refine own_step (T' := s₁) (f' := (mkF m 1 #[.val (.ref a1), .val (.int (0 : Int32))] [(.int (0 : Int32))])) (fun t k => XS.iloadN X0.here hx rfl (hb hby d18_0) rfl k) ?_
  refine own_step (T' := s₁) (f' := (mkF m 2 #[.val (.ref a1), .val (.int (0 : Int32))] [(.ref a1), (.int (0 : Int32))])) (fun t k => XS.aloadN X0.here hx rfl (hb hby d18_1) rfl rfl k) ?_
  obtain ⟨cl1, Ar1, q1, S1, M1, H1, G1⟩ := id V_a1
  refine own_step (T' := s₁) (f' := (mkF m 3 #[.val (.ref a1), .val (.int (0 : Int32))] [(.int (1 : Int32)), (.int (0 : Int32))])) (fun t k => X0.arraylength hx (by rw [e0]; exact Ar1.1) (State.isArrayOf_alike hZ.alike Ar1.2.1) (g := (mkF m 2 #[.val (.ref a1), .val (.int (0 : Int32))] [(.ref a1), (.int (0 : Int32))])) rfl rfl (hb hby d18_2) _ (by rw [len_of S1 M1]; exact k)) ?_
  obtain ⟨_, _, ⟨T2, L2, k2, n2⟩, -, X2, ⟨Lc2, hQ2, l2, y2, z2⟩, st2⟩ := Jvm.LawKit.callS X0 hx (y := (⟨"java/lang/String", "checkIndex", "(II)V"⟩ : MethodName)) hown (mvT hZ (hw _ (List.mem_of_getElem? (i := 95) rfl))) (mvT hZ (hw _ (List.mem_of_getElem? (i := 96) rfl))) (mvT hZ (hw _ (List.mem_of_getElem? (i := 42) rfl))) (mvT hZ (hw _ (List.mem_of_getElem? (i := 97) rfl))) (by decide) (backOf (W := 0) (rm19_1_0 l Z a0 hw [] h0 n0 Zz fm S_FM hfc hfr) hZ (hw _ (List.mem_of_getElem? (i := 97) rfl)) (hw _ (List.mem_of_getElem? (i := 42) rfl)) (by decide) (by decide)) (g := (mkF m 3 #[.val (.ref a1), .val (.int (0 : Int32))] [(.int (1 : Int32)), (.int (0 : Int32))])) rfl (by rw [hml]; rfl) (argsL := [(.int (0 : Int32)), (.int (1 : Int32))]) (rest := []) (lenOf pd_18_0 rfl) rfl (by show 2 * 0 + _ ≤ _; exact Nat.le_of_eq rfl) (hb hby d18_3) (fun _ _ => ⟨rfl, e0, (by decide : 0 + 0 ≤ _), (by decide : 0 + 0 ≤ _)⟩)
  dsimp only [Pt.U, Pt.locs, Pt.cells, Pt.slots] at X2 l2 y2 z2 st2 hQ2
  subst l2 y2 z2
  obtain ⟨rfl, N2q, E2⟩ := hQ2
  have N2 := Fr.app N0 N2q
  refine own_step (T' := T2) (f' := (mkF m 6 #[.val (.ref a1), .val (.int (0 : Int32))] [])) (fun t k => st2 t k) ?_
  refine own_step (T' := T2) (f' := (mkF m 7 #[.val (.ref a1), .val (.int (0 : Int32))] [(.ref a1)])) (fun t k => XS.aloadN X2.here hx rfl (hb hby d18_6) rfl rfl k) ?_
  refine own_step (T' := T2) (f' := (mkF m 8 #[.val (.ref a1), .val (.int (0 : Int32))] [(.int (0 : Int32)), (.ref a1)])) (fun t k => XS.iloadN X2.here hx rfl (hb hby d18_7) rfl k) ?_
  obtain ⟨cl3, Ar3, q3, S3, M3, H3, G3⟩ := id V_a1
  have hin3 : ¬ ((0 : Int32) < 0 ∨ cl3.slots.size ≤ ((0 : Int32)).toNatClampNeg) := inb_of S3 ⟨by decide, by decide⟩
  have hat3 : cl3.slots[((0 : Int32)).toNatClampNeg]? = some (.int y0) := own_at hin3 H3 0 rfl rfl
  refine own_step (T' := T2) (f' := (mkF m 9 #[.val (.ref a1), .val (.int (0 : Int32))] [(.int y0)])) (fun t k => X2.baloadBytes hx (j := (0 : Int32)) (v := (.int y0)) (by rw [E2]; exact Ar3.1) (State.isArrayOf_alike hZ.alike Ar3.2.1) Ar3.2.2 hin3 hat3 (g := (mkF m 8 #[.val (.ref a1), .val (.int (0 : Int32))] [(.int (0 : Int32)), (.ref a1)])) rfl rfl (hb hby d18_8) _ k) ?_
  refine own_step (T' := T2) (f' := (mkF m 12 #[.val (.ref a1), .val (.int (0 : Int32))] [(.int (255 : Int32)), (.int y0)])) (fun t k => XS.sipush X2.here hx rfl (hb hby d18_9) k) ?_
  refine own_step (T' := T2) (f' := (mkF m 13 #[.val (.ref a1), .val (.int (0 : Int32))] [(.int (y0 &&& (255 : Int32)))])) (fun t k => XS.iand X2.here hx rfl (hb hby d18_12) rfl k) ?_
  refine own_step (T' := T2) (f' := (mkF m 14 #[.val (.ref a1), .val (.int (0 : Int32))] [(.int ((y0 &&& (255 : Int32)).toUInt32.toUInt16.toUInt32.toInt32))])) (fun t k => XS.i2c X2.here hx rfl (hb hby d18_13) rfl k) ?_
  exact own_retN X2 hx hlk (t := .char) Bd.returns (by simp) (hb hby d18_14) (by decide) (by decide) ⟨rfl, N2, E2⟩

theorem d16_0 : decode jdk_42_method_56_code 0 = .ok (.aload_n 0, 1) := by decide +kernel
theorem d16_1 : decode jdk_42_method_56_code 1 = .ok (.invokevirtual 492, 3) := by decide +kernel
theorem d16_4 : decode jdk_42_method_56_code 4 = .ok (.ifCond .eq 12, 3) := by decide +kernel
theorem d16_7 : decode jdk_42_method_56_code 7 = .ok (.aload_n 0, 1) := by decide +kernel
theorem d16_8 : decode jdk_42_method_56_code 8 = .ok (.getfield 9, 3) := by decide +kernel
theorem d16_11 : decode jdk_42_method_56_code 11 = .ok (.iload_n 1, 1) := by decide +kernel
theorem d16_12 : decode jdk_42_method_56_code 12 = .ok (.invokestatic 495, 3) := by decide +kernel
theorem d16_15 : decode jdk_42_method_56_code 15 = .ok (.ireturn, 1) := by decide +kernel
theorem pn_16 : plainName "java/lang/String" = true := by first | (simp [plainName, overriddenIn]; done) | decide +kernel
theorem pd_16_0 : parseMethodDescriptor "()Z" = some ⟨[], some .boolean⟩ := by decide +kernel
theorem pd_16_1 : parseMethodDescriptor "([BI)C" = some ⟨[(.array .byte), .int], some .char⟩ := by decide +kernel
theorem ef_rm16_1_0 (m : MethodId) (x0 : Addr) (x1 : Int32) : entryFrame m #[(.ref x0), (.int x1)] 2 = mkF m 0 #[.val (.ref x0), .val (.int x1)] [] := by first | (simp [entryFrame, mkF, argsToLocals, Value.category]; done) | rfl
set_option maxRecDepth 65536 in
set_option maxHeartbeats 40000000 in
theorem rm16_1_0 (l : Launch) (Z : State) (a0 : Array Value) (hw : ∀ d ∈ tables_1, d.before a0 Z = true) (ws : List Jvm.Cond) (a1 : Addr) (h0 : Heap) (n0 : Nat) (Z0 : n0 ≤ h0.size) (b : Addr) (kb : ClassId) (y0 : Int32) (O : OwnStr Z h0 a1 b kb 1 [(.int y0)]) (cs : Int32) (S_CS : Sta Z h0 "java/lang/String" "COMPACT_STRINGS" "Z" (.int cs)) (hcs : ¬ cs = (0 : Int32)) (fm : Value) (S_FM : Sta Z h0 "jdk/internal/util/Preconditions" "SIOOBE_FORMATTER" "Ljava/util/function/BiFunction;" fm) (hfc : fm.category = 1) (hfr : fm.isRef = true) :
    MetFree l (⟨"java/lang/String", "charAt", "(I)C"⟩ : MethodName) (head1 (Jvm.Cond.code (⟨"java/lang/String", "charAt", "(I)C"⟩ : MethodName) jdk_42_method_56_code 2 (some .char) :: ws) ({ frames := 3, cells := 0, slots := 0, locals := 42 } : Room)) (fun a U => a = #[(.ref a1), (.int (0 : Int32))] ∧ Z.Warmed39 U.vm ∧ U.heap = h0) (fun _ _ _ _ _ => True) (fun _ U o U' => ∃ v L, o = .returned v ∧ QI (own_ch y0) h0 n0 v U'.heap L ∧ FrameEnd U o U' L ({ frames := 3, cells := 0, slots := 0, locals := 42 } : Room).cells ({ frames := 3, cells := 0, slots := 0, locals := 42 } : Room).slots) := by
  refine MetFree.of_bodySF (plainFor_of_name pn_16) hisR ?_
  intro p e s m args below meth c s₁ Bd hml0 hP hK
  obtain ⟨rfl, hZ, hh⟩ := hP
  have hx := Bd.exec
  have hby := Bd.bytes
  have hlk : meth.locks = false := BodyLoose.notSynchronized Bd
  have hml : c.maxLocals = 2 := hml0
  have hown : s.vm.findClass "java/lang/String" = some m.cls := findClass_of_methodNamed Bd.named
  have hnm := (name_of_methodNamed Bd.named Bd.method).1
  have X0 : Stand p l e ({ frames := 3, cells := 0, slots := 0, locals := 42 } : Room) s m #[(.ref a1), (.int (0 : Int32))] below meth c s₁ [] 0 0 := Stand.of_body Bd
  have e0 : s₁.heap = h0 := by rw [← hh, Bd.state]; rfl
  have N0 := Fr.nil n0
  show OwnEnds p e below s (QI (own_ch y0) h0 n0) ({ frames := 3, cells := 0, slots := 0, locals := 42 } : Room).cells ({ frames := 3, cells := 0, slots := 0, locals := 42 } : Room).slots s₁ (entryFrame m #[(.ref a1), (.int (0 : Int32))] 2)
  refine own_step (T' := s₁) (f' := (mkF m 0 #[.val (.ref a1), .val (.int (0 : Int32))] [])) (fun t k => castTop (ef_rm16_1_0 m a1 (0 : Int32)) k) ?_
  refine own_step (T' := s₁) (f' := (mkF m 1 #[.val (.ref a1), .val (.int (0 : Int32))] [(.ref a1)])) (fun t k => XS.aloadN X0.here hx rfl (hb hby d16_0) rfl rfl k) ?_
  obtain ⟨cq1, kq1, q1a, q1b, q1c⟩ := isOf hZ e0 O.1
  obtain ⟨_, _, ⟨T1, L1, k1, n1⟩, -, X1, ⟨Lc1, hQ1, l1, y1, z1⟩, st1⟩ := X0.virtualBack hx (y := (⟨"java/lang/String", "isLatin1", "()Z"⟩ : MethodName)) (z := (⟨"java/lang/String", "isLatin1", "()Z"⟩ : MethodName)) hown (mvT hZ (hw _ (List.mem_of_getElem? (i := 86) rfl))) (mvT hZ (hw _ (List.mem_of_getElem? (i := 87) rfl))) (notFace_of_selects (args := #[]) (mvT hZ (hw _ (List.mem_of_getElem? (i := 89) rfl)))) (mvT hZ (hw _ (List.mem_of_getElem? (i := 89) rfl))) (mvT hZ (hw _ (List.mem_of_getElem? (i := 88) rfl))) (by decide) (backOf (W := 0) (rm17 l Z a0 hw [] a1 h0 n0 Z0 O.2.1 cs S_CS hcs) hZ (hw _ (List.mem_of_getElem? (i := 90) rfl)) (hw _ (List.mem_of_getElem? (i := 42) rfl)) (by decide) (by decide)) q1a q1c (g := (mkF m 1 #[.val (.ref a1), .val (.int (0 : Int32))] [(.ref a1)])) rfl (by rw [hml]; rfl) (Steps.refl _) (argsL := []) (rest := []) (lenOf pd_16_0 rfl) rfl (by show 2 * 0 + _ ≤ _; exact Nat.le_of_eq rfl) (hb hby d16_1) (fun _ _ => ⟨rfl, e0, (by decide : 0 + 0 ≤ _), (by decide : 0 + 0 ≤ _)⟩)
  dsimp only [Pt.U, Pt.locs, Pt.cells, Pt.slots] at X1 l1 y1 z1 st1 hQ1
  subst l1 y1 z1
  obtain ⟨rfl, N1q, E1⟩ := hQ1
  have N1 := Fr.app N0 N1q
  refine own_step (T' := T1) (f' := (mkF m 4 #[.val (.ref a1), .val (.int (0 : Int32))] [(.int (1 : Int32))])) (fun t k => st1.trans k) ?_
  refine own_step (T' := T1) (f' := (mkF m 7 #[.val (.ref a1), .val (.int (0 : Int32))] [])) (fun t k => XS.ifNo X1.here hx rfl (hb hby d16_4) rfl ((if0 _ _).trans (feq (by decide : ¬ ((1 : Int32) = (0 : Int32)))).1) k) ?_
  refine own_step (T' := T1) (f' := (mkF m 8 #[.val (.ref a1), .val (.int (0 : Int32))] [(.ref a1)])) (fun t k => XS.aloadN X1.here hx rfl (hb hby d16_7) rfl rfl k) ?_
  obtain ⟨T2, X2, e2, st2⟩ := getF X1 hx hZ hown (host := "") (Or.inl (hw _ (List.mem_of_getElem? (i := 64) rfl))) Via.refl E1 O.2.2.1 (g := (mkF m 8 #[.val (.ref a1), .val (.int (0 : Int32))] [(.ref a1)])) rfl rfl (hb hby d16_8)
  refine own_step (T' := T2) (f' := (mkF m 11 #[.val (.ref a1), .val (.int (0 : Int32))] [(.ref b)])) (fun t k => st2 t k) ?_
  refine own_step (T' := T2) (f' := (mkF m 12 #[.val (.ref a1), .val (.int (0 : Int32))] [(.int (0 : Int32)), (.ref b)])) (fun t k => XS.iloadN X2.here hx rfl (hb hby d16_11) rfl k) ?_
  obtain ⟨_, _, ⟨T3, L3, k3, n3⟩, -, X3, ⟨Lc3, hQ3, l3, y3, z3⟩, st3⟩ := Jvm.LawKit.callS X2 hx (y := (⟨"java/lang/StringLatin1", "charAt", "([BI)C"⟩ : MethodName)) hown (mvT hZ (hw _ (List.mem_of_getElem? (i := 91) rfl))) (mvT hZ (hw _ (List.mem_of_getElem? (i := 92) rfl))) (mvT hZ (hw _ (List.mem_of_getElem? (i := 93) rfl))) (mvT hZ (hw _ (List.mem_of_getElem? (i := 94) rfl))) (by decide) (backOf (W := 0) (rm18_1_0 l Z a0 hw [] b h0 n0 Z0 kb y0 O.2.2.2 fm S_FM hfc hfr) hZ (hw _ (List.mem_of_getElem? (i := 94) rfl)) (hw _ (List.mem_of_getElem? (i := 93) rfl)) (by decide) (by decide)) (g := (mkF m 12 #[.val (.ref a1), .val (.int (0 : Int32))] [(.int (0 : Int32)), (.ref b)])) rfl (by rw [hml]; rfl) (argsL := [(.ref b), (.int (0 : Int32))]) (rest := []) (lenOf pd_16_1 rfl) rfl (by show 2 * 0 + _ ≤ _; exact Nat.le_of_eq rfl) (hb hby d16_12) (fun _ _ => ⟨rfl, e2, (by decide : 0 + 0 ≤ _), (by decide : 0 + 0 ≤ _)⟩)
  dsimp only [Pt.U, Pt.locs, Pt.cells, Pt.slots] at X3 l3 y3 z3 st3 hQ3
  subst l3 y3 z3
  obtain ⟨rfl, N3q, E3⟩ := hQ3
  have N3 := Fr.app N1 N3q
  refine own_step (T' := T3) (f' := (mkF m 15 #[.val (.ref a1), .val (.int (0 : Int32))] [(.int (own_ch y0))])) (fun t k => st3 t k) ?_
  exact own_retN X3 hx hlk (t := .char) Bd.returns (by simp) (hb hby d16_15) (by decide) (by decide) ⟨by rw [own_chn], N3, E3⟩

theorem d13_32 : decode prog_135_method_10_code 32 = .ok (.iload_n 3, 1) := by decide +kernel
theorem d13_33 : decode prog_135_method_10_code 33 = .ok (.ifCond .eq 37, 3) := by decide +kernel
theorem d13_36 : decode prog_135_method_10_code 36 = .ok (.aload_n 0, 1) := by decide +kernel
theorem d13_37 : decode prog_135_method_10_code 37 = .ok (.getfield 14, 3) := by decide +kernel
theorem d13_40 : decode prog_135_method_10_code 40 = .ok (.iload_n 2, 1) := by decide +kernel
theorem d13_41 : decode prog_135_method_10_code 41 = .ok (.iload 4, 2) := by decide +kernel
theorem d13_43 : decode prog_135_method_10_code 43 = .ok (.iadd, 1) := by decide +kernel
theorem d13_44 : decode prog_135_method_10_code 44 = .ok (.baload, 1) := by decide +kernel
theorem d13_45 : decode prog_135_method_10_code 45 = .ok (.sipush 255, 3) := by decide +kernel
theorem d13_48 : decode prog_135_method_10_code 48 = .ok (.iand, 1) := by decide +kernel
theorem d13_49 : decode prog_135_method_10_code 49 = .ok (.aload_n 1, 1) := by decide +kernel
theorem d13_50 : decode prog_135_method_10_code 50 = .ok (.iload 4, 2) := by decide +kernel
theorem d13_52 : decode prog_135_method_10_code 52 = .ok (.invokevirtual 40, 3) := by decide +kernel
theorem d13_55 : decode prog_135_method_10_code 55 = .ok (.if_icmp .ne 7, 3) := by decide +kernel
theorem d13_58 : decode prog_135_method_10_code 58 = .ok (.iconst 1, 1) := by decide +kernel
theorem d13_59 : decode prog_135_method_10_code 59 = .ok (.goto 4, 3) := by decide +kernel
theorem d13_63 : decode prog_135_method_10_code 63 = .ok (.istore_n 3, 1) := by decide +kernel
theorem d13_64 : decode prog_135_method_10_code 64 = .ok (.iinc 4 1, 3) := by decide +kernel
theorem d13_67 : decode prog_135_method_10_code 67 = .ok (.goto (-44), 3) := by decide +kernel
theorem pd_13_1 : parseMethodDescriptor "(I)C" = some ⟨[.int], some .char⟩ := by decide +kernel
theorem ef_rm13_1 (m : MethodId) (x0 : Addr) (x1 : Addr) : entryFrame m #[(.ref x0), (.ref x1)] 5 = mkF m 0 #[.val (.ref x0), .val (.ref x1), .unset, .unset, .unset] [] := by first | (simp [entryFrame, mkF, argsToLocals, Value.category]; done) | rfl
set_option maxRecDepth 65536 in
set_option maxHeartbeats 40000000 in
theorem rm13_1 (l : Launch) (Z : State) (a0 : Array Value) (hw : ∀ d ∈ tables_1, d.before a0 Z = true) (ws : List Jvm.Cond) (a1 : Addr) (a2 : Addr) (h0 : Heap) (n0 : Nat) (Z0 : n0 ≤ h0.size) (y0 x1 x2 : Int32) (bv : Addr) (kv : ClassId) (O : OwnTx Z h0 a1 bv kv 1 [(.int y0), (.int x1), (.int x2)]) (b : Addr) (kb : ClassId) (O2 : OwnStr Z h0 a2 b kb 1 [(.int y0)]) (cs : Int32) (S_CS : Sta Z h0 "java/lang/String" "COMPACT_STRINGS" "Z" (.int cs)) (hcs : ¬ cs = (0 : Int32)) (fm : Value) (S_FM : Sta Z h0 "jdk/internal/util/Preconditions" "SIOOBE_FORMATTER" "Ljava/util/function/BiFunction;" fm) (hfc : fm.category = 1) (hfr : fm.isRef = true) :
    MetFree l (⟨"com/example/lit2/lit2/weave/TexOutput", "endsWith", "(Ljava/lang/String;)Z"⟩ : MethodName) (head1 (Jvm.Cond.code (⟨"com/example/lit2/lit2/weave/TexOutput", "endsWith", "(Ljava/lang/String;)Z"⟩ : MethodName) prog_135_method_10_code 5 (some .boolean) :: ws) ({ frames := 4, cells := 0, slots := 0, locals := 56 } : Room)) (fun a U => a = #[(.ref a1), (.ref a2)] ∧ Z.Warmed39 U.vm ∧ U.heap = h0) (fun _ _ _ _ _ => True) (fun _ U o U' => ∃ v L, o = .returned v ∧ QI 1 h0 n0 v U'.heap L ∧ FrameEnd U o U' L ({ frames := 4, cells := 0, slots := 0, locals := 56 } : Room).cells ({ frames := 4, cells := 0, slots := 0, locals := 56 } : Room).slots) := by
  refine MetFree.of_bodySF (plainFor_of_name pn_13) hisR ?_
  intro p e s m args below meth c s₁ Bd hml0 hP hK
  obtain ⟨rfl, hZ, hh⟩ := hP
  have hx := Bd.exec
  have hby := Bd.bytes
  have hlk : meth.locks = false := BodyLoose.notSynchronized Bd
  have hml : c.maxLocals = 5 := hml0
  have hown : s.vm.findClass "com/example/lit2/lit2/weave/TexOutput" = some m.cls := findClass_of_methodNamed Bd.named
  have hnm := (name_of_methodNamed Bd.named Bd.method).1
  have X0 : Stand p l e ({ frames := 4, cells := 0, slots := 0, locals := 56 } : Room) s m #[(.ref a1), (.ref a2)] below meth c s₁ [] 0 0 := Stand.of_body Bd
  have e0 : s₁.heap = h0 := by rw [← hh, Bd.state]; rfl
  have N0 := Fr.nil n0
  have Zz := Z0
  have Kp : Keep h0 h0 [] := Keep.refl _ _
  have V_bv := O.2.2.2.2.1
  show OwnEnds p e below s (QI 1 h0 n0) ({ frames := 4, cells := 0, slots := 0, locals := 56 } : Room).cells ({ frames := 4, cells := 0, slots := 0, locals := 56 } : Room).slots s₁ (entryFrame m #[(.ref a1), (.ref a2)] 5)
  refine own_step (T' := s₁) (f' := (mkF m 0 #[.val (.ref a1), .val (.ref a2), .unset, .unset, .unset] [])) (fun t k => castTop (ef_rm13_1 m a1 a2) k) ?_
  refine own_step (T' := s₁) (f' := (mkF m 1 #[.val (.ref a1), .val (.ref a2), .unset, .unset, .unset] [(.ref a1)])) (fun t k => XS.aloadN X0.here hx rfl (hb hby d13_0) rfl rfl k) ?_
  obtain ⟨T1, X1, e1, st1⟩ := getF X0 hx hZ hown (host := "") (Or.inl (hw _ (List.mem_of_getElem? (i := 25) rfl))) Via.refl e0 O.2.2.1 (g := (mkF m 1 #[.val (.ref a1), .val (.ref a2), .unset, .unset, .unset] [(.ref a1)])) rfl rfl (hb hby d13_1)
  refine own_step (T' := T1) (f' := (mkF m 4 #[.val (.ref a1), .val (.ref a2), .unset, .unset, .unset] [(.int (1 : Int32))])) (fun t k => st1 t k) ?_
  refine own_step (T' := T1) (f' := (mkF m 5 #[.val (.ref a1), .val (.ref a2), .unset, .unset, .unset] [(.ref a2), (.int (1 : Int32))])) (fun t k => XS.aloadN X1.here hx rfl (hb hby d13_4) rfl rfl k) ?_
  obtain ⟨cq2, kq2, q2a, q2b, q2c⟩ := isOf hZ e1 O2.1
  obtain ⟨_, _, ⟨T2, L2, k2, n2⟩, -, X2, ⟨Lc2, hQ2, l2, y2, z2⟩, st2⟩ := X1.virtualBack hx (y := (⟨"java/lang/String", "length", "()I"⟩ : MethodName)) (z := (⟨"java/lang/String", "length", "()I"⟩ : MethodName)) hown (mvT hZ (hw _ (List.mem_of_getElem? (i := 71) rfl))) (mvT hZ (hw _ (List.mem_of_getElem? (i := 72) rfl))) (notFace_of_selects (args := #[]) (mvT hZ (hw _ (List.mem_of_getElem? (i := 74) rfl)))) (mvT hZ (hw _ (List.mem_of_getElem? (i := 74) rfl))) (mvT hZ (hw _ (List.mem_of_getElem? (i := 73) rfl))) (by decide) (backOf (W := 1) (rm14_1 l Z a0 hw [] a2 h0 n0 Zz b kb y0 O2 cs S_CS hcs) hZ (hw _ (List.mem_of_getElem? (i := 75) rfl)) (hw _ (List.mem_of_getElem? (i := 42) rfl)) (by decide) (by decide)) q2a q2c (g := (mkF m 5 #[.val (.ref a1), .val (.ref a2), .unset, .unset, .unset] [(.ref a2), (.int (1 : Int32))])) rfl (by rw [hml]; rfl) (Steps.refl _) (argsL := []) (rest := [(.int (1 : Int32))]) (lenOf pd_13_0 rfl) rfl (by show 2 * 0 + _ ≤ _; exact Nat.le_of_eq rfl) (hb hby d13_5) (fun _ _ => ⟨rfl, e1, (by decide : 0 + 0 ≤ _), (by decide : 0 + 0 ≤ _)⟩)
  dsimp only [Pt.U, Pt.locs, Pt.cells, Pt.slots] at X2 l2 y2 z2 st2 hQ2
  subst l2 y2 z2
  obtain ⟨rfl, N2q, E2⟩ := hQ2
  have N2 := Fr.app N0 N2q
  refine own_step (T' := T2) (f' := (mkF m 8 #[.val (.ref a1), .val (.ref a2), .unset, .unset, .unset] [(.int (1 : Int32)), (.int (1 : Int32))])) (fun t k => st2.trans k) ?_
  refine own_step (T' := T2) (f' := (mkF m 9 #[.val (.ref a1), .val (.ref a2), .unset, .unset, .unset] [(.int (0 : Int32))])) (fun t k => XS.isub X2.here hx rfl (hb hby d13_8) rfl k) ?_
  refine own_step (T' := T2) (f' := (mkF m 10 #[.val (.ref a1), .val (.ref a2), .val (.int (0 : Int32)), .unset, .unset] [])) (fun t k => XS.istoreN X2.here hx rfl (hb hby d13_9) rfl (l' := #[.val (.ref a1), .val (.ref a2), .val (.int (0 : Int32)), .unset, .unset]) rfl k) ?_
  refine own_step (T' := T2) (f' := (mkF m 11 #[.val (.ref a1), .val (.ref a2), .val (.int (0 : Int32)), .unset, .unset] [(.int (0 : Int32))])) (fun t k => XS.iloadN X2.here hx rfl (hb hby d13_10) rfl k) ?_
  refine own_step (T' := T2) (f' := (mkF m 14 #[.val (.ref a1), .val (.ref a2), .val (.int (0 : Int32)), .unset, .unset] [])) (fun t k => XS.ifNo X2.here hx rfl (hb hby d13_11) rfl ((if0 _ _).trans (flt (by decide : ¬ ((0 : Int32) < (0 : Int32)))).1) k) ?_
  refine own_step (T' := T2) (f' := (mkF m 15 #[.val (.ref a1), .val (.ref a2), .val (.int (0 : Int32)), .unset, .unset] [(.int (1 : Int32))])) (fun t k => XS.iconst X2.here hx rfl (hb hby d13_14) k) ?_
  refine own_step (T' := T2) (f' := (mkF m 19 #[.val (.ref a1), .val (.ref a2), .val (.int (0 : Int32)), .unset, .unset] [(.int (1 : Int32))])) (fun t k => XS.goto X2.here hx rfl (pc0 := 15) (pc' := 19) rfl (hb hby d13_15) (by decide) (by decide) k) ?_
  refine own_step (T' := T2) (f' := (mkF m 20 #[.val (.ref a1), .val (.ref a2), .val (.int (0 : Int32)), .val (.int (1 : Int32)), .unset] [])) (fun t k => XS.istoreN X2.here hx rfl (hb hby d13_19) rfl (l' := #[.val (.ref a1), .val (.ref a2), .val (.int (0 : Int32)), .val (.int (1 : Int32)), .unset]) rfl k) ?_
  refine own_step (T' := T2) (f' := (mkF m 21 #[.val (.ref a1), .val (.ref a2), .val (.int (0 : Int32)), .val (.int (1 : Int32)), .unset] [(.int (0 : Int32))])) (fun t k => XS.iconst X2.here hx rfl (hb hby d13_20) k) ?_
  refine own_step (T' := T2) (f' := (mkF m 23 #[.val (.ref a1), .val (.ref a2), .val (.int (0 : Int32)), .val (.int (1 : Int32)), .val (.int (0 : Int32))] [])) (fun t k => XS.istore X2.here hx rfl (hb hby d13_21) rfl (l' := #[.val (.ref a1), .val (.ref a2), .val (.int (0 : Int32)), .val (.int (1 : Int32)), .val (.int (0 : Int32))]) rfl k) ?_
  refine own_step (T' := T2) (f' := (mkF m 25 #[.val (.ref a1), .val (.ref a2), .val (.int (0 : Int32)), .val (.int (1 : Int32)), .val (.int (0 : Int32))] [(.int (0 : Int32))])) (fun t k => XS.iload X2.here hx rfl (hb hby d13_23) rfl k) ?_
  refine own_step (T' := T2) (f' := (mkF m 26 #[.val (.ref a1), .val (.ref a2), .val (.int (0 : Int32)), .val (.int (1 : Int32)), .val (.int (0 : Int32))] [(.ref a2), (.int (0 : Int32))])) (fun t k => XS.aloadN X2.here hx rfl (hb hby d13_25) rfl rfl k) ?_
  obtain ⟨cq3, kq3, q3a, q3b, q3c⟩ := isOf hZ E2 O2.1
  obtain ⟨_, _, ⟨T3, L3, k3, n3⟩, -, X3, ⟨Lc3, hQ3, l3, y3, z3⟩, st3⟩ := X2.virtualBack hx (y := (⟨"java/lang/String", "length", "()I"⟩ : MethodName)) (z := (⟨"java/lang/String", "length", "()I"⟩ : MethodName)) hown (mvT hZ (hw _ (List.mem_of_getElem? (i := 71) rfl))) (mvT hZ (hw _ (List.mem_of_getElem? (i := 72) rfl))) (notFace_of_selects (args := #[]) (mvT hZ (hw _ (List.mem_of_getElem? (i := 74) rfl)))) (mvT hZ (hw _ (List.mem_of_getElem? (i := 74) rfl))) (mvT hZ (hw _ (List.mem_of_getElem? (i := 73) rfl))) (by decide) (backOf (W := 1) (rm14_1 l Z a0 hw [] a2 h0 n0 Zz b kb y0 O2 cs S_CS hcs) hZ (hw _ (List.mem_of_getElem? (i := 75) rfl)) (hw _ (List.mem_of_getElem? (i := 42) rfl)) (by decide) (by decide)) q3a q3c (g := (mkF m 26 #[.val (.ref a1), .val (.ref a2), .val (.int (0 : Int32)), .val (.int (1 : Int32)), .val (.int (0 : Int32))] [(.ref a2), (.int (0 : Int32))])) rfl (by rw [hml]; rfl) (Steps.refl _) (argsL := []) (rest := [(.int (0 : Int32))]) (lenOf pd_13_0 rfl) rfl (by show 2 * 0 + _ ≤ _; exact Nat.le_of_eq rfl) (hb hby d13_26) (fun _ _ => ⟨rfl, E2, (by decide : 0 + 0 ≤ _), (by decide : 0 + 0 ≤ _)⟩)
  dsimp only [Pt.U, Pt.locs, Pt.cells, Pt.slots] at X3 l3 y3 z3 st3 hQ3
  subst l3 y3 z3
  obtain ⟨rfl, N3q, E3⟩ := hQ3
  have N3 := Fr.app N2 N3q
  refine own_step (T' := T3) (f' := (mkF m 29 #[.val (.ref a1), .val (.ref a2), .val (.int (0 : Int32)), .val (.int (1 : Int32)), .val (.int (0 : Int32))] [(.int (1 : Int32)), (.int (0 : Int32))])) (fun t k => st3.trans k) ?_
  refine own_step (T' := T3) (f' := (mkF m 32 #[.val (.ref a1), .val (.ref a2), .val (.int (0 : Int32)), .val (.int (1 : Int32)), .val (.int (0 : Int32))] [])) (fun t k => XS.icmpNo X3.here hx rfl (hb hby d13_29) rfl (tlt (by decide : (0 : Int32) < (1 : Int32))).2.1 k) ?_
  refine own_step (T' := T3) (f' := (mkF m 33 #[.val (.ref a1), .val (.ref a2), .val (.int (0 : Int32)), .val (.int (1 : Int32)), .val (.int (0 : Int32))] [(.int (1 : Int32))])) (fun t k => XS.iloadN X3.here hx rfl (hb hby d13_32) rfl k) ?_
  refine own_step (T' := T3) (f' := (mkF m 36 #[.val (.ref a1), .val (.ref a2), .val (.int (0 : Int32)), .val (.int (1 : Int32)), .val (.int (0 : Int32))] [])) (fun t k => XS.ifNo X3.here hx rfl (hb hby d13_33) rfl ((if0 _ _).trans (feq (by decide : ¬ ((1 : Int32) = (0 : Int32)))).1) k) ?_
  refine own_step (T' := T3) (f' := (mkF m 37 #[.val (.ref a1), .val (.ref a2), .val (.int (0 : Int32)), .val (.int (1 : Int32)), .val (.int (0 : Int32))] [(.ref a1)])) (fun t k => XS.aloadN X3.here hx rfl (hb hby d13_36) rfl rfl k) ?_
  obtain ⟨T4, X4, e4, st4⟩ := getF X3 hx hZ hown (host := "") (Or.inl (hw _ (List.mem_of_getElem? (i := 18) rfl))) Via.refl E3 O.2.1 (g := (mkF m 37 #[.val (.ref a1), .val (.ref a2), .val (.int (0 : Int32)), .val (.int (1 : Int32)), .val (.int (0 : Int32))] [(.ref a1)])) rfl rfl (hb hby d13_37)
  refine own_step (T' := T4) (f' := (mkF m 40 #[.val (.ref a1), .val (.ref a2), .val (.int (0 : Int32)), .val (.int (1 : Int32)), .val (.int (0 : Int32))] [(.ref bv)])) (fun t k => st4 t k) ?_
  refine own_step (T' := T4) (f' := (mkF m 41 #[.val (.ref a1), .val (.ref a2), .val (.int (0 : Int32)), .val (.int (1 : Int32)), .val (.int (0 : Int32))] [(.int (0 : Int32)), (.ref bv)])) (fun t k => XS.iloadN X4.here hx rfl (hb hby d13_40) rfl k) ?_
  refine own_step (T' := T4) (f' := (mkF m 43 #[.val (.ref a1), .val (.ref a2), .val (.int (0 : Int32)), .val (.int (1 : Int32)), .val (.int (0 : Int32))] [(.int (0 : Int32)), (.int (0 : Int32)), (.ref bv)])) (fun t k => XS.iload X4.here hx rfl (hb hby d13_41) rfl k) ?_
  refine own_step (T' := T4) (f' := (mkF m 44 #[.val (.ref a1), .val (.ref a2), .val (.int (0 : Int32)), .val (.int (1 : Int32)), .val (.int (0 : Int32))] [(.int (0 : Int32)), (.ref bv)])) (fun t k => XS.iadd X4.here hx rfl (hb hby d13_43) rfl k) ?_
  obtain ⟨cl5, Ar5, q5, S5, M5, H5, G5⟩ := id V_bv
  have hin5 : ¬ ((0 : Int32) < 0 ∨ cl5.slots.size ≤ ((0 : Int32)).toNatClampNeg) := inb_of S5 ⟨by decide, by decide⟩
  have hat5 : cl5.slots[((0 : Int32)).toNatClampNeg]? = some (.int y0) := own_at hin5 H5 0 rfl rfl
  refine own_step (T' := T4) (f' := (mkF m 45 #[.val (.ref a1), .val (.ref a2), .val (.int (0 : Int32)), .val (.int (1 : Int32)), .val (.int (0 : Int32))] [(.int y0)])) (fun t k => X4.baloadBytes hx (j := (0 : Int32)) (v := (.int y0)) (by rw [e4]; exact Ar5.1) (State.isArrayOf_alike hZ.alike Ar5.2.1) Ar5.2.2 hin5 hat5 (g := (mkF m 44 #[.val (.ref a1), .val (.ref a2), .val (.int (0 : Int32)), .val (.int (1 : Int32)), .val (.int (0 : Int32))] [(.int (0 : Int32)), (.ref bv)])) rfl rfl (hb hby d13_44) _ k) ?_
  refine own_step (T' := T4) (f' := (mkF m 48 #[.val (.ref a1), .val (.ref a2), .val (.int (0 : Int32)), .val (.int (1 : Int32)), .val (.int (0 : Int32))] [(.int (255 : Int32)), (.int y0)])) (fun t k => XS.sipush X4.here hx rfl (hb hby d13_45) k) ?_
  refine own_step (T' := T4) (f' := (mkF m 49 #[.val (.ref a1), .val (.ref a2), .val (.int (0 : Int32)), .val (.int (1 : Int32)), .val (.int (0 : Int32))] [(.int (y0 &&& (255 : Int32)))])) (fun t k => XS.iand X4.here hx rfl (hb hby d13_48) rfl k) ?_
  refine own_step (T' := T4) (f' := (mkF m 50 #[.val (.ref a1), .val (.ref a2), .val (.int (0 : Int32)), .val (.int (1 : Int32)), .val (.int (0 : Int32))] [(.ref a2), (.int (y0 &&& (255 : Int32)))])) (fun t k => XS.aloadN X4.here hx rfl (hb hby d13_49) rfl rfl k) ?_
  refine own_step (T' := T4) (f' := (mkF m 52 #[.val (.ref a1), .val (.ref a2), .val (.int (0 : Int32)), .val (.int (1 : Int32)), .val (.int (0 : Int32))] [(.int (0 : Int32)), (.ref a2), (.int (y0 &&& (255 : Int32)))])) (fun t k => XS.iload X4.here hx rfl (hb hby d13_50) rfl k) ?_
  obtain ⟨cq6, kq6, q6a, q6b, q6c⟩ := isOf hZ e4 O2.1
  obtain ⟨_, _, ⟨T6, L6, k6, n6⟩, -, X6, ⟨Lc6, hQ6, l6, y6, z6⟩, st6⟩ := X4.virtualBack hx (y := (⟨"java/lang/String", "charAt", "(I)C"⟩ : MethodName)) (z := (⟨"java/lang/String", "charAt", "(I)C"⟩ : MethodName)) hown (mvT hZ (hw _ (List.mem_of_getElem? (i := 81) rfl))) (mvT hZ (hw _ (List.mem_of_getElem? (i := 82) rfl))) (notFace_of_selects (args := #[]) (mvT hZ (hw _ (List.mem_of_getElem? (i := 84) rfl)))) (mvT hZ (hw _ (List.mem_of_getElem? (i := 84) rfl))) (mvT hZ (hw _ (List.mem_of_getElem? (i := 83) rfl))) (by decide) (backOf (W := 1) (rm16_1_0 l Z a0 hw [] a2 h0 n0 Zz b kb y0 O2 cs S_CS hcs fm S_FM hfc hfr) hZ (hw _ (List.mem_of_getElem? (i := 85) rfl)) (hw _ (List.mem_of_getElem? (i := 42) rfl)) (by decide) (by decide)) q6a q6c (g := (mkF m 52 #[.val (.ref a1), .val (.ref a2), .val (.int (0 : Int32)), .val (.int (1 : Int32)), .val (.int (0 : Int32))] [(.int (0 : Int32)), (.ref a2), (.int (y0 &&& (255 : Int32)))])) rfl (by rw [hml]; rfl) (Steps.refl _) (argsL := [(.int (0 : Int32))]) (rest := [(.int (y0 &&& (255 : Int32)))]) (lenOf pd_13_1 rfl) rfl (by show 2 * 0 + _ ≤ _; exact Nat.le_of_eq rfl) (hb hby d13_52) (fun _ _ => ⟨rfl, e4, (by decide : 0 + 0 ≤ _), (by decide : 0 + 0 ≤ _)⟩)
  dsimp only [Pt.U, Pt.locs, Pt.cells, Pt.slots] at X6 l6 y6 z6 st6 hQ6
  subst l6 y6 z6
  obtain ⟨rfl, N6q, E6⟩ := hQ6
  have N6 := Fr.app N3 N6q
  refine own_step (T' := T6) (f' := (mkF m 55 #[.val (.ref a1), .val (.ref a2), .val (.int (0 : Int32)), .val (.int (1 : Int32)), .val (.int (0 : Int32))] [(.int (own_ch y0)), (.int (y0 &&& (255 : Int32)))])) (fun t k => st6.trans k) ?_
  refine own_step (T' := T6) (f' := (mkF m 58 #[.val (.ref a1), .val (.ref a2), .val (.int (0 : Int32)), .val (.int (1 : Int32)), .val (.int (0 : Int32))] [])) (fun t k => XS.icmpNo X6.here hx rfl (hb hby d13_55) rfl (teq (own_che _).symm).2 k) ?_
  refine own_step (T' := T6) (f' := (mkF m 59 #[.val (.ref a1), .val (.ref a2), .val (.int (0 : Int32)), .val (.int (1 : Int32)), .val (.int (0 : Int32))] [(.int (1 : Int32))])) (fun t k => XS.iconst X6.here hx rfl (hb hby d13_58) k) ?_
  refine own_step (T' := T6) (f' := (mkF m 63 #[.val (.ref a1), .val (.ref a2), .val (.int (0 : Int32)), .val (.int (1 : Int32)), .val (.int (0 : Int32))] [(.int (1 : Int32))])) (fun t k => XS.goto X6.here hx rfl (pc0 := 59) (pc' := 63) rfl (hb hby d13_59) (by decide) (by decide) k) ?_
  refine own_step (T' := T6) (f' := (mkF m 64 #[.val (.ref a1), .val (.ref a2), .val (.int (0 : Int32)), .val (.int (1 : Int32)), .val (.int (0 : Int32))] [])) (fun t k => XS.istoreN X6.here hx rfl (hb hby d13_63) rfl (l' := #[.val (.ref a1), .val (.ref a2), .val (.int (0 : Int32)), .val (.int (1 : Int32)), .val (.int (0 : Int32))]) rfl k) ?_
  refine own_step (T' := T6) (f' := (mkF m 67 #[.val (.ref a1), .val (.ref a2), .val (.int (0 : Int32)), .val (.int (1 : Int32)), .val (.int (1 : Int32))] [])) (fun t k => XS.iinc X6.here hx rfl (hb hby d13_64) rfl (l' := #[.val (.ref a1), .val (.ref a2), .val (.int (0 : Int32)), .val (.int (1 : Int32)), .val (.int (1 : Int32))]) rfl k) ?_
  refine own_step (T' := T6) (f' := (mkF m 23 #[.val (.ref a1), .val (.ref a2), .val (.int (0 : Int32)), .val (.int (1 : Int32)), .val (.int (1 : Int32))] [])) (fun t k => XS.goto X6.here hx rfl (pc0 := 67) (pc' := 23) rfl (hb hby d13_67) (by decide) (by decide) k) ?_
  refine own_step (T' := T6) (f' := (mkF m 25 #[.val (.ref a1), .val (.ref a2), .val (.int (0 : Int32)), .val (.int (1 : Int32)), .val (.int (1 : Int32))] [(.int (1 : Int32))])) (fun t k => XS.iload X6.here hx rfl (hb hby d13_23) rfl k) ?_
  refine own_step (T' := T6) (f' := (mkF m 26 #[.val (.ref a1), .val (.ref a2), .val (.int (0 : Int32)), .val (.int (1 : Int32)), .val (.int (1 : Int32))] [(.ref a2), (.int (1 : Int32))])) (fun t k => XS.aloadN X6.here hx rfl (hb hby d13_25) rfl rfl k) ?_
  obtain ⟨cq7, kq7, q7a, q7b, q7c⟩ := isOf hZ E6 O2.1
  obtain ⟨_, _, ⟨T7, L7, k7, n7⟩, -, X7, ⟨Lc7, hQ7, l7, y7, z7⟩, st7⟩ := X6.virtualBack hx (y := (⟨"java/lang/String", "length", "()I"⟩ : MethodName)) (z := (⟨"java/lang/String", "length", "()I"⟩ : MethodName)) hown (mvT hZ (hw _ (List.mem_of_getElem? (i := 71) rfl))) (mvT hZ (hw _ (List.mem_of_getElem? (i := 72) rfl))) (notFace_of_selects (args := #[]) (mvT hZ (hw _ (List.mem_of_getElem? (i := 74) rfl)))) (mvT hZ (hw _ (List.mem_of_getElem? (i := 74) rfl))) (mvT hZ (hw _ (List.mem_of_getElem? (i := 73) rfl))) (by decide) (backOf (W := 1) (rm14_1 l Z a0 hw [] a2 h0 n0 Zz b kb y0 O2 cs S_CS hcs) hZ (hw _ (List.mem_of_getElem? (i := 75) rfl)) (hw _ (List.mem_of_getElem? (i := 42) rfl)) (by decide) (by decide)) q7a q7c (g := (mkF m 26 #[.val (.ref a1), .val (.ref a2), .val (.int (0 : Int32)), .val (.int (1 : Int32)), .val (.int (1 : Int32))] [(.ref a2), (.int (1 : Int32))])) rfl (by rw [hml]; rfl) (Steps.refl _) (argsL := []) (rest := [(.int (1 : Int32))]) (lenOf pd_13_0 rfl) rfl (by show 2 * 0 + _ ≤ _; exact Nat.le_of_eq rfl) (hb hby d13_26) (fun _ _ => ⟨rfl, E6, (by decide : 0 + 0 ≤ _), (by decide : 0 + 0 ≤ _)⟩)
  dsimp only [Pt.U, Pt.locs, Pt.cells, Pt.slots] at X7 l7 y7 z7 st7 hQ7
  subst l7 y7 z7
  obtain ⟨rfl, N7q, E7⟩ := hQ7
  have N7 := Fr.app N6 N7q
  refine own_step (T' := T7) (f' := (mkF m 29 #[.val (.ref a1), .val (.ref a2), .val (.int (0 : Int32)), .val (.int (1 : Int32)), .val (.int (1 : Int32))] [(.int (1 : Int32)), (.int (1 : Int32))])) (fun t k => st7.trans k) ?_
  refine own_step (T' := T7) (f' := (mkF m 70 #[.val (.ref a1), .val (.ref a2), .val (.int (0 : Int32)), .val (.int (1 : Int32)), .val (.int (1 : Int32))] [])) (fun t k => XS.icmpYes X7.here hx rfl (pc0 := 29) (pc' := 70) rfl (hb hby d13_29) rfl (flt (by decide : ¬ ((1 : Int32) < (1 : Int32)))).2.1 (by decide) (by decide) k) ?_
  refine own_step (T' := T7) (f' := (mkF m 71 #[.val (.ref a1), .val (.ref a2), .val (.int (0 : Int32)), .val (.int (1 : Int32)), .val (.int (1 : Int32))] [(.int (1 : Int32))])) (fun t k => XS.iloadN X7.here hx rfl (hb hby d13_70) rfl k) ?_
  exact own_retN X7 hx hlk (t := .boolean) Bd.returns (by simp) (hb hby d13_71) (by decide) (by decide) ⟨rfl, N7, E7⟩

def Q9_1 (Z : State) (a1 : Addr) (c0 : Int32) (h0 : Heap) (n0 : Nat) (v : Option Value) (h : Heap) (L : List Loc) : Prop := v = none ∧ Fr n0 L ∧ Keep h0 h [a1] ∧ ∃ (b : Addr) (k : ClassId), OwnStr Z h a1 b k 1 [(.int (own_sb c0))]
def Q7_1 (Z : State) (c0 : Int32) (h0 : Heap) (n0 : Nat) (v : Option Value) (h : Heap) (L : List Loc) : Prop := ∃ (r b : Addr) (k : ClassId), v = some (.ref r) ∧ Fr n0 L ∧ Keep h0 h [] ∧ OwnStr Z h r b k 1 [(.int (own_sb c0))]
def Q11_1 (Z : State) (a3 : Addr) (kb : ClassId) (c0 : Int32) (h0 : Heap) (n0 : Nat) (v : Option Value) (h : Heap) (L : List Loc) : Prop := v = some (.int 1) ∧ Fr n0 L ∧ Keep h0 h [a3] ∧ Arv Z h a3 kb .byte (1 : Int32) [(.int (own_sb c0))] (.int (0 : Int32))
theorem d11_0 : decode jdk_52_method_21_code 0 = .ok (.iconst 0, 1) := by decide +kernel
theorem d11_1 : decode jdk_52_method_21_code 1 = .ok (.istore 5, 2) := by decide +kernel
theorem d11_3 : decode jdk_52_method_21_code 3 = .ok (.iload 5, 2) := by decide +kernel
theorem d11_5 : decode jdk_52_method_21_code 5 = .ok (.iload 4, 2) := by decide +kernel
theorem d11_7 : decode jdk_52_method_21_code 7 = .ok (.if_icmp .ge 37, 3) := by decide +kernel
theorem d11_10 : decode jdk_52_method_21_code 10 = .ok (.aload_n 0, 1) := by decide +kernel
theorem d11_11 : decode jdk_52_method_21_code 11 = .ok (.iload_n 1, 1) := by decide +kernel
theorem d11_12 : decode jdk_52_method_21_code 12 = .ok (.caload, 1) := by decide +kernel
theorem d11_13 : decode jdk_52_method_21_code 13 = .ok (.istore 6, 2) := by decide +kernel
theorem d11_15 : decode jdk_52_method_21_code 15 = .ok (.iload 6, 2) := by decide +kernel
theorem d11_17 : decode jdk_52_method_21_code 17 = .ok (.sipush 255, 3) := by decide +kernel
theorem d11_20 : decode jdk_52_method_21_code 20 = .ok (.if_icmp .le 6, 3) := by decide +kernel
theorem d11_26 : decode jdk_52_method_21_code 26 = .ok (.aload_n 2, 1) := by decide +kernel
theorem d11_27 : decode jdk_52_method_21_code 27 = .ok (.iload_n 3, 1) := by decide +kernel
theorem d11_28 : decode jdk_52_method_21_code 28 = .ok (.iload 6, 2) := by decide +kernel
theorem d11_30 : decode jdk_52_method_21_code 30 = .ok (.i2b, 1) := by decide +kernel
theorem d11_31 : decode jdk_52_method_21_code 31 = .ok (.bastore, 1) := by decide +kernel
theorem d11_32 : decode jdk_52_method_21_code 32 = .ok (.iinc 1 1, 3) := by decide +kernel
theorem d11_35 : decode jdk_52_method_21_code 35 = .ok (.iinc 3 1, 3) := by decide +kernel
theorem d11_38 : decode jdk_52_method_21_code 38 = .ok (.iinc 5 1, 3) := by decide +kernel
theorem d11_41 : decode jdk_52_method_21_code 41 = .ok (.goto (-38), 3) := by decide +kernel
theorem d11_44 : decode jdk_52_method_21_code 44 = .ok (.iload 4, 2) := by decide +kernel
theorem d11_46 : decode jdk_52_method_21_code 46 = .ok (.ireturn, 1) := by decide +kernel
theorem pn_11 : plainName "java/lang/StringUTF16" = true := by first | (simp [plainName, overriddenIn]; done) | decide +kernel
theorem ef_rm11_1 (m : MethodId) (x0 : Addr) (x1 : Int32) (x2 : Addr) (x3 : Int32) (x4 : Int32) : entryFrame m #[(.ref x0), (.int x1), (.ref x2), (.int x3), (.int x4)] 7 = mkF m 0 #[.val (.ref x0), .val (.int x1), .val (.ref x2), .val (.int x3), .val (.int x4), .unset, .unset] [] := by first | (simp [entryFrame, mkF, argsToLocals, Value.category]; done) | rfl
set_option maxRecDepth 65536 in
set_option maxHeartbeats 40000000 in
theorem rm11_1 (l : Launch) (Z : State) (a0 : Array Value) (hw : ∀ d ∈ tables_1, d.before a0 Z = true) (ws : List Jvm.Cond) (a1 : Addr) (a3 : Addr) (h0 : Heap) (n0 : Nat) (Z0 : n0 ≤ h0.size) (kc kb : ClassId) (c0 : Int32) (hC0 : OwnC c0) (V_a1 : Arv Z h0 a1 kc .char (1 : Int32) [(.int c0)] (.int (0 : Int32))) (V_a3 : Arv Z h0 a3 kb .byte (1 : Int32) [(.int (0 : Int32))] (.int (0 : Int32))) (ne13 : a1 ≠ a3) (g_a3 : n0 ≤ a3) :
    MetFree l (⟨"java/lang/StringUTF16", "compress", "([CI[BII)I"⟩ : MethodName) (head1 (Jvm.Cond.code (⟨"java/lang/StringUTF16", "compress", "([CI[BII)I"⟩ : MethodName) jdk_52_method_21_code 7 (some .int) :: ws) ({ frames := 0, cells := 0, slots := 0, locals := 0 } : Room)) (fun a U => a = #[(.ref a1), (.int (0 : Int32)), (.ref a3), (.int (0 : Int32)), (.int (1 : Int32))] ∧ Z.Warmed39 U.vm ∧ U.heap = h0) (fun _ _ _ _ _ => True) (fun _ U o U' => ∃ v L, o = .returned v ∧ Q11_1 Z a3 kb c0 h0 n0 v U'.heap L ∧ FrameEnd U o U' L ({ frames := 0, cells := 0, slots := 0, locals := 0 } : Room).cells ({ frames := 0, cells := 0, slots := 0, locals := 0 } : Room).slots) := by
  refine MetFree.of_bodySF (plainFor_of_name pn_11) hisR ?_
  intro p e s m args below meth c s₁ Bd hml0 hP hK
  obtain ⟨rfl, hZ, hh⟩ := hP
  have hx := Bd.exec
  have hby := Bd.bytes
  have hlk : meth.locks = false := BodyLoose.notSynchronized Bd
  have hml : c.maxLocals = 7 := hml0
  have hown : s.vm.findClass "java/lang/StringUTF16" = some m.cls := findClass_of_methodNamed Bd.named
  have hnm := (name_of_methodNamed Bd.named Bd.method).1
  have X0 : Stand p l e ({ frames := 0, cells := 0, slots := 0, locals := 0 } : Room) s m #[(.ref a1), (.int (0 : Int32)), (.ref a3), (.int (0 : Int32)), (.int (1 : Int32))] below meth c s₁ [] 0 0 := Stand.of_body Bd
  have e0 : s₁.heap = h0 := by rw [← hh, Bd.state]; rfl
  have N0 := Fr.nil n0
  have Zz := Z0
  have Kp : Keep h0 h0 [a3] := Keep.refl _ _
  show OwnEnds p e below s (Q11_1 Z a3 kb c0 h0 n0) ({ frames := 0, cells := 0, slots := 0, locals := 0 } : Room).cells ({ frames := 0, cells := 0, slots := 0, locals := 0 } : Room).slots s₁ (entryFrame m #[(.ref a1), (.int (0 : Int32)), (.ref a3), (.int (0 : Int32)), (.int (1 : Int32))] 7)
  refine own_step (T' := s₁) (f' := (mkF m 0 #[.val (.ref a1), .val (.int (0 : Int32)), .val (.ref a3), .val (.int (0 : Int32)), .val (.int (1 : Int32)), .unset, .unset] [])) (fun t k => castTop (ef_rm11_1 m a1 (0 : Int32) a3 (0 : Int32) (1 : Int32)) k) ?_
  refine own_step (T' := s₁) (f' := (mkF m 1 #[.val (.ref a1), .val (.int (0 : Int32)), .val (.ref a3), .val (.int (0 : Int32)), .val (.int (1 : Int32)), .unset, .unset] [(.int (0 : Int32))])) (fun t k => XS.iconst X0.here hx rfl (hb hby d11_0) k) ?_
  refine own_step (T' := s₁) (f' := (mkF m 3 #[.val (.ref a1), .val (.int (0 : Int32)), .val (.ref a3), .val (.int (0 : Int32)), .val (.int (1 : Int32)), .val (.int (0 : Int32)), .unset] [])) (fun t k => XS.istore X0.here hx rfl (hb hby d11_1) rfl (l' := #[.val (.ref a1), .val (.int (0 : Int32)), .val (.ref a3), .val (.int (0 : Int32)), .val (.int (1 : Int32)), .val (.int (0 : Int32)), .unset]) rfl k) ?_
  refine own_step (T' := s₁) (f' := (mkF m 5 #[.val (.ref a1), .val (.int (0 : Int32)), .val (.ref a3), .val (.int (0 : Int32)), .val (.int (1 : Int32)), .val (.int (0 : Int32)), .unset] [(.int (0 : Int32))])) (fun t k => XS.iload X0.here hx rfl (hb hby d11_3) rfl k) ?_
  refine own_step (T' := s₁) (f' := (mkF m 7 #[.val (.ref a1), .val (.int (0 : Int32)), .val (.ref a3), .val (.int (0 : Int32)), .val (.int (1 : Int32)), .val (.int (0 : Int32)), .unset] [(.int (1 : Int32)), (.int (0 : Int32))])) (fun t k => XS.iload X0.here hx rfl (hb hby d11_5) rfl k) ?_
  refine own_step (T' := s₁) (f' := (mkF m 10 #[.val (.ref a1), .val (.int (0 : Int32)), .val (.ref a3), .val (.int (0 : Int32)), .val (.int (1 : Int32)), .val (.int (0 : Int32)), .unset] [])) (fun t k => XS.icmpNo X0.here hx rfl (hb hby d11_7) rfl (tlt (by decide : (0 : Int32) < (1 : Int32))).2.1 k) ?_
  refine own_step (T' := s₁) (f' := (mkF m 11 #[.val (.ref a1), .val (.int (0 : Int32)), .val (.ref a3), .val (.int (0 : Int32)), .val (.int (1 : Int32)), .val (.int (0 : Int32)), .unset] [(.ref a1)])) (fun t k => XS.aloadN X0.here hx rfl (hb hby d11_10) rfl rfl k) ?_
  refine own_step (T' := s₁) (f' := (mkF m 12 #[.val (.ref a1), .val (.int (0 : Int32)), .val (.ref a3), .val (.int (0 : Int32)), .val (.int (1 : Int32)), .val (.int (0 : Int32)), .unset] [(.int (0 : Int32)), (.ref a1)])) (fun t k => XS.iloadN X0.here hx rfl (hb hby d11_11) rfl k) ?_
  obtain ⟨cl1, Ar1, q1, S1, M1, H1, G1⟩ := id V_a1
  have hin1 : ¬ ((0 : Int32) < 0 ∨ cl1.slots.size ≤ ((0 : Int32)).toNatClampNeg) := inb_of S1 ⟨by decide, by decide⟩
  have hat1 : cl1.slots[((0 : Int32)).toNatClampNeg]? = some (.int c0) := own_at hin1 H1 0 rfl rfl
  refine own_step (T' := s₁) (f' := (mkF m 13 #[.val (.ref a1), .val (.int (0 : Int32)), .val (.ref a3), .val (.int (0 : Int32)), .val (.int (1 : Int32)), .val (.int (0 : Int32)), .unset] [(.int c0)])) (fun t k => X0.caload hx (j := (0 : Int32)) (v := (.int c0)) (by rw [e0]; exact Ar1.1) (State.isArrayOf_alike hZ.alike Ar1.2.1) Ar1.2.2 hin1 hat1 (g := (mkF m 12 #[.val (.ref a1), .val (.int (0 : Int32)), .val (.ref a3), .val (.int (0 : Int32)), .val (.int (1 : Int32)), .val (.int (0 : Int32)), .unset] [(.int (0 : Int32)), (.ref a1)])) rfl rfl (hb hby d11_12) _ k) ?_
  refine own_step (T' := s₁) (f' := (mkF m 15 #[.val (.ref a1), .val (.int (0 : Int32)), .val (.ref a3), .val (.int (0 : Int32)), .val (.int (1 : Int32)), .val (.int (0 : Int32)), .val (.int c0)] [])) (fun t k => XS.istore X0.here hx rfl (hb hby d11_13) rfl (l' := #[.val (.ref a1), .val (.int (0 : Int32)), .val (.ref a3), .val (.int (0 : Int32)), .val (.int (1 : Int32)), .val (.int (0 : Int32)), .val (.int c0)]) rfl k) ?_
  refine own_step (T' := s₁) (f' := (mkF m 17 #[.val (.ref a1), .val (.int (0 : Int32)), .val (.ref a3), .val (.int (0 : Int32)), .val (.int (1 : Int32)), .val (.int (0 : Int32)), .val (.int c0)] [(.int c0)])) (fun t k => XS.iload X0.here hx rfl (hb hby d11_15) rfl k) ?_
  refine own_step (T' := s₁) (f' := (mkF m 20 #[.val (.ref a1), .val (.int (0 : Int32)), .val (.ref a3), .val (.int (0 : Int32)), .val (.int (1 : Int32)), .val (.int (0 : Int32)), .val (.int c0)] [(.int (255 : Int32)), (.int c0)])) (fun t k => XS.sipush X0.here hx rfl (hb hby d11_17) k) ?_
  refine own_step (T' := s₁) (f' := (mkF m 26 #[.val (.ref a1), .val (.int (0 : Int32)), .val (.ref a3), .val (.int (0 : Int32)), .val (.int (1 : Int32)), .val (.int (0 : Int32)), .val (.int c0)] [])) (fun t k => XS.icmpYes X0.here hx rfl (pc0 := 20) (pc' := 26) rfl (hb hby d11_20) rfl (flt (own_c255 hC0)).2.2.2 (by decide) (by decide) k) ?_
  refine own_step (T' := s₁) (f' := (mkF m 27 #[.val (.ref a1), .val (.int (0 : Int32)), .val (.ref a3), .val (.int (0 : Int32)), .val (.int (1 : Int32)), .val (.int (0 : Int32)), .val (.int c0)] [(.ref a3)])) (fun t k => XS.aloadN X0.here hx rfl (hb hby d11_26) rfl rfl k) ?_
  refine own_step (T' := s₁) (f' := (mkF m 28 #[.val (.ref a1), .val (.int (0 : Int32)), .val (.ref a3), .val (.int (0 : Int32)), .val (.int (1 : Int32)), .val (.int (0 : Int32)), .val (.int c0)] [(.int (0 : Int32)), (.ref a3)])) (fun t k => XS.iloadN X0.here hx rfl (hb hby d11_27) rfl k) ?_
  refine own_step (T' := s₁) (f' := (mkF m 30 #[.val (.ref a1), .val (.int (0 : Int32)), .val (.ref a3), .val (.int (0 : Int32)), .val (.int (1 : Int32)), .val (.int (0 : Int32)), .val (.int c0)] [(.int c0), (.int (0 : Int32)), (.ref a3)])) (fun t k => XS.iload X0.here hx rfl (hb hby d11_28) rfl k) ?_
  refine own_step (T' := s₁) (f' := (mkF m 31 #[.val (.ref a1), .val (.int (0 : Int32)), .val (.ref a3), .val (.int (0 : Int32)), .val (.int (1 : Int32)), .val (.int (0 : Int32)), .val (.int c0)] [(.int (c0.toInt8.toInt32)), (.int (0 : Int32)), (.ref a3)])) (fun t k => XS.i2b X0.here hx rfl (hb hby d11_30) rfl k) ?_
  obtain ⟨cl2, Ar2, q2, S2, M2, H2, G2⟩ := V_a3
  have hin2 : ¬ ((0 : Int32) < 0 ∨ cl2.slots.size ≤ ((0 : Int32)).toNatClampNeg) := inb_of S2 ⟨by decide, by decide⟩
  obtain ⟨T2, h2, X2, e2, W2, st2⟩ := stB X0 hx hZ e0 Ar2 (j := (0 : Int32)) hin2 (g := (mkF m 31 #[.val (.ref a1), .val (.int (0 : Int32)), .val (.ref a3), .val (.int (0 : Int32)), .val (.int (1 : Int32)), .val (.int (0 : Int32)), .val (.int c0)] [(.int (c0.toInt8.toInt32)), (.int (0 : Int32)), (.ref a3)])) rfl rfl (hb hby d11_31)
  have V_a3 : Arv Z h2 a3 kb .byte (1 : Int32) [(.int (own_sb c0))] (.int (0 : Int32)) := Arv.set Ar2 q2 S2 M2 H2 G2 (fits_nar_byte _) W2 0 rfl (Nat.le_of_ble_eq_true rfl)
  replace V_a1 := V_a1.other W2 ne13
  replace Zz := Nat.le_trans Zz (Keep.of_wr W2).1
  replace Kp := Kp.wr W2 (Or.inl (List.mem_of_getElem? (i := 0) rfl))
  have N2 := Fr.snoc X2 N0 g_a3
  refine own_step (T' := T2) (f' := (mkF m 32 #[.val (.ref a1), .val (.int (0 : Int32)), .val (.ref a3), .val (.int (0 : Int32)), .val (.int (1 : Int32)), .val (.int (0 : Int32)), .val (.int c0)] [])) (fun t k => st2 t k) ?_
  refine own_step (T' := T2) (f' := (mkF m 35 #[.val (.ref a1), .val (.int (1 : Int32)), .val (.ref a3), .val (.int (0 : Int32)), .val (.int (1 : Int32)), .val (.int (0 : Int32)), .val (.int c0)] [])) (fun t k => XS.iinc X2.here hx rfl (hb hby d11_32) rfl (l' := #[.val (.ref a1), .val (.int (1 : Int32)), .val (.ref a3), .val (.int (0 : Int32)), .val (.int (1 : Int32)), .val (.int (0 : Int32)), .val (.int c0)]) rfl k) ?_
  refine own_step (T' := T2) (f' := (mkF m 38 #[.val (.ref a1), .val (.int (1 : Int32)), .val (.ref a3), .val (.int (1 : Int32)), .val (.int (1 : Int32)), .val (.int (0 : Int32)), .val (.int c0)] [])) (fun t k => XS.iinc X2.here hx rfl (hb hby d11_35) rfl (l' := #[.val (.ref a1), .val (.int (1 : Int32)), .val (.ref a3), .val (.int (1 : Int32)), .val (.int (1 : Int32)), .val (.int (0 : Int32)), .val (.int c0)]) rfl k) ?_
  refine own_step (T' := T2) (f' := (mkF m 41 #[.val (.ref a1), .val (.int (1 : Int32)), .val (.ref a3), .val (.int (1 : Int32)), .val (.int (1 : Int32)), .val (.int (1 : Int32)), .val (.int c0)] [])) (fun t k => XS.iinc X2.here hx rfl (hb hby d11_38) rfl (l' := #[.val (.ref a1), .val (.int (1 : Int32)), .val (.ref a3), .val (.int (1 : Int32)), .val (.int (1 : Int32)), .val (.int (1 : Int32)), .val (.int c0)]) rfl k) ?_
  refine own_step (T' := T2) (f' := (mkF m 3 #[.val (.ref a1), .val (.int (1 : Int32)), .val (.ref a3), .val (.int (1 : Int32)), .val (.int (1 : Int32)), .val (.int (1 : Int32)), .val (.int c0)] [])) (fun t k => XS.goto X2.here hx rfl (pc0 := 41) (pc' := 3) rfl (hb hby d11_41) (by decide) (by decide) k) ?_
  refine own_step (T' := T2) (f' := (mkF m 5 #[.val (.ref a1), .val (.int (1 : Int32)), .val (.ref a3), .val (.int (1 : Int32)), .val (.int (1 : Int32)), .val (.int (1 : Int32)), .val (.int c0)] [(.int (1 : Int32))])) (fun t k => XS.iload X2.here hx rfl (hb hby d11_3) rfl k) ?_
  refine own_step (T' := T2) (f' := (mkF m 7 #[.val (.ref a1), .val (.int (1 : Int32)), .val (.ref a3), .val (.int (1 : Int32)), .val (.int (1 : Int32)), .val (.int (1 : Int32)), .val (.int c0)] [(.int (1 : Int32)), (.int (1 : Int32))])) (fun t k => XS.iload X2.here hx rfl (hb hby d11_5) rfl k) ?_
  refine own_step (T' := T2) (f' := (mkF m 44 #[.val (.ref a1), .val (.int (1 : Int32)), .val (.ref a3), .val (.int (1 : Int32)), .val (.int (1 : Int32)), .val (.int (1 : Int32)), .val (.int c0)] [])) (fun t k => XS.icmpYes X2.here hx rfl (pc0 := 7) (pc' := 44) rfl (hb hby d11_7) rfl (flt (by decide : ¬ ((1 : Int32) < (1 : Int32)))).2.1 (by decide) (by decide) k) ?_
  refine own_step (T' := T2) (f' := (mkF m 46 #[.val (.ref a1), .val (.int (1 : Int32)), .val (.ref a3), .val (.int (1 : Int32)), .val (.int (1 : Int32)), .val (.int (1 : Int32)), .val (.int c0)] [(.int (1 : Int32))])) (fun t k => XS.iload X2.here hx rfl (hb hby d11_44) rfl k) ?_
  exact own_retO X2 hx hlk Bd.returns rfl (Or.inl ⟨rfl, Or.inl rfl, _, rfl⟩) (hb hby d11_46) (by decide) (by decide) (by rw [e2]; exact ⟨rfl, N2, Kp, V_a3⟩)

def Q10_1 (Z : State) (c0 : Int32) (h0 : Heap) (n0 : Nat) (v : Option Value) (h : Heap) (L : List Loc) : Prop := ∃ (b : Addr) (k : ClassId), v = some (.ref b) ∧ Fr n0 L ∧ Keep h0 h [] ∧ h0.size ≤ b ∧ Arv Z h b k .byte (1 : Int32) [(.int (own_sb c0))] (.int (0 : Int32))
theorem d10_0 : decode jdk_52_method_16_code 0 = .ok (.iload_n 2, 1) := by decide +kernel
theorem d10_1 : decode jdk_52_method_16_code 1 = .ok (.newarray .byte, 2) := by decide +kernel
theorem d10_3 : decode jdk_52_method_16_code 3 = .ok (.astore_n 3, 1) := by decide +kernel
theorem d10_4 : decode jdk_52_method_16_code 4 = .ok (.aload_n 0, 1) := by decide +kernel
theorem d10_5 : decode jdk_52_method_16_code 5 = .ok (.iload_n 1, 1) := by decide +kernel
theorem d10_6 : decode jdk_52_method_16_code 6 = .ok (.aload_n 3, 1) := by decide +kernel
theorem d10_7 : decode jdk_52_method_16_code 7 = .ok (.iconst 0, 1) := by decide +kernel
theorem d10_8 : decode jdk_52_method_16_code 8 = .ok (.iload_n 2, 1) := by decide +kernel
theorem d10_9 : decode jdk_52_method_16_code 9 = .ok (.invokestatic 115, 3) := by decide +kernel
theorem d10_12 : decode jdk_52_method_16_code 12 = .ok (.istore 4, 2) := by decide +kernel
theorem d10_14 : decode jdk_52_method_16_code 14 = .ok (.iload 4, 2) := by decide +kernel
theorem d10_16 : decode jdk_52_method_16_code 16 = .ok (.iload_n 2, 1) := by decide +kernel
theorem d10_17 : decode jdk_52_method_16_code 17 = .ok (.if_icmp .eq 40, 3) := by decide +kernel
theorem d10_57 : decode jdk_52_method_16_code 57 = .ok (.aload_n 3, 1) := by decide +kernel
theorem d10_58 : decode jdk_52_method_16_code 58 = .ok (.areturn, 1) := by decide +kernel
theorem pn_10 : plainName "java/lang/StringUTF16" = true := by first | (simp [plainName, overriddenIn]; done) | decide +kernel
theorem pd_10_0 : parseMethodDescriptor "([CI[BII)I" = some ⟨[(.array .char), .int, (.array .byte), .int, .int], some .int⟩ := by decide +kernel
theorem ef_rm10_1 (m : MethodId) (x0 : Addr) (x1 : Int32) (x2 : Int32) : entryFrame m #[(.ref x0), (.int x1), (.int x2)] 6 = mkF m 0 #[.val (.ref x0), .val (.int x1), .val (.int x2), .unset, .unset, .unset] [] := by first | (simp [entryFrame, mkF, argsToLocals, Value.category]; done) | rfl
set_option maxRecDepth 65536 in
set_option maxHeartbeats 40000000 in
theorem rm10_1 (l : Launch) (Z : State) (a0 : Array Value) (hw : ∀ d ∈ tables_1, d.before a0 Z = true) (ws : List Jvm.Cond) (a1 : Addr) (h0 : Heap) (n0 : Nat) (Z0 : n0 ≤ h0.size) (kc : ClassId) (c0 : Int32) (hC0 : OwnC c0) (V_a1 : Arv Z h0 a1 kc .char (1 : Int32) [(.int c0)] (.int (0 : Int32))) :
    MetFree l (⟨"java/lang/StringUTF16", "compress", "([CII)[B"⟩ : MethodName) (head1 (Jvm.Cond.code (⟨"java/lang/StringUTF16", "compress", "([CII)[B"⟩ : MethodName) jdk_52_method_16_code 6 (some (.array .byte)) :: ws) ({ frames := 1, cells := 1, slots := 1, locals := 18 } : Room)) (fun a U => a = #[(.ref a1), (.int (0 : Int32)), (.int (1 : Int32))] ∧ Z.Warmed39 U.vm ∧ U.heap = h0) (fun _ _ _ _ _ => True) (fun _ U o U' => ∃ v L, o = .returned v ∧ Q10_1 Z c0 h0 n0 v U'.heap L ∧ FrameEnd U o U' L ({ frames := 1, cells := 1, slots := 1, locals := 18 } : Room).cells ({ frames := 1, cells := 1, slots := 1, locals := 18 } : Room).slots) := by
  refine MetFree.of_bodySF (plainFor_of_name pn_10) hisR ?_
  intro p e s m args below meth c s₁ Bd hml0 hP hK
  obtain ⟨rfl, hZ, hh⟩ := hP
  have hx := Bd.exec
  have hby := Bd.bytes
  have hlk : meth.locks = false := BodyLoose.notSynchronized Bd
  have hml : c.maxLocals = 6 := hml0
  have hown : s.vm.findClass "java/lang/StringUTF16" = some m.cls := findClass_of_methodNamed Bd.named
  have hnm := (name_of_methodNamed Bd.named Bd.method).1
  have X0 : Stand p l e ({ frames := 1, cells := 1, slots := 1, locals := 18 } : Room) s m #[(.ref a1), (.int (0 : Int32)), (.int (1 : Int32))] below meth c s₁ [] 0 0 := Stand.of_body Bd
  have e0 : s₁.heap = h0 := by rw [← hh, Bd.state]; rfl
  have N0 := Fr.nil n0
  have Zz := Z0
  have Kp : Keep h0 h0 [] := Keep.refl _ _
  show OwnEnds p e below s (Q10_1 Z c0 h0 n0) ({ frames := 1, cells := 1, slots := 1, locals := 18 } : Room).cells ({ frames := 1, cells := 1, slots := 1, locals := 18 } : Room).slots s₁ (entryFrame m #[(.ref a1), (.int (0 : Int32)), (.int (1 : Int32))] 6)
  refine own_step (T' := s₁) (f' := (mkF m 0 #[.val (.ref a1), .val (.int (0 : Int32)), .val (.int (1 : Int32)), .unset, .unset, .unset] [])) (fun t k => castTop (ef_rm10_1 m a1 (0 : Int32) (1 : Int32)) k) ?_
  refine own_step (T' := s₁) (f' := (mkF m 1 #[.val (.ref a1), .val (.int (0 : Int32)), .val (.int (1 : Int32)), .unset, .unset, .unset] [(.int (1 : Int32))])) (fun t k => XS.iloadN X0.here hx rfl (hb hby d10_0) rfl k) ?_
  obtain ⟨T1, h1, k1, X1, e1, E1, A1, EX1, st1⟩ := newPE X0 hx hZ (hw _ (List.mem_of_getElem? (i := 15) rfl)) e0 (g := (mkF m 1 #[.val (.ref a1), .val (.int (0 : Int32)), .val (.int (1 : Int32)), .unset, .unset, .unset] [(.int (1 : Int32))])) rfl (hb hby d10_1) rfl (by decide) (cap := 1) (by decide) (by decide) (by decide) (by decide) (ad := "[B") rfl
  obtain ⟨b1, g1⟩ : ∃ z, z = h0.size := ⟨_, rfl⟩
  rw [← g1] at A1 EX1 st1
  have ne_a1_b1 : a1 ≠ b1 := Nat.ne_of_lt (Nat.lt_of_lt_of_le V_a1.lt (Nat.le_of_eq g1.symm))
  have g_b1 : n0 ≤ b1 := Nat.le_trans Zz (Nat.le_of_eq g1.symm)
  have sz_b1 : h0.size ≤ b1 := Nat.le_trans Kp.1 (Nat.le_of_eq g1.symm)
  replace V_a1 := V_a1.ext E1
  replace Zz := Nat.le_trans Zz E1.1
  replace Kp := Kp.ext E1
  have V_b1 : Arv Z h1 b1 k1 .byte (1 : Int32) [(.int (0 : Int32))] (.int (0 : Int32)) := (Arv.new A1 (by decide)).pad (pad_rep [] (.int (0 : Int32)) 1)
  have EX_b1 := EX1
  refine own_step (T' := T1) (f' := (mkF m 3 #[.val (.ref a1), .val (.int (0 : Int32)), .val (.int (1 : Int32)), .unset, .unset, .unset] [(.ref b1)])) (fun t k => st1 t k) ?_
  refine own_step (T' := T1) (f' := (mkF m 4 #[.val (.ref a1), .val (.int (0 : Int32)), .val (.int (1 : Int32)), .val (.ref b1), .unset, .unset] [])) (fun t k => XS.astoreN X1.here hx rfl (hb hby d10_3) rfl rfl (l' := #[.val (.ref a1), .val (.int (0 : Int32)), .val (.int (1 : Int32)), .val (.ref b1), .unset, .unset]) rfl k) ?_
  refine own_step (T' := T1) (f' := (mkF m 5 #[.val (.ref a1), .val (.int (0 : Int32)), .val (.int (1 : Int32)), .val (.ref b1), .unset, .unset] [(.ref a1)])) (fun t k => XS.aloadN X1.here hx rfl (hb hby d10_4) rfl rfl k) ?_
  refine own_step (T' := T1) (f' := (mkF m 6 #[.val (.ref a1), .val (.int (0 : Int32)), .val (.int (1 : Int32)), .val (.ref b1), .unset, .unset] [(.int (0 : Int32)), (.ref a1)])) (fun t k => XS.iloadN X1.here hx rfl (hb hby d10_5) rfl k) ?_
  refine own_step (T' := T1) (f' := (mkF m 7 #[.val (.ref a1), .val (.int (0 : Int32)), .val (.int (1 : Int32)), .val (.ref b1), .unset, .unset] [(.ref b1), (.int (0 : Int32)), (.ref a1)])) (fun t k => XS.aloadN X1.here hx rfl (hb hby d10_6) rfl rfl k) ?_
  refine own_step (T' := T1) (f' := (mkF m 8 #[.val (.ref a1), .val (.int (0 : Int32)), .val (.int (1 : Int32)), .val (.ref b1), .unset, .unset] [(.int (0 : Int32)), (.ref b1), (.int (0 : Int32)), (.ref a1)])) (fun t k => XS.iconst X1.here hx rfl (hb hby d10_7) k) ?_
  refine own_step (T' := T1) (f' := (mkF m 9 #[.val (.ref a1), .val (.int (0 : Int32)), .val (.int (1 : Int32)), .val (.ref b1), .unset, .unset] [(.int (1 : Int32)), (.int (0 : Int32)), (.ref b1), (.int (0 : Int32)), (.ref a1)])) (fun t k => XS.iloadN X1.here hx rfl (hb hby d10_8) rfl k) ?_
  obtain ⟨_, _, ⟨T2, L2, k2, n2⟩, -, X2, ⟨Lc2, hQ2, l2, y2, z2⟩, st2⟩ := Jvm.LawKit.callS X1 hx (y := (⟨"java/lang/StringUTF16", "compress", "([CI[BII)I"⟩ : MethodName)) hown (mvT hZ (hw _ (List.mem_of_getElem? (i := 56) rfl))) (mvT hZ (hw _ (List.mem_of_getElem? (i := 57) rfl))) (mvT hZ (hw _ (List.mem_of_getElem? (i := 54) rfl))) (mvT hZ (hw _ (List.mem_of_getElem? (i := 58) rfl))) (by decide) (backOf (W := 0) (rm11_1 l Z a0 hw [] a1 b1 h1 n0 Zz kc k1 c0 hC0 V_a1 V_b1 ne_a1_b1 g_b1) hZ (hw _ (List.mem_of_getElem? (i := 58) rfl)) (hw _ (List.mem_of_getElem? (i := 54) rfl)) (by decide) (by decide)) (g := (mkF m 9 #[.val (.ref a1), .val (.int (0 : Int32)), .val (.int (1 : Int32)), .val (.ref b1), .unset, .unset] [(.int (1 : Int32)), (.int (0 : Int32)), (.ref b1), (.int (0 : Int32)), (.ref a1)])) rfl (by rw [hml]; rfl) (argsL := [(.ref a1), (.int (0 : Int32)), (.ref b1), (.int (0 : Int32)), (.int (1 : Int32))]) (rest := []) (lenOf pd_10_0 rfl) rfl (by show 2 * 0 + _ ≤ _; exact Nat.le_of_eq rfl) (hb hby d10_9) (fun _ _ => ⟨rfl, e1, (by decide : 1 + 0 ≤ _), (by decide : 1 + 0 ≤ _)⟩)
  dsimp only [Pt.U, Pt.locs, Pt.cells, Pt.slots] at X2 l2 y2 z2 st2 hQ2
  subst l2 y2 z2
  obtain ⟨rfl, N2q, K2, Vr2⟩ := hQ2
  have N2 := Fr.app N0 N2q
  replace V_a1 := V_a1.keep K2 (ninS ne_a1_b1 nin0)
  replace EX_b1 := EX_b1.keep K2
  replace Zz := Nat.le_trans Zz K2.1
  replace Kp := Kp.trans K2 (allS (Or.inr sz_b1) all0)
  refine own_step (T' := T2) (f' := (mkF m 12 #[.val (.ref a1), .val (.int (0 : Int32)), .val (.int (1 : Int32)), .val (.ref b1), .unset, .unset] [(.int (1 : Int32))])) (fun t k => st2 t k) ?_
  refine own_step (T' := T2) (f' := (mkF m 14 #[.val (.ref a1), .val (.int (0 : Int32)), .val (.int (1 : Int32)), .val (.ref b1), .val (.int (1 : Int32)), .unset] [])) (fun t k => XS.istore X2.here hx rfl (hb hby d10_12) rfl (l' := #[.val (.ref a1), .val (.int (0 : Int32)), .val (.int (1 : Int32)), .val (.ref b1), .val (.int (1 : Int32)), .unset]) rfl k) ?_
  refine own_step (T' := T2) (f' := (mkF m 16 #[.val (.ref a1), .val (.int (0 : Int32)), .val (.int (1 : Int32)), .val (.ref b1), .val (.int (1 : Int32)), .unset] [(.int (1 : Int32))])) (fun t k => XS.iload X2.here hx rfl (hb hby d10_14) rfl k) ?_
  refine own_step (T' := T2) (f' := (mkF m 17 #[.val (.ref a1), .val (.int (0 : Int32)), .val (.int (1 : Int32)), .val (.ref b1), .val (.int (1 : Int32)), .unset] [(.int (1 : Int32)), (.int (1 : Int32))])) (fun t k => XS.iloadN X2.here hx rfl (hb hby d10_16) rfl k) ?_
  refine own_step (T' := T2) (f' := (mkF m 57 #[.val (.ref a1), .val (.int (0 : Int32)), .val (.int (1 : Int32)), .val (.ref b1), .val (.int (1 : Int32)), .unset] [])) (fun t k => XS.icmpYes X2.here hx rfl (pc0 := 17) (pc' := 57) rfl (hb hby d10_17) rfl (teq (by decide : (1 : Int32) = (1 : Int32))).1 (by decide) (by decide) k) ?_
  refine own_step (T' := T2) (f' := (mkF m 58 #[.val (.ref a1), .val (.int (0 : Int32)), .val (.int (1 : Int32)), .val (.ref b1), .val (.int (1 : Int32)), .unset] [(.ref b1)])) (fun t k => XS.aloadN X2.here hx rfl (hb hby d10_57) rfl rfl k) ?_
  exact own_retO X2 hx hlk Bd.returns rfl (Or.inr (Or.inr (Or.inr (Or.inr ⟨rfl, rfl, rfl⟩)))) (hb hby d10_58) (by decide) (by decide) ⟨b1, k1, rfl, N2, Kp, sz_b1, Vr2⟩

theorem d12_0 : decode jdk_52_method_15_code 0 = .ok (.iload_n 1, 1) := by decide +kernel
theorem d12_1 : decode jdk_52_method_15_code 1 = .ok (.aload_n 0, 1) := by decide +kernel
theorem d12_2 : decode jdk_52_method_15_code 2 = .ok (.arraylength, 1) := by decide +kernel
theorem d12_3 : decode jdk_52_method_15_code 3 = .ok (.isub, 1) := by decide +kernel
theorem d12_4 : decode jdk_52_method_15_code 4 = .ok (.bipush 31, 2) := by decide +kernel
theorem d12_6 : decode jdk_52_method_15_code 6 = .ok (.iushr, 1) := by decide +kernel
theorem d12_7 : decode jdk_52_method_15_code 7 = .ok (.i2b, 1) := by decide +kernel
theorem d12_8 : decode jdk_52_method_15_code 8 = .ok (.ireturn, 1) := by decide +kernel
theorem pn_12 : plainName "java/lang/StringUTF16" = true := by first | (simp [plainName, overriddenIn]; done) | decide +kernel
theorem ef_rm12_1 (m : MethodId) (x0 : Addr) (x1 : Int32) : entryFrame m #[(.ref x0), (.int x1)] 2 = mkF m 0 #[.val (.ref x0), .val (.int x1)] [] := by first | (simp [entryFrame, mkF, argsToLocals, Value.category]; done) | rfl
set_option maxRecDepth 65536 in
set_option maxHeartbeats 40000000 in
theorem rm12_1 (l : Launch) (Z : State) (a0 : Array Value) (hw : ∀ d ∈ tables_1, d.before a0 Z = true) (ws : List Jvm.Cond) (a1 : Addr) (h0 : Heap) (n0 : Nat) (Z0 : n0 ≤ h0.size) (kb : ClassId) (c0 : Int32) (V_a1 : Arv Z h0 a1 kb .byte (1 : Int32) [(.int (own_sb c0))] (.int (0 : Int32))) :
    MetFree l (⟨"java/lang/StringUTF16", "coderFromArrayLen", "([BI)B"⟩ : MethodName) (head1 (Jvm.Cond.code (⟨"java/lang/StringUTF16", "coderFromArrayLen", "([BI)B"⟩ : MethodName) jdk_52_method_15_code 2 (some .byte) :: ws) ({ frames := 0, cells := 0, slots := 0, locals := 0 } : Room)) (fun a U => a = #[(.ref a1), (.int (1 : Int32))] ∧ Z.Warmed39 U.vm ∧ U.heap = h0) (fun _ _ _ _ _ => True) (fun _ U o U' => ∃ v L, o = .returned v ∧ QI 0 h0 n0 v U'.heap L ∧ FrameEnd U o U' L ({ frames := 0, cells := 0, slots := 0, locals := 0 } : Room).cells ({ frames := 0, cells := 0, slots := 0, locals := 0 } : Room).slots) := by
  refine MetFree.of_bodySF (plainFor_of_name pn_12) hisR ?_
  intro p e s m args below meth c s₁ Bd hml0 hP hK
  obtain ⟨rfl, hZ, hh⟩ := hP
  have hx := Bd.exec
  have hby := Bd.bytes
  have hlk : meth.locks = false := BodyLoose.notSynchronized Bd
  have hml : c.maxLocals = 2 := hml0
  have hown : s.vm.findClass "java/lang/StringUTF16" = some m.cls := findClass_of_methodNamed Bd.named
  have hnm := (name_of_methodNamed Bd.named Bd.method).1
  have X0 : Stand p l e ({ frames := 0, cells := 0, slots := 0, locals := 0 } : Room) s m #[(.ref a1), (.int (1 : Int32))] below meth c s₁ [] 0 0 := Stand.of_body Bd
  have e0 : s₁.heap = h0 := by rw [← hh, Bd.state]; rfl
  have N0 := Fr.nil n0
  have Zz := Z0
  have Kp : Keep h0 h0 [] := Keep.refl _ _
  show OwnEnds p e below s (QI 0 h0 n0) ({ frames := 0, cells := 0, slots := 0, locals := 0 } : Room).cells ({ frames := 0, cells := 0, slots := 0, locals := 0 } : Room).slots s₁ (entryFrame m #[(.ref a1), (.int (1 : Int32))] 2)
  refine own_step (T' := s₁) (f' := (mkF m 0 #[.val (.ref a1), .val (.int (1 : Int32))] [])) (fun t k => castTop (ef_rm12_1 m a1 (1 : Int32)) k) ?_
  refine own_step (T' := s₁) (f' := (mkF m 1 #[.val (.ref a1), .val (.int (1 : Int32))] [(.int (1 : Int32))])) (fun t k => XS.iloadN X0.here hx rfl (hb hby d12_0) rfl k) ?_
  refine own_step (T' := s₁) (f' := (mkF m 2 #[.val (.ref a1), .val (.int (1 : Int32))] [(.ref a1), (.int (1 : Int32))])) (fun t k => XS.aloadN X0.here hx rfl (hb hby d12_1) rfl rfl k) ?_
  obtain ⟨cl1, Ar1, q1, S1, M1, H1, G1⟩ := id V_a1
  refine own_step (T' := s₁) (f' := (mkF m 3 #[.val (.ref a1), .val (.int (1 : Int32))] [(.int (1 : Int32)), (.int (1 : Int32))])) (fun t k => X0.arraylength hx (by rw [e0]; exact Ar1.1) (State.isArrayOf_alike hZ.alike Ar1.2.1) (g := (mkF m 2 #[.val (.ref a1), .val (.int (1 : Int32))] [(.ref a1), (.int (1 : Int32))])) rfl rfl (hb hby d12_2) _ (by rw [len_of S1 M1]; exact k)) ?_
  refine own_step (T' := s₁) (f' := (mkF m 4 #[.val (.ref a1), .val (.int (1 : Int32))] [(.int (0 : Int32))])) (fun t k => XS.isub X0.here hx rfl (hb hby d12_3) rfl k) ?_
  refine own_step (T' := s₁) (f' := (mkF m 6 #[.val (.ref a1), .val (.int (1 : Int32))] [(.int (31 : Int32)), (.int (0 : Int32))])) (fun t k => XS.bipush X0.here hx rfl (hb hby d12_4) k) ?_
  refine own_step (T' := s₁) (f' := (mkF m 7 #[.val (.ref a1), .val (.int (1 : Int32))] [(.int (((0 : Int32).toUInt32 >>> ((31 : Int32) &&& 31).toUInt32).toInt32))])) (fun t k => XS.iushr X0.here hx rfl (hb hby d12_6) rfl k) ?_
  refine own_step (T' := s₁) (f' := (mkF m 8 #[.val (.ref a1), .val (.int (1 : Int32))] [(.int ((((0 : Int32).toUInt32 >>> ((31 : Int32) &&& 31).toUInt32).toInt32).toInt8.toInt32))])) (fun t k => XS.i2b X0.here hx rfl (hb hby d12_7) rfl k) ?_
  exact own_retN X0 hx hlk (t := .byte) Bd.returns (by simp) (hb hby d12_8) (by decide) (by decide) ⟨by decide, N0, e0⟩

theorem d9_27 : decode jdk_42_method_149_code 27 = .ok (.getstatic 38, 3) := by decide +kernel
theorem d9_30 : decode jdk_42_method_149_code 30 = .ok (.ifCond .eq 28, 3) := by decide +kernel
theorem d9_33 : decode jdk_42_method_149_code 33 = .ok (.aload_n 1, 1) := by decide +kernel
theorem d9_34 : decode jdk_42_method_149_code 34 = .ok (.iload_n 2, 1) := by decide +kernel
theorem d9_35 : decode jdk_42_method_149_code 35 = .ok (.iload_n 3, 1) := by decide +kernel
theorem d9_36 : decode jdk_42_method_149_code 36 = .ok (.invokestatic 177, 3) := by decide +kernel
theorem d9_39 : decode jdk_42_method_149_code 39 = .ok (.astore 5, 2) := by decide +kernel
theorem d9_41 : decode jdk_42_method_149_code 41 = .ok (.aload_n 0, 1) := by decide +kernel
theorem d9_42 : decode jdk_42_method_149_code 42 = .ok (.aload 5, 2) := by decide +kernel
theorem d9_44 : decode jdk_42_method_149_code 44 = .ok (.iload_n 3, 1) := by decide +kernel
theorem d9_45 : decode jdk_42_method_149_code 45 = .ok (.invokestatic 47, 3) := by decide +kernel
theorem d9_48 : decode jdk_42_method_149_code 48 = .ok (.putfield 15, 3) := by decide +kernel
theorem d9_51 : decode jdk_42_method_149_code 51 = .ok (.aload_n 0, 1) := by decide +kernel
theorem d9_52 : decode jdk_42_method_149_code 52 = .ok (.aload 5, 2) := by decide +kernel
theorem d9_54 : decode jdk_42_method_149_code 54 = .ok (.putfield 9, 3) := by decide +kernel
theorem d9_57 : decode jdk_42_method_149_code 57 = .ok (.return_, 1) := by decide +kernel
theorem pd_9_0 : parseMethodDescriptor "([CII)[B" = some ⟨[(.array .char), .int, .int], some (.array .byte)⟩ := by decide +kernel
theorem pd_9_1 : parseMethodDescriptor "([BI)B" = some ⟨[(.array .byte), .int], some .byte⟩ := by decide +kernel
theorem ef_rm9_1 (m : MethodId) (x0 : Addr) (x1 : Addr) (x2 : Int32) (x3 : Int32) : entryFrame m #[(.ref x0), (.ref x1), (.int x2), (.int x3), .null] 6 = mkF m 0 #[.val (.ref x0), .val (.ref x1), .val (.int x2), .val (.int x3), .val .null, .unset] [] := by first | (simp [entryFrame, mkF, argsToLocals, Value.category]; done) | rfl
set_option maxRecDepth 65536 in
set_option maxHeartbeats 40000000 in
theorem rm9_1 (l : Launch) (Z : State) (a0 : Array Value) (hw : ∀ d ∈ tables_1, d.before a0 Z = true) (ws : List Jvm.Cond) (a1 : Addr) (a2 : Addr) (h0 : Heap) (n0 : Nat) (Z0 : n0 ≤ h0.size) (E_a1 : Exa Z h0 a1 "java/lang/String") (F_value_a1 : Fld Z h0 a1 "java/lang/String" "value" "[B" .null) (F_coder_a1 : Fld Z h0 a1 "java/lang/String" "coder" "B" (.int (0 : Int32))) (g_a1 : n0 ≤ a1) (kc : ClassId) (c0 : Int32) (hC0 : OwnC c0) (V_a2 : Arv Z h0 a2 kc .char (1 : Int32) [(.int c0)] (.int (0 : Int32))) (cs : Int32) (S_CS : Sta Z h0 "java/lang/String" "COMPACT_STRINGS" "Z" (.int cs)) (hcs : ¬ cs = (0 : Int32)) (n12 : a1 ≠ a2) :
    MetFree l (⟨"java/lang/String", "<init>", "([CIILjava/lang/Void;)V"⟩ : MethodName) (head1 (Jvm.Cond.code (⟨"java/lang/String", "<init>", "([CIILjava/lang/Void;)V"⟩ : MethodName) jdk_42_method_149_code 6 none :: ws) ({ frames := 2, cells := 1, slots := 1, locals := 36 } : Room)) (fun a U => a = #[(.ref a1), (.ref a2), (.int (0 : Int32)), (.int (1 : Int32)), .null] ∧ Z.Warmed39 U.vm ∧ U.heap = h0) (fun _ _ _ _ _ => True) (fun _ U o U' => ∃ v L, o = .returned v ∧ Q9_1 Z a1 c0 h0 n0 v U'.heap L ∧ FrameEnd U o U' L ({ frames := 2, cells := 1, slots := 1, locals := 36 } : Room).cells ({ frames := 2, cells := 1, slots := 1, locals := 36 } : Room).slots) := by
  refine MetFree.of_bodySF (plainFor_of_name pn_9) hisR ?_
  intro p e s m args below meth c s₁ Bd hml0 hP hK
  obtain ⟨rfl, hZ, hh⟩ := hP
  have hx := Bd.exec
  have hby := Bd.bytes
  have hlk : meth.locks = false := BodyLoose.notSynchronized Bd
  have hml : c.maxLocals = 6 := hml0
  have hown : s.vm.findClass "java/lang/String" = some m.cls := findClass_of_methodNamed Bd.named
  have hnm := (name_of_methodNamed Bd.named Bd.method).1
  have X0 : Stand p l e ({ frames := 2, cells := 1, slots := 1, locals := 36 } : Room) s m #[(.ref a1), (.ref a2), (.int (0 : Int32)), (.int (1 : Int32)), .null] below meth c s₁ [] 0 0 := Stand.of_body Bd
  have e0 : s₁.heap = h0 := by rw [← hh, Bd.state]; rfl
  have N0 := Fr.nil n0
  have Zz := Z0
  have Kp : Keep h0 h0 [a1] := Keep.refl _ _
  show OwnEnds p e below s (Q9_1 Z a1 c0 h0 n0) ({ frames := 2, cells := 1, slots := 1, locals := 36 } : Room).cells ({ frames := 2, cells := 1, slots := 1, locals := 36 } : Room).slots s₁ (entryFrame m #[(.ref a1), (.ref a2), (.int (0 : Int32)), (.int (1 : Int32)), .null] 6)
  refine own_step (T' := s₁) (f' := (mkF m 0 #[.val (.ref a1), .val (.ref a2), .val (.int (0 : Int32)), .val (.int (1 : Int32)), .val .null, .unset] [])) (fun t k => castTop (ef_rm9_1 m a1 a2 (0 : Int32) (1 : Int32)) k) ?_
  refine own_step (T' := s₁) (f' := (mkF m 1 #[.val (.ref a1), .val (.ref a2), .val (.int (0 : Int32)), .val (.int (1 : Int32)), .val .null, .unset] [(.ref a1)])) (fun t k => XS.aloadN X0.here hx rfl (hb hby d9_0) rfl rfl k) ?_
  obtain ⟨T1, X1, e1, st1⟩ := initO X0 hx hZ hown (hw _ (List.mem_of_getElem? (i := 50) rfl)) (hw _ (List.mem_of_getElem? (i := 12) rfl)) (hw _ (List.mem_of_getElem? (i := 13) rfl)) e0 (g := (mkF m 1 #[.val (.ref a1), .val (.ref a2), .val (.int (0 : Int32)), .val (.int (1 : Int32)), .val .null, .unset] [(.ref a1)])) rfl (by rw [hml]; rfl) rfl (hb hby d9_1) (by decide) (W := 0) (by show 2 * 0 + _ ≤ _; exact Nat.le_of_eq rfl) (by decide)
  refine own_step (T' := T1) (f' := (mkF m 4 #[.val (.ref a1), .val (.ref a2), .val (.int (0 : Int32)), .val (.int (1 : Int32)), .val .null, .unset] [])) (fun t k => st1 t k) ?_
  refine own_step (T' := T1) (f' := (mkF m 5 #[.val (.ref a1), .val (.ref a2), .val (.int (0 : Int32)), .val (.int (1 : Int32)), .val .null, .unset] [(.int (1 : Int32))])) (fun t k => XS.iloadN X1.here hx rfl (hb hby d9_4) rfl k) ?_
  refine own_step (T' := T1) (f' := (mkF m 27 #[.val (.ref a1), .val (.ref a2), .val (.int (0 : Int32)), .val (.int (1 : Int32)), .val .null, .unset] [])) (fun t k => XS.ifYes X1.here hx rfl (pc0 := 5) (pc' := 27) rfl (hb hby d9_5) rfl ((if0 _ _).trans (feq (by decide : ¬ ((1 : Int32) = (0 : Int32)))).2) (by decide) (by decide) k) ?_
  obtain ⟨T2, X2, e2, st2⟩ := getS2 X1 hx hZ hown (host := "") (Or.inl (hw _ (List.mem_of_getElem? (i := 51) rfl))) Via.refl e1 S_CS (g := (mkF m 27 #[.val (.ref a1), .val (.ref a2), .val (.int (0 : Int32)), .val (.int (1 : Int32)), .val .null, .unset] [])) rfl (hb hby d9_27)
  refine own_step (T' := T2) (f' := (mkF m 30 #[.val (.ref a1), .val (.ref a2), .val (.int (0 : Int32)), .val (.int (1 : Int32)), .val .null, .unset] [(.int cs)])) (fun t k => st2 t k) ?_
  refine own_step (T' := T2) (f' := (mkF m 33 #[.val (.ref a1), .val (.ref a2), .val (.int (0 : Int32)), .val (.int (1 : Int32)), .val .null, .unset] [])) (fun t k => XS.ifNo X2.here hx rfl (hb hby d9_30) rfl ((if0 _ _).trans (feq hcs).1) k) ?_
  refine own_step (T' := T2) (f' := (mkF m 34 #[.val (.ref a1), .val (.ref a2), .val (.int (0 : Int32)), .val (.int (1 : Int32)), .val .null, .unset] [(.ref a2)])) (fun t k => XS.aloadN X2.here hx rfl (hb hby d9_33) rfl rfl k) ?_
  refine own_step (T' := T2) (f' := (mkF m 35 #[.val (.ref a1), .val (.ref a2), .val (.int (0 : Int32)), .val (.int (1 : Int32)), .val .null, .unset] [(.int (0 : Int32)), (.ref a2)])) (fun t k => XS.iloadN X2.here hx rfl (hb hby d9_34) rfl k) ?_
  refine own_step (T' := T2) (f' := (mkF m 36 #[.val (.ref a1), .val (.ref a2), .val (.int (0 : Int32)), .val (.int (1 : Int32)), .val .null, .unset] [(.int (1 : Int32)), (.int (0 : Int32)), (.ref a2)])) (fun t k => XS.iloadN X2.here hx rfl (hb hby d9_35) rfl k) ?_
  obtain ⟨_, _, ⟨T3, L3, k3, n3⟩, -, X3, ⟨Lc3, hQ3, l3, y3, z3⟩, st3⟩ := Jvm.LawKit.callS X2 hx (y := (⟨"java/lang/StringUTF16", "compress", "([CII)[B"⟩ : MethodName)) hown (mvT hZ (hw _ (List.mem_of_getElem? (i := 52) rfl))) (mvT hZ (hw _ (List.mem_of_getElem? (i := 53) rfl))) (mvT hZ (hw _ (List.mem_of_getElem? (i := 54) rfl))) (mvT hZ (hw _ (List.mem_of_getElem? (i := 55) rfl))) (by decide) (backOf (W := 0) (rm10_1 l Z a0 hw [] a2 h0 n0 Zz kc c0 hC0 V_a2) hZ (hw _ (List.mem_of_getElem? (i := 55) rfl)) (hw _ (List.mem_of_getElem? (i := 54) rfl)) (by decide) (by decide)) (g := (mkF m 36 #[.val (.ref a1), .val (.ref a2), .val (.int (0 : Int32)), .val (.int (1 : Int32)), .val .null, .unset] [(.int (1 : Int32)), (.int (0 : Int32)), (.ref a2)])) rfl (by rw [hml]; rfl) (argsL := [(.ref a2), (.int (0 : Int32)), (.int (1 : Int32))]) (rest := []) (lenOf pd_9_0 rfl) rfl (by show 2 * 0 + _ ≤ _; exact Nat.le_of_eq rfl) (hb hby d9_36) (fun _ _ => ⟨rfl, e2, (by decide : 0 + 1 ≤ _), (by decide : 0 + 1 ≤ _)⟩)
  dsimp only [Pt.U, Pt.locs, Pt.cells, Pt.slots] at X3 l3 y3 z3 st3 hQ3
  subst l3 y3 z3
  obtain ⟨rb3, rk3, rfl, N3q, K3, zz3, Vr3⟩ := hQ3
  have N3 := Fr.app N0 N3q
  have ne_a1_rb3 : a1 ≠ rb3 := Nat.ne_of_lt (Nat.lt_of_lt_of_le E_a1.lt zz3)
  have ne_a2_rb3 : a2 ≠ rb3 := Nat.ne_of_lt (Nat.lt_of_lt_of_le V_a2.lt zz3)
  replace S_CS := own_sta_keep S_CS K3 all0
  replace E_a1 := E_a1.keep K3
  replace F_value_a1 := F_value_a1.keep K3 nin0
  replace F_coder_a1 := F_coder_a1.keep K3 nin0
  replace V_a2 := V_a2.keep K3 nin0
  replace Zz := Nat.le_trans Zz K3.1
  replace Kp := Kp.trans K3 all0
  refine own_step (T' := T3) (f' := (mkF m 39 #[.val (.ref a1), .val (.ref a2), .val (.int (0 : Int32)), .val (.int (1 : Int32)), .val .null, .unset] [(.ref rb3)])) (fun t k => st3 t k) ?_
  refine own_step (T' := T3) (f' := (mkF m 41 #[.val (.ref a1), .val (.ref a2), .val (.int (0 : Int32)), .val (.int (1 : Int32)), .val .null, .val (.ref rb3)] [])) (fun t k => XS.astore X3.here hx rfl (hb hby d9_39) rfl rfl (l' := #[.val (.ref a1), .val (.ref a2), .val (.int (0 : Int32)), .val (.int (1 : Int32)), .val .null, .val (.ref rb3)]) rfl k) ?_
  refine own_step (T' := T3) (f' := (mkF m 42 #[.val (.ref a1), .val (.ref a2), .val (.int (0 : Int32)), .val (.int (1 : Int32)), .val .null, .val (.ref rb3)] [(.ref a1)])) (fun t k => XS.aloadN X3.here hx rfl (hb hby d9_41) rfl rfl k) ?_
  refine own_step (T' := T3) (f' := (mkF m 44 #[.val (.ref a1), .val (.ref a2), .val (.int (0 : Int32)), .val (.int (1 : Int32)), .val .null, .val (.ref rb3)] [(.ref rb3), (.ref a1)])) (fun t k => XS.aload X3.here hx rfl (hb hby d9_42) rfl rfl k) ?_
  refine own_step (T' := T3) (f' := (mkF m 45 #[.val (.ref a1), .val (.ref a2), .val (.int (0 : Int32)), .val (.int (1 : Int32)), .val .null, .val (.ref rb3)] [(.int (1 : Int32)), (.ref rb3), (.ref a1)])) (fun t k => XS.iloadN X3.here hx rfl (hb hby d9_44) rfl k) ?_
  obtain ⟨_, _, ⟨T4, L4, k4, n4⟩, -, X4, ⟨Lc4, hQ4, l4, y4, z4⟩, st4⟩ := Jvm.LawKit.callS X3 hx (y := (⟨"java/lang/StringUTF16", "coderFromArrayLen", "([BI)B"⟩ : MethodName)) hown (mvT hZ (hw _ (List.mem_of_getElem? (i := 59) rfl))) (mvT hZ (hw _ (List.mem_of_getElem? (i := 60) rfl))) (mvT hZ (hw _ (List.mem_of_getElem? (i := 54) rfl))) (mvT hZ (hw _ (List.mem_of_getElem? (i := 61) rfl))) (by decide) (backOf (W := 1) (rm12_1 l Z a0 hw [] rb3 T3.heap n0 Zz rk3 c0 Vr3) hZ (hw _ (List.mem_of_getElem? (i := 61) rfl)) (hw _ (List.mem_of_getElem? (i := 54) rfl)) (by decide) (by decide)) (g := (mkF m 45 #[.val (.ref a1), .val (.ref a2), .val (.int (0 : Int32)), .val (.int (1 : Int32)), .val .null, .val (.ref rb3)] [(.int (1 : Int32)), (.ref rb3), (.ref a1)])) rfl (by rw [hml]; rfl) (argsL := [(.ref rb3), (.int (1 : Int32))]) (rest := [(.ref a1)]) (lenOf pd_9_1 rfl) rfl (by show 2 * 0 + _ ≤ _; exact Nat.le_of_eq rfl) (hb hby d9_45) (fun _ _ => ⟨rfl, rfl, (by decide : 1 + 0 ≤ _), (by decide : 1 + 0 ≤ _)⟩)
  dsimp only [Pt.U, Pt.locs, Pt.cells, Pt.slots] at X4 l4 y4 z4 st4 hQ4
  subst l4 y4 z4
  obtain ⟨rfl, N4q, E4⟩ := hQ4
  have N4 := Fr.app N3 N4q
  refine own_step (T' := T4) (f' := (mkF m 48 #[.val (.ref a1), .val (.ref a2), .val (.int (0 : Int32)), .val (.int (1 : Int32)), .val .null, .val (.ref rb3)] [(.int (0 : Int32)), (.ref a1)])) (fun t k => st4 t k) ?_
  obtain ⟨T5, h5, X5, e5, W5, st5⟩ := putFN X4 hx hZ hown (hw _ (List.mem_of_getElem? (i := 62) rfl)) Via.refl E4 F_coder_a1 E_a1 (Or.inr ⟨(hw _ (List.mem_of_getElem? (i := 63) rfl)), rfl, hnm⟩) (hw _ (List.mem_of_getElem? (i := 41) rfl)) (ty := .byte) (v' := (.int (0 : Int32))) (by decide) rfl (by decide) (g := (mkF m 48 #[.val (.ref a1), .val (.ref a2), .val (.int (0 : Int32)), .val (.int (1 : Int32)), .val .null, .val (.ref rb3)] [(.int (0 : Int32)), (.ref a1)])) rfl rfl (hb hby d9_48)
  replace E_a1 := E_a1.wr W5
  replace F_value_a1 := F_value_a1.other W5 (Or.inr (Jvm.RoadKit.slot_ne (Or.inr (hw _ (List.mem_of_getElem? (i := 65) rfl))) (Or.inr (hw _ (List.mem_of_getElem? (i := 63) rfl))) (by decide) (t := (.array .byte)) (t' := .byte) (by decide) (by decide)))
  replace F_coder_a1 := F_coder_a1.same W5
  replace V_a2 := V_a2.other W5 (Ne.symm n12)
  replace S_CS := S_CS.wr W5
  replace Vr3 := Vr3.other W5 (Ne.symm ne_a1_rb3)
  replace Zz := Nat.le_trans Zz (Keep.of_wr W5).1
  replace Kp := Kp.wr W5 (Or.inl (List.mem_of_getElem? (i := 0) rfl))
  have N5 := Fr.snoc X5 N4 g_a1
  refine own_step (T' := T5) (f' := (mkF m 51 #[.val (.ref a1), .val (.ref a2), .val (.int (0 : Int32)), .val (.int (1 : Int32)), .val .null, .val (.ref rb3)] [])) (fun t k => st5 t k) ?_
  refine own_step (T' := T5) (f' := (mkF m 52 #[.val (.ref a1), .val (.ref a2), .val (.int (0 : Int32)), .val (.int (1 : Int32)), .val .null, .val (.ref rb3)] [(.ref a1)])) (fun t k => XS.aloadN X5.here hx rfl (hb hby d9_51) rfl rfl k) ?_
  refine own_step (T' := T5) (f' := (mkF m 54 #[.val (.ref a1), .val (.ref a2), .val (.int (0 : Int32)), .val (.int (1 : Int32)), .val .null, .val (.ref rb3)] [(.ref rb3), (.ref a1)])) (fun t k => XS.aload X5.here hx rfl (hb hby d9_52) rfl rfl k) ?_
  obtain ⟨T6, h6, X6, e6, W6, st6⟩ := putF X5 hx hZ hown (host := "") (Or.inl (hw _ (List.mem_of_getElem? (i := 64) rfl))) Via.refl e5 F_value_a1 E_a1 (Or.inr ⟨(hw _ (List.mem_of_getElem? (i := 65) rfl)), rfl, hnm⟩) (hw _ (List.mem_of_getElem? (i := 41) rfl)) (ty := (.array .byte)) (by decide) rfl rfl (g := (mkF m 54 #[.val (.ref a1), .val (.ref a2), .val (.int (0 : Int32)), .val (.int (1 : Int32)), .val .null, .val (.ref rb3)] [(.ref rb3), (.ref a1)])) rfl rfl (hb hby d9_54)
  replace E_a1 := E_a1.wr W6
  replace F_value_a1 := F_value_a1.same W6
  replace F_coder_a1 := F_coder_a1.other W6 (Or.inr (Jvm.RoadKit.slot_ne (Or.inr (hw _ (List.mem_of_getElem? (i := 63) rfl))) (Or.inr (hw _ (List.mem_of_getElem? (i := 65) rfl))) (by decide) (t := .byte) (t' := (.array .byte)) (by decide) (by decide)))
  replace V_a2 := V_a2.other W6 (Ne.symm n12)
  replace S_CS := S_CS.wr W6
  replace Vr3 := Vr3.other W6 (Ne.symm ne_a1_rb3)
  replace Zz := Nat.le_trans Zz (Keep.of_wr W6).1
  replace Kp := Kp.wr W6 (Or.inl (List.mem_of_getElem? (i := 0) rfl))
  have N6 := Fr.snoc X6 N5 g_a1
  refine own_step (T' := T6) (f' := (mkF m 57 #[.val (.ref a1), .val (.ref a2), .val (.int (0 : Int32)), .val (.int (1 : Int32)), .val .null, .val (.ref rb3)] [])) (fun t k => st6 t k) ?_
  exact own_retV X6 hx hlk Bd.returns (hb hby d9_57) (by decide) (by decide) (by rw [e6]; exact ⟨rfl, N6, Kp, rb3, rk3, E_a1, F_coder_a1, F_value_a1, Vr3⟩)

theorem ef_rm8_1 (m : MethodId) (x0 : Addr) (x1 : Addr) : entryFrame m #[(.ref x0), (.ref x1)] 2 = mkF m 0 #[.val (.ref x0), .val (.ref x1)] [] := by first | (simp [entryFrame, mkF, argsToLocals, Value.category]; done) | rfl
set_option maxRecDepth 65536 in
set_option maxHeartbeats 40000000 in
theorem rm8_1 (l : Launch) (Z : State) (a0 : Array Value) (hw : ∀ d ∈ tables_1, d.before a0 Z = true) (ws : List Jvm.Cond) (a1 : Addr) (a2 : Addr) (h0 : Heap) (n0 : Nat) (Z0 : n0 ≤ h0.size) (E_a1 : Exa Z h0 a1 "java/lang/String") (F_value_a1 : Fld Z h0 a1 "java/lang/String" "value" "[B" .null) (F_coder_a1 : Fld Z h0 a1 "java/lang/String" "coder" "B" (.int (0 : Int32))) (g_a1 : n0 ≤ a1) (kc : ClassId) (c0 : Int32) (hC0 : OwnC c0) (V_a2 : Arv Z h0 a2 kc .char (1 : Int32) [(.int c0)] (.int (0 : Int32))) (cs : Int32) (S_CS : Sta Z h0 "java/lang/String" "COMPACT_STRINGS" "Z" (.int cs)) (hcs : ¬ cs = (0 : Int32)) (n12 : a1 ≠ a2) :
    MetFree l (⟨"java/lang/String", "<init>", "([C)V"⟩ : MethodName) (head1 (Jvm.Cond.code (⟨"java/lang/String", "<init>", "([C)V"⟩ : MethodName) jdk_42_method_3_code 2 none :: ws) ({ frames := 3, cells := 1, slots := 1, locals := 54 } : Room)) (fun a U => a = #[(.ref a1), (.ref a2)] ∧ Z.Warmed39 U.vm ∧ U.heap = h0) (fun _ _ _ _ _ => True) (fun _ U o U' => ∃ v L, o = .returned v ∧ Q9_1 Z a1 c0 h0 n0 v U'.heap L ∧ FrameEnd U o U' L ({ frames := 3, cells := 1, slots := 1, locals := 54 } : Room).cells ({ frames := 3, cells := 1, slots := 1, locals := 54 } : Room).slots) := by
  refine MetFree.of_bodySF (plainFor_of_name pn_8) hisR ?_
  intro p e s m args below meth c s₁ Bd hml0 hP hK
  obtain ⟨rfl, hZ, hh⟩ := hP
  have hx := Bd.exec
  have hby := Bd.bytes
  have hlk : meth.locks = false := BodyLoose.notSynchronized Bd
  have hml : c.maxLocals = 2 := hml0
  have hown : s.vm.findClass "java/lang/String" = some m.cls := findClass_of_methodNamed Bd.named
  have hnm := (name_of_methodNamed Bd.named Bd.method).1
  have X0 : Stand p l e ({ frames := 3, cells := 1, slots := 1, locals := 54 } : Room) s m #[(.ref a1), (.ref a2)] below meth c s₁ [] 0 0 := Stand.of_body Bd
  have e0 : s₁.heap = h0 := by rw [← hh, Bd.state]; rfl
  have N0 := Fr.nil n0
  have Zz := Z0
  have Kp : Keep h0 h0 [] := Keep.refl _ _
  show OwnEnds p e below s (Q9_1 Z a1 c0 h0 n0) ({ frames := 3, cells := 1, slots := 1, locals := 54 } : Room).cells ({ frames := 3, cells := 1, slots := 1, locals := 54 } : Room).slots s₁ (entryFrame m #[(.ref a1), (.ref a2)] 2)
  refine own_step (T' := s₁) (f' := (mkF m 0 #[.val (.ref a1), .val (.ref a2)] [])) (fun t k => castTop (ef_rm8_1 m a1 a2) k) ?_
  refine own_step (T' := s₁) (f' := (mkF m 1 #[.val (.ref a1), .val (.ref a2)] [(.ref a1)])) (fun t k => XS.aloadN X0.here hx rfl (hb hby d8_0) rfl rfl k) ?_
  refine own_step (T' := s₁) (f' := (mkF m 2 #[.val (.ref a1), .val (.ref a2)] [(.ref a2), (.ref a1)])) (fun t k => XS.aloadN X0.here hx rfl (hb hby d8_1) rfl rfl k) ?_
  refine own_step (T' := s₁) (f' := (mkF m 3 #[.val (.ref a1), .val (.ref a2)] [(.int (0 : Int32)), (.ref a2), (.ref a1)])) (fun t k => XS.iconst X0.here hx rfl (hb hby d8_2) k) ?_
  refine own_step (T' := s₁) (f' := (mkF m 4 #[.val (.ref a1), .val (.ref a2)] [(.ref a2), (.int (0 : Int32)), (.ref a2), (.ref a1)])) (fun t k => XS.aloadN X0.here hx rfl (hb hby d8_3) rfl rfl k) ?_
  obtain ⟨cl1, Ar1, q1, S1, M1, H1, G1⟩ := id V_a2
  refine own_step (T' := s₁) (f' := (mkF m 5 #[.val (.ref a1), .val (.ref a2)] [(.int (1 : Int32)), (.int (0 : Int32)), (.ref a2), (.ref a1)])) (fun t k => X0.arraylength hx (by rw [e0]; exact Ar1.1) (State.isArrayOf_alike hZ.alike Ar1.2.1) (g := (mkF m 4 #[.val (.ref a1), .val (.ref a2)] [(.ref a2), (.int (0 : Int32)), (.ref a2), (.ref a1)])) rfl rfl (hb hby d8_4) _ (by rw [len_of S1 M1]; exact k)) ?_
  refine own_step (T' := s₁) (f' := (mkF m 6 #[.val (.ref a1), .val (.ref a2)] [.null, (.int (1 : Int32)), (.int (0 : Int32)), (.ref a2), (.ref a1)])) (fun t k => XS.aconstNull X0.here hx rfl (hb hby d8_5) k) ?_
  obtain ⟨_, _, ⟨T2, L2, k2, n2⟩, -, X2, ⟨Lc2, hQ2, l2, y2, z2⟩, st2⟩ := X0.specialBack hx (y := (⟨"java/lang/String", "<init>", "([CIILjava/lang/Void;)V"⟩ : MethodName)) rfl hown (mvT hZ (hw _ (List.mem_of_getElem? (i := 46) rfl))) (mvT hZ (hw _ (List.mem_of_getElem? (i := 47) rfl))) (mvT hZ (hw _ (List.mem_of_getElem? (i := 49) rfl))) (by decide) (backOf (W := 0) (rm9_1 l Z a0 hw [] a1 a2 h0 n0 Zz E_a1 F_value_a1 F_coder_a1 g_a1 kc c0 hC0 V_a2 cs S_CS hcs n12) hZ (hw _ (List.mem_of_getElem? (i := 49) rfl)) (hw _ (List.mem_of_getElem? (i := 42) rfl)) (by decide) (by decide)) (g := (mkF m 6 #[.val (.ref a1), .val (.ref a2)] [.null, (.int (1 : Int32)), (.int (0 : Int32)), (.ref a2), (.ref a1)])) rfl (by rw [hml]; rfl) (Steps.refl _) (a := a1) (argsL := [(.ref a2), (.int (0 : Int32)), (.int (1 : Int32)), .null]) (rest := []) (lenOf pd_8_0 rfl) rfl (by show 2 * 0 + _ ≤ _; exact Nat.le_of_eq rfl) (hb hby d8_6) (fun _ _ => ⟨rfl, e0, (by decide : 0 + 1 ≤ _), (by decide : 0 + 1 ≤ _)⟩)
  dsimp only [Pt.U, Pt.locs, Pt.cells, Pt.slots] at X2 l2 y2 z2 st2 hQ2
  subst l2 y2 z2
  obtain ⟨rfl, N2q, K2, Ow2⟩ := hQ2
  have N2 := Fr.app N0 N2q
  refine own_step (T' := T2) (f' := (mkF m 9 #[.val (.ref a1), .val (.ref a2)] [])) (fun t k => st2.trans k) ?_
  exact own_retV X2 hx hlk Bd.returns (hb hby d8_9) (by decide) (by decide) ⟨rfl, N2, K2, Ow2⟩

theorem d7_15 : decode method_3_code 15 = .ok (.iload_n 0, 1) := by decide +kernel
theorem d7_16 : decode method_3_code 16 = .ok (.iconst 1, 1) := by decide +kernel
theorem d7_17 : decode method_3_code 17 = .ok (.if_icmp .ne 20, 3) := by decide +kernel
theorem d7_20 : decode method_3_code 20 = .ok (.new 7, 3) := by decide +kernel
theorem d7_23 : decode method_3_code 23 = .ok (.dup, 1) := by decide +kernel
theorem d7_24 : decode method_3_code 24 = .ok (.iconst 1, 1) := by decide +kernel
theorem d7_25 : decode method_3_code 25 = .ok (.newarray .char, 2) := by decide +kernel
theorem d7_27 : decode method_3_code 27 = .ok (.dup, 1) := by decide +kernel
theorem d7_28 : decode method_3_code 28 = .ok (.iconst 0, 1) := by decide +kernel
theorem d7_29 : decode method_3_code 29 = .ok (.aload_n 1, 1) := by decide +kernel
theorem d7_30 : decode method_3_code 30 = .ok (.iconst 0, 1) := by decide +kernel
theorem d7_31 : decode method_3_code 31 = .ok (.caload, 1) := by decide +kernel
theorem d7_32 : decode method_3_code 32 = .ok (.castore, 1) := by decide +kernel
theorem d7_33 : decode method_3_code 33 = .ok (.invokespecial 9, 3) := by decide +kernel
theorem d7_36 : decode method_3_code 36 = .ok (.areturn, 1) := by decide +kernel
theorem ef_rm7_1 (m : MethodId) (x0 : Int32) (x1 : Addr) : entryFrame m #[(.int x0), (.ref x1)] 2 = mkF m 0 #[.val (.int x0), .val (.ref x1)] [] := by first | (simp [entryFrame, mkF, argsToLocals, Value.category]; done) | rfl
set_option maxRecDepth 65536 in
set_option maxHeartbeats 40000000 in
theorem rm7_1 (l : Launch) (Z : State) (a0 : Array Value) (hw : ∀ d ∈ tables_1, d.before a0 Z = true) (ws : List Jvm.Cond) (a2 : Addr) (h0 : Heap) (n0 : Nat) (Z0 : n0 ≤ h0.size) (c0 : Int32) (hC0 : OwnC c0) (d1 d2 : Int32) (ks : ClassId) (V_a2 : Arv Z h0 a2 ks .char (3 : Int32) [(.int c0), (.int d1), (.int d2)] (.int (0 : Int32))) (cs : Int32) (S_CS : Sta Z h0 "java/lang/String" "COMPACT_STRINGS" "Z" (.int cs)) (hcs : ¬ cs = (0 : Int32)) :
    MetFree l (⟨"com/example/lit2/lit2/weave/TexOutputDropFinalBreakPinLaw", "str", "(I[C)Ljava/lang/String;"⟩ : MethodName) (head1 (Jvm.Cond.code (⟨"com/example/lit2/lit2/weave/TexOutputDropFinalBreakPinLaw", "str", "(I[C)Ljava/lang/String;"⟩ : MethodName) method_3_code 2 (some (.object "java/lang/String")) :: ws) ({ frames := 4, cells := 3, slots := 6, locals := 70 } : Room)) (fun a U => a = #[(.int (1 : Int32)), (.ref a2)] ∧ Z.Warmed39 U.vm ∧ U.heap = h0) (fun _ _ _ _ _ => True) (fun _ U o U' => ∃ v L, o = .returned v ∧ Q7_1 Z c0 h0 n0 v U'.heap L ∧ FrameEnd U o U' L ({ frames := 4, cells := 3, slots := 6, locals := 70 } : Room).cells ({ frames := 4, cells := 3, slots := 6, locals := 70 } : Room).slots) := by
  refine MetFree.of_bodySF (plainFor_of_name pn_7) hisR ?_
  intro p e s m args below meth c s₁ Bd hml0 hP hK
  obtain ⟨rfl, hZ, hh⟩ := hP
  have hx := Bd.exec
  have hby := Bd.bytes
  have hlk : meth.locks = false := BodyLoose.notSynchronized Bd
  have hml : c.maxLocals = 2 := hml0
  have hown : s.vm.findClass "com/example/lit2/lit2/weave/TexOutputDropFinalBreakPinLaw" = some m.cls := findClass_of_methodNamed Bd.named
  have hnm := (name_of_methodNamed Bd.named Bd.method).1
  have X0 : Stand p l e ({ frames := 4, cells := 3, slots := 6, locals := 70 } : Room) s m #[(.int (1 : Int32)), (.ref a2)] below meth c s₁ [] 0 0 := Stand.of_body Bd
  have e0 : s₁.heap = h0 := by rw [← hh, Bd.state]; rfl
  have N0 := Fr.nil n0
  have Zz := Z0
  have Kp : Keep h0 h0 [] := Keep.refl _ _
  show OwnEnds p e below s (Q7_1 Z c0 h0 n0) ({ frames := 4, cells := 3, slots := 6, locals := 70 } : Room).cells ({ frames := 4, cells := 3, slots := 6, locals := 70 } : Room).slots s₁ (entryFrame m #[(.int (1 : Int32)), (.ref a2)] 2)
  refine own_step (T' := s₁) (f' := (mkF m 0 #[.val (.int (1 : Int32)), .val (.ref a2)] [])) (fun t k => castTop (ef_rm7_1 m (1 : Int32) a2) k) ?_
  refine own_step (T' := s₁) (f' := (mkF m 1 #[.val (.int (1 : Int32)), .val (.ref a2)] [(.int (1 : Int32))])) (fun t k => XS.iloadN X0.here hx rfl (hb hby d7_0) rfl k) ?_
  refine own_step (T' := s₁) (f' := (mkF m 15 #[.val (.int (1 : Int32)), .val (.ref a2)] [])) (fun t k => XS.ifYes X0.here hx rfl (pc0 := 1) (pc' := 15) rfl (hb hby d7_1) rfl ((if0 _ _).trans (tlt (by decide : (0 : Int32) < (1 : Int32))).2.2.1) (by decide) (by decide) k) ?_
  refine own_step (T' := s₁) (f' := (mkF m 16 #[.val (.int (1 : Int32)), .val (.ref a2)] [(.int (1 : Int32))])) (fun t k => XS.iloadN X0.here hx rfl (hb hby d7_15) rfl k) ?_
  refine own_step (T' := s₁) (f' := (mkF m 17 #[.val (.int (1 : Int32)), .val (.ref a2)] [(.int (1 : Int32)), (.int (1 : Int32))])) (fun t k => XS.iconst X0.here hx rfl (hb hby d7_16) k) ?_
  refine own_step (T' := s₁) (f' := (mkF m 20 #[.val (.int (1 : Int32)), .val (.ref a2)] [])) (fun t k => XS.icmpNo X0.here hx rfl (hb hby d7_17) rfl (teq (by decide : (1 : Int32) = (1 : Int32))).2 k) ?_
  obtain ⟨T1, h1, X1, e1, E1, A1, D1, -, st1⟩ := newO X0 hx hZ hown (hw _ (List.mem_of_getElem? (i := 40) rfl)) (hw _ (List.mem_of_getElem? (i := 41) rfl)) (hw _ (List.mem_of_getElem? (i := 42) rfl)) e0 (g := (mkF m 20 #[.val (.int (1 : Int32)), .val (.ref a2)] [])) rfl (hb hby d7_20) (by decide) (by decide)
  obtain ⟨b1, g1⟩ : ∃ z, z = h0.size := ⟨_, rfl⟩
  rw [← g1] at A1 D1 st1
  have ne_a2_b1 : a2 ≠ b1 := Nat.ne_of_lt (Nat.lt_of_lt_of_le V_a2.lt (Nat.le_of_eq g1.symm))
  have g_b1 : n0 ≤ b1 := Nat.le_trans Zz (Nat.le_of_eq g1.symm)
  have sz_b1 : h0.size ≤ b1 := Nat.le_trans Kp.1 (Nat.le_of_eq g1.symm)
  replace V_a2 := V_a2.ext E1
  replace S_CS := S_CS.ext E1
  replace Zz := Nat.le_trans Zz E1.1
  replace Kp := Kp.ext E1
  have E_b1 := A1
  have F_coder_b1 : Fld Z h1 b1 "java/lang/String" "coder" "B" (.int (0 : Int32)) := D1 (Or.inr (hw _ (List.mem_of_getElem? (i := 63) rfl))) (ty := .byte) (by decide)
  have F_value_b1 : Fld Z h1 b1 "java/lang/String" "value" "[B" .null := D1 (Or.inr (hw _ (List.mem_of_getElem? (i := 65) rfl))) (ty := (.array .byte)) (by decide)
  refine own_step (T' := T1) (f' := (mkF m 23 #[.val (.int (1 : Int32)), .val (.ref a2)] [(.ref b1)])) (fun t k => st1 t k) ?_
  refine own_step (T' := T1) (f' := (mkF m 24 #[.val (.int (1 : Int32)), .val (.ref a2)] [(.ref b1), (.ref b1)])) (fun t k => XS.dup X1.here hx rfl (hb hby d7_23) rfl rfl k) ?_
  refine own_step (T' := T1) (f' := (mkF m 25 #[.val (.int (1 : Int32)), .val (.ref a2)] [(.int (1 : Int32)), (.ref b1), (.ref b1)])) (fun t k => XS.iconst X1.here hx rfl (hb hby d7_24) k) ?_
  obtain ⟨T2, h2, k2, X2, e2, E2, A2, EX2, st2⟩ := newPE X1 hx hZ (hw _ (List.mem_of_getElem? (i := 0) rfl)) e1 (g := (mkF m 25 #[.val (.int (1 : Int32)), .val (.ref a2)] [(.int (1 : Int32)), (.ref b1), (.ref b1)])) rfl (hb hby d7_25) rfl (by decide) (cap := 1) (by decide) (by decide) (by decide) (by decide) (ad := "[C") rfl
  obtain ⟨b2, g2⟩ : ∃ z, z = h1.size := ⟨_, rfl⟩
  rw [← g2] at A2 EX2 st2
  have ne_a2_b2 : a2 ≠ b2 := Nat.ne_of_lt (Nat.lt_of_lt_of_le V_a2.lt (Nat.le_of_eq g2.symm))
  have ne_b1_b2 : b1 ≠ b2 := Nat.ne_of_lt (Nat.lt_of_lt_of_le E_b1.lt (Nat.le_of_eq g2.symm))
  have g_b2 : n0 ≤ b2 := Nat.le_trans Zz (Nat.le_of_eq g2.symm)
  have sz_b2 : h0.size ≤ b2 := Nat.le_trans Kp.1 (Nat.le_of_eq g2.symm)
  replace V_a2 := V_a2.ext E2
  replace S_CS := S_CS.ext E2
  replace E_b1 := E_b1.ext E2
  replace F_coder_b1 := F_coder_b1.ext E2
  replace F_value_b1 := F_value_b1.ext E2
  replace Zz := Nat.le_trans Zz E2.1
  replace Kp := Kp.ext E2
  have V_b2 : Arv Z h2 b2 k2 .char (1 : Int32) [(.int (0 : Int32))] (.int (0 : Int32)) := (Arv.new A2 (by decide)).pad (pad_rep [] (.int (0 : Int32)) 1)
  have EX_b2 := EX2
  refine own_step (T' := T2) (f' := (mkF m 27 #[.val (.int (1 : Int32)), .val (.ref a2)] [(.ref b2), (.ref b1), (.ref b1)])) (fun t k => st2 t k) ?_
  refine own_step (T' := T2) (f' := (mkF m 28 #[.val (.int (1 : Int32)), .val (.ref a2)] [(.ref b2), (.ref b2), (.ref b1), (.ref b1)])) (fun t k => XS.dup X2.here hx rfl (hb hby d7_27) rfl rfl k) ?_
  refine own_step (T' := T2) (f' := (mkF m 29 #[.val (.int (1 : Int32)), .val (.ref a2)] [(.int (0 : Int32)), (.ref b2), (.ref b2), (.ref b1), (.ref b1)])) (fun t k => XS.iconst X2.here hx rfl (hb hby d7_28) k) ?_
  refine own_step (T' := T2) (f' := (mkF m 30 #[.val (.int (1 : Int32)), .val (.ref a2)] [(.ref a2), (.int (0 : Int32)), (.ref b2), (.ref b2), (.ref b1), (.ref b1)])) (fun t k => XS.aloadN X2.here hx rfl (hb hby d7_29) rfl rfl k) ?_
  refine own_step (T' := T2) (f' := (mkF m 31 #[.val (.int (1 : Int32)), .val (.ref a2)] [(.int (0 : Int32)), (.ref a2), (.int (0 : Int32)), (.ref b2), (.ref b2), (.ref b1), (.ref b1)])) (fun t k => XS.iconst X2.here hx rfl (hb hby d7_30) k) ?_
  obtain ⟨cl3, Ar3, q3, S3, M3, H3, G3⟩ := id V_a2
  have hin3 : ¬ ((0 : Int32) < 0 ∨ cl3.slots.size ≤ ((0 : Int32)).toNatClampNeg) := inb_of S3 ⟨by decide, by decide⟩
  have hat3 : cl3.slots[((0 : Int32)).toNatClampNeg]? = some (.int c0) := own_at hin3 H3 0 rfl rfl
  refine own_step (T' := T2) (f' := (mkF m 32 #[.val (.int (1 : Int32)), .val (.ref a2)] [(.int c0), (.int (0 : Int32)), (.ref b2), (.ref b2), (.ref b1), (.ref b1)])) (fun t k => X2.caload hx (j := (0 : Int32)) (v := (.int c0)) (by rw [e2]; exact Ar3.1) (State.isArrayOf_alike hZ.alike Ar3.2.1) Ar3.2.2 hin3 hat3 (g := (mkF m 31 #[.val (.int (1 : Int32)), .val (.ref a2)] [(.int (0 : Int32)), (.ref a2), (.int (0 : Int32)), (.ref b2), (.ref b2), (.ref b1), (.ref b1)])) rfl rfl (hb hby d7_31) _ k) ?_
  obtain ⟨cl4, Ar4, q4, S4, M4, H4, G4⟩ := V_b2
  have hin4 : ¬ ((0 : Int32) < 0 ∨ cl4.slots.size ≤ ((0 : Int32)).toNatClampNeg) := inb_of S4 ⟨by decide, by decide⟩
  obtain ⟨T4, h4, X4, e4, W4, st4⟩ := stC X2 hx hZ e2 Ar4 (j := (0 : Int32)) hin4 (g := (mkF m 32 #[.val (.int (1 : Int32)), .val (.ref a2)] [(.int c0), (.int (0 : Int32)), (.ref b2), (.ref b2), (.ref b1), (.ref b1)])) rfl rfl (hb hby d7_32)
  have V_b2 : Arv Z h4 b2 k2 .char (1 : Int32) [(.int c0)] (.int (0 : Int32)) := by have q := Arv.set Ar4 q4 S4 M4 H4 G4 (fits_nar_char _) W4 0 rfl (Nat.le_of_ble_eq_true rfl); rw [own_nc hC0] at q; exact q
  replace V_a2 := V_a2.other W4 ne_a2_b2
  replace S_CS := S_CS.wr W4
  replace E_b1 := E_b1.wr W4
  replace F_coder_b1 := F_coder_b1.other W4 (Or.inl ne_b1_b2)
  replace F_value_b1 := F_value_b1.other W4 (Or.inl ne_b1_b2)
  replace EX_b2 := EX_b2.wr W4
  replace Zz := Nat.le_trans Zz (Keep.of_wr W4).1
  replace Kp := Kp.wr W4 (Or.inr sz_b2)
  have N4 := Fr.snoc X4 N0 g_b2
  refine own_step (T' := T4) (f' := (mkF m 33 #[.val (.int (1 : Int32)), .val (.ref a2)] [(.ref b2), (.ref b1), (.ref b1)])) (fun t k => st4 t k) ?_
  obtain ⟨_, _, ⟨T5, L5, k5, n5⟩, -, X5, ⟨Lc5, hQ5, l5, y5, z5⟩, st5⟩ := X4.specialBack hx (y := (⟨"java/lang/String", "<init>", "([C)V"⟩ : MethodName)) rfl hown (mvT hZ (hw _ (List.mem_of_getElem? (i := 43) rfl))) (mvT hZ (hw _ (List.mem_of_getElem? (i := 44) rfl))) (mvT hZ (hw _ (List.mem_of_getElem? (i := 45) rfl))) (by decide) (backOf (W := 1) (rm8_1 l Z a0 hw [] b1 b2 h4 n0 Zz E_b1 F_value_b1 F_coder_b1 g_b1 k2 c0 hC0 V_b2 cs S_CS hcs ne_b1_b2) hZ (hw _ (List.mem_of_getElem? (i := 45) rfl)) (hw _ (List.mem_of_getElem? (i := 42) rfl)) (by decide) (by decide)) (g := (mkF m 33 #[.val (.int (1 : Int32)), .val (.ref a2)] [(.ref b2), (.ref b1), (.ref b1)])) rfl (by rw [hml]; rfl) (Steps.refl _) (a := b1) (argsL := [(.ref b2)]) (rest := [(.ref b1)]) (lenOf pd_7_0 rfl) rfl (by show 2 * 0 + _ ≤ _; exact Nat.le_of_eq rfl) (hb hby d7_33) (fun _ _ => ⟨rfl, e4, (by decide : 2 + 1 ≤ _), (by decide : 5 + 1 ≤ _)⟩)
  dsimp only [Pt.U, Pt.locs, Pt.cells, Pt.slots] at X5 l5 y5 z5 st5 hQ5
  subst l5 y5 z5
  obtain ⟨rfl, N5q, K5, sb5, sk5, Os5⟩ := hQ5
  have N5 := Fr.app N4 N5q
  replace S_CS := own_sta_keep S_CS K5 (allS ⟨_, E_b1⟩ all0)
  replace V_a2 := V_a2.keep K5 (ninS ne_a2_b1 nin0)
  replace E_b1 := E_b1.keep K5
  replace V_b2 := V_b2.keep K5 (ninS (Ne.symm ne_b1_b2) nin0)
  replace EX_b2 := EX_b2.keep K5
  replace Zz := Nat.le_trans Zz K5.1
  replace Kp := Kp.trans K5 (allS (Or.inr sz_b1) all0)
  refine own_step (T' := T5) (f' := (mkF m 36 #[.val (.int (1 : Int32)), .val (.ref a2)] [(.ref b1)])) (fun t k => st5.trans k) ?_
  exact own_retO X5 hx hlk Bd.returns rfl (Or.inr (Or.inr (Or.inr (Or.inr ⟨rfl, rfl, rfl⟩)))) (hb hby d7_36) (by decide) (by decide) ⟨b1, sb5, sk5, rfl, N5, Kp, Os5⟩

theorem ef_rm14_2 (m : MethodId) (x0 : Addr) : entryFrame m #[(.ref x0)] 1 = mkF m 0 #[.val (.ref x0)] [] := by first | (simp [entryFrame, mkF, argsToLocals, Value.category]; done) | rfl
set_option maxRecDepth 65536 in
set_option maxHeartbeats 40000000 in
theorem rm14_2 (l : Launch) (Z : State) (a0 : Array Value) (hw : ∀ d ∈ tables_1, d.before a0 Z = true) (ws : List Jvm.Cond) (a1 : Addr) (h0 : Heap) (n0 : Nat) (Z0 : n0 ≤ h0.size) (b : Addr) (kb : ClassId) (y0 y1 : Int32) (O : OwnStr Z h0 a1 b kb 2 [(.int y0), (.int y1)]) (cs : Int32) (S_CS : Sta Z h0 "java/lang/String" "COMPACT_STRINGS" "Z" (.int cs)) (hcs : ¬ cs = (0 : Int32)) :
    MetFree l (⟨"java/lang/String", "length", "()I"⟩ : MethodName) (head1 (Jvm.Cond.code (⟨"java/lang/String", "length", "()I"⟩ : MethodName) jdk_42_method_54_code 1 (some .int) :: ws) ({ frames := 1, cells := 0, slots := 0, locals := 13 } : Room)) (fun a U => a = #[(.ref a1)] ∧ Z.Warmed39 U.vm ∧ U.heap = h0) (fun _ _ _ _ _ => True) (fun _ U o U' => ∃ v L, o = .returned v ∧ QI 2 h0 n0 v U'.heap L ∧ FrameEnd U o U' L ({ frames := 1, cells := 0, slots := 0, locals := 13 } : Room).cells ({ frames := 1, cells := 0, slots := 0, locals := 13 } : Room).slots) := by
  refine MetFree.of_bodySF (plainFor_of_name pn_14) hisR ?_
  intro p e s m args below meth c s₁ Bd hml0 hP hK
  obtain ⟨rfl, hZ, hh⟩ := hP
  have hx := Bd.exec
  have hby := Bd.bytes
  have hlk : meth.locks = false := BodyLoose.notSynchronized Bd
  have hml : c.maxLocals = 1 := hml0
  have hown : s.vm.findClass "java/lang/String" = some m.cls := findClass_of_methodNamed Bd.named
  have hnm := (name_of_methodNamed Bd.named Bd.method).1
  have X0 : Stand p l e ({ frames := 1, cells := 0, slots := 0, locals := 13 } : Room) s m #[(.ref a1)] below meth c s₁ [] 0 0 := Stand.of_body Bd
  have e0 : s₁.heap = h0 := by rw [← hh, Bd.state]; rfl
  have N0 := Fr.nil n0
  have Zz := Z0
  have Kp : Keep h0 h0 [] := Keep.refl _ _
  have V_b := O.2.2.2
  show OwnEnds p e below s (QI 2 h0 n0) ({ frames := 1, cells := 0, slots := 0, locals := 13 } : Room).cells ({ frames := 1, cells := 0, slots := 0, locals := 13 } : Room).slots s₁ (entryFrame m #[(.ref a1)] 1)
  refine own_step (T' := s₁) (f' := (mkF m 0 #[.val (.ref a1)] [])) (fun t k => castTop (ef_rm14_2 m a1) k) ?_
  refine own_step (T' := s₁) (f' := (mkF m 1 #[.val (.ref a1)] [(.ref a1)])) (fun t k => XS.aloadN X0.here hx rfl (hb hby d14_0) rfl rfl k) ?_
  obtain ⟨T1, X1, e1, st1⟩ := getF X0 hx hZ hown (host := "") (Or.inl (hw _ (List.mem_of_getElem? (i := 64) rfl))) Via.refl e0 O.2.2.1 (g := (mkF m 1 #[.val (.ref a1)] [(.ref a1)])) rfl rfl (hb hby d14_1)
  refine own_step (T' := T1) (f' := (mkF m 4 #[.val (.ref a1)] [(.ref b)])) (fun t k => st1 t k) ?_
  obtain ⟨cl2, Ar2, q2, S2, M2, H2, G2⟩ := id V_b
  refine own_step (T' := T1) (f' := (mkF m 5 #[.val (.ref a1)] [(.int (2 : Int32))])) (fun t k => X1.arraylength hx (by rw [e1]; exact Ar2.1) (State.isArrayOf_alike hZ.alike Ar2.2.1) (g := (mkF m 4 #[.val (.ref a1)] [(.ref b)])) rfl rfl (hb hby d14_4) _ (by rw [len_of S2 M2]; exact k)) ?_
  refine own_step (T' := T1) (f' := (mkF m 6 #[.val (.ref a1)] [(.ref a1), (.int (2 : Int32))])) (fun t k => XS.aloadN X1.here hx rfl (hb hby d14_5) rfl rfl k) ?_
  obtain ⟨cq3, kq3, q3a, q3b, q3c⟩ := isOf hZ e1 O.1
  obtain ⟨_, _, ⟨T3, L3, k3, n3⟩, -, X3, ⟨Lc3, hQ3, l3, y3, z3⟩, st3⟩ := X1.virtualBack hx (y := (⟨"java/lang/String", "coder", "()B"⟩ : MethodName)) (z := (⟨"java/lang/String", "coder", "()B"⟩ : MethodName)) hown (mvT hZ (hw _ (List.mem_of_getElem? (i := 76) rfl))) (mvT hZ (hw _ (List.mem_of_getElem? (i := 77) rfl))) (notFace_of_selects (args := #[]) (mvT hZ (hw _ (List.mem_of_getElem? (i := 79) rfl)))) (mvT hZ (hw _ (List.mem_of_getElem? (i := 79) rfl))) (mvT hZ (hw _ (List.mem_of_getElem? (i := 78) rfl))) (by decide) (backOf (W := 1) (rm15 l Z a0 hw [] a1 h0 n0 Zz O.2.1 cs S_CS hcs) hZ (hw _ (List.mem_of_getElem? (i := 80) rfl)) (hw _ (List.mem_of_getElem? (i := 42) rfl)) (by decide) (by decide)) q3a q3c (g := (mkF m 6 #[.val (.ref a1)] [(.ref a1), (.int (2 : Int32))])) rfl (by rw [hml]; rfl) (Steps.refl _) (argsL := []) (rest := [(.int (2 : Int32))]) (lenOf pd_14_0 rfl) rfl (by show 2 * 0 + _ ≤ _; exact Nat.le_of_eq rfl) (hb hby d14_6) (fun _ _ => ⟨rfl, e1, (by decide : 0 + 0 ≤ _), (by decide : 0 + 0 ≤ _)⟩)
  dsimp only [Pt.U, Pt.locs, Pt.cells, Pt.slots] at X3 l3 y3 z3 st3 hQ3
  subst l3 y3 z3
  obtain ⟨rfl, N3q, E3⟩ := hQ3
  have N3 := Fr.app N0 N3q
  refine own_step (T' := T3) (f' := (mkF m 9 #[.val (.ref a1)] [(.int (0 : Int32)), (.int (2 : Int32))])) (fun t k => st3.trans k) ?_
  refine own_step (T' := T3) (f' := (mkF m 10 #[.val (.ref a1)] [(.int ((2 : Int32) >>> ((0 : Int32) &&& 31)))])) (fun t k => XS.ishr X3.here hx rfl (hb hby d14_9) rfl k) ?_
  exact own_retO X3 hx hlk Bd.returns rfl (Or.inl ⟨rfl, Or.inl rfl, _, rfl⟩) (hb hby d14_10) (by decide) (by decide) ⟨rfl, N3, E3⟩

theorem ef_rm20_2_0 (m : MethodId) (x0 : Int32) (x1 : Int32) (x2 : Value) (hv : x2.category = 1) : entryFrame m #[(.int x0), (.int x1), x2] 3 = mkF m 0 #[.val (.int x0), .val (.int x1), .val x2] [] := by cases x2 <;> first | (simp [entryFrame, mkF, argsToLocals, Value.category]; done) | (simp [Value.category] at hv; done)
set_option maxRecDepth 65536 in
set_option maxHeartbeats 40000000 in
theorem rm20_2_0 (l : Launch) (Z : State) (a0 : Array Value) (hw : ∀ d ∈ tables_1, d.before a0 Z = true) (ws : List Jvm.Cond) (fm : Value) (h0 : Heap) (n0 : Nat) (Z0 : n0 ≤ h0.size) (hfc : fm.category = 1) :
    MetFree l (⟨"jdk/internal/util/Preconditions", "checkIndex", "(IILjava/util/function/BiFunction;)I"⟩ : MethodName) (head1 (Jvm.Cond.code (⟨"jdk/internal/util/Preconditions", "checkIndex", "(IILjava/util/function/BiFunction;)I"⟩ : MethodName) jdk_41_method_11_code 3 (some .int) :: ws) ({ frames := 0, cells := 0, slots := 0, locals := 0 } : Room)) (fun a U => a = #[(.int (0 : Int32)), (.int (2 : Int32)), fm] ∧ Z.Warmed39 U.vm ∧ U.heap = h0) (fun _ _ _ _ _ => True) (fun _ U o U' => ∃ v L, o = .returned v ∧ QI 0 h0 n0 v U'.heap L ∧ FrameEnd U o U' L ({ frames := 0, cells := 0, slots := 0, locals := 0 } : Room).cells ({ frames := 0, cells := 0, slots := 0, locals := 0 } : Room).slots) := by
  refine MetFree.of_bodySF (plainFor_of_name pn_20) hisR ?_
  intro p e s m args below meth c s₁ Bd hml0 hP hK
  obtain ⟨rfl, hZ, hh⟩ := hP
  have hx := Bd.exec
  have hby := Bd.bytes
  have hlk : meth.locks = false := BodyLoose.notSynchronized Bd
  have hml : c.maxLocals = 3 := hml0
  have hown : s.vm.findClass "jdk/internal/util/Preconditions" = some m.cls := findClass_of_methodNamed Bd.named
  have hnm := (name_of_methodNamed Bd.named Bd.method).1
  have X0 : Stand p l e ({ frames := 0, cells := 0, slots := 0, locals := 0 } : Room) s m #[(.int (0 : Int32)), (.int (2 : Int32)), fm] below meth c s₁ [] 0 0 := Stand.of_body Bd
  have e0 : s₁.heap = h0 := by rw [← hh, Bd.state]; rfl
  have N0 := Fr.nil n0
  show OwnEnds p e below s (QI 0 h0 n0) ({ frames := 0, cells := 0, slots := 0, locals := 0 } : Room).cells ({ frames := 0, cells := 0, slots := 0, locals := 0 } : Room).slots s₁ (entryFrame m #[(.int (0 : Int32)), (.int (2 : Int32)), fm] 3)
  refine own_step (T' := s₁) (f' := (mkF m 0 #[.val (.int (0 : Int32)), .val (.int (2 : Int32)), .val fm] [])) (fun t k => castTop (ef_rm20_2_0 m (0 : Int32) (2 : Int32) fm hfc) k) ?_
  refine own_step (T' := s₁) (f' := (mkF m 1 #[.val (.int (0 : Int32)), .val (.int (2 : Int32)), .val fm] [(.int (0 : Int32))])) (fun t k => XS.iloadN X0.here hx rfl (hb hby d20_0) rfl k) ?_
  refine own_step (T' := s₁) (f' := (mkF m 4 #[.val (.int (0 : Int32)), .val (.int (2 : Int32)), .val fm] [])) (fun t k => XS.ifNo X0.here hx rfl (hb hby d20_1) rfl ((if0 _ _).trans (flt (by decide : ¬ ((0 : Int32) < (0 : Int32)))).1) k) ?_
  refine own_step (T' := s₁) (f' := (mkF m 5 #[.val (.int (0 : Int32)), .val (.int (2 : Int32)), .val fm] [(.int (0 : Int32))])) (fun t k => XS.iloadN X0.here hx rfl (hb hby d20_4) rfl k) ?_
  refine own_step (T' := s₁) (f' := (mkF m 6 #[.val (.int (0 : Int32)), .val (.int (2 : Int32)), .val fm] [(.int (2 : Int32)), (.int (0 : Int32))])) (fun t k => XS.iloadN X0.here hx rfl (hb hby d20_5) rfl k) ?_
  refine own_step (T' := s₁) (f' := (mkF m 16 #[.val (.int (0 : Int32)), .val (.int (2 : Int32)), .val fm] [])) (fun t k => XS.icmpYes X0.here hx rfl (pc0 := 6) (pc' := 16) rfl (hb hby d20_6) rfl (tlt (by decide : (0 : Int32) < (2 : Int32))).1 (by decide) (by decide) k) ?_
  refine own_step (T' := s₁) (f' := (mkF m 17 #[.val (.int (0 : Int32)), .val (.int (2 : Int32)), .val fm] [(.int (0 : Int32))])) (fun t k => XS.iloadN X0.here hx rfl (hb hby d20_16) rfl k) ?_
  exact own_retO X0 hx hlk Bd.returns rfl (Or.inl ⟨rfl, Or.inl rfl, _, rfl⟩) (hb hby d20_17) (by decide) (by decide) ⟨rfl, N0, e0⟩

theorem ef_rm19_2_0 (m : MethodId) (x0 : Int32) (x1 : Int32) : entryFrame m #[(.int x0), (.int x1)] 2 = mkF m 0 #[.val (.int x0), .val (.int x1)] [] := by first | (simp [entryFrame, mkF, argsToLocals, Value.category]; done) | rfl
set_option maxRecDepth 65536 in
set_option maxHeartbeats 40000000 in
theorem rm19_2_0 (l : Launch) (Z : State) (a0 : Array Value) (hw : ∀ d ∈ tables_1, d.before a0 Z = true) (ws : List Jvm.Cond)  (h0 : Heap) (n0 : Nat) (Z0 : n0 ≤ h0.size) (fm : Value) (S_FM : Sta Z h0 "jdk/internal/util/Preconditions" "SIOOBE_FORMATTER" "Ljava/util/function/BiFunction;" fm) (hfc : fm.category = 1) (hfr : fm.isRef = true) :
    MetFree l (⟨"java/lang/String", "checkIndex", "(II)V"⟩ : MethodName) (head1 (Jvm.Cond.code (⟨"java/lang/String", "checkIndex", "(II)V"⟩ : MethodName) jdk_42_method_155_code 2 none :: ws) ({ frames := 1, cells := 0, slots := 0, locals := 14 } : Room)) (fun a U => a = #[(.int (0 : Int32)), (.int (2 : Int32))] ∧ Z.Warmed39 U.vm ∧ U.heap = h0) (fun _ _ _ _ _ => True) (fun _ U o U' => ∃ v L, o = .returned v ∧ QV h0 n0 v U'.heap L ∧ FrameEnd U o U' L ({ frames := 1, cells := 0, slots := 0, locals := 14 } : Room).cells ({ frames := 1, cells := 0, slots := 0, locals := 14 } : Room).slots) := by
  refine MetFree.of_bodySF (plainFor_of_name pn_19) hisR ?_
  intro p e s m args below meth c s₁ Bd hml0 hP hK
  obtain ⟨rfl, hZ, hh⟩ := hP
  have hx := Bd.exec
  have hby := Bd.bytes
  have hlk : meth.locks = false := BodyLoose.notSynchronized Bd
  have hml : c.maxLocals = 2 := hml0
  have hown : s.vm.findClass "java/lang/String" = some m.cls := findClass_of_methodNamed Bd.named
  have hnm := (name_of_methodNamed Bd.named Bd.method).1
  have X0 : Stand p l e ({ frames := 1, cells := 0, slots := 0, locals := 14 } : Room) s m #[(.int (0 : Int32)), (.int (2 : Int32))] below meth c s₁ [] 0 0 := Stand.of_body Bd
  have e0 : s₁.heap = h0 := by rw [← hh, Bd.state]; rfl
  have N0 := Fr.nil n0
  show OwnEnds p e below s (QV h0 n0) ({ frames := 1, cells := 0, slots := 0, locals := 14 } : Room).cells ({ frames := 1, cells := 0, slots := 0, locals := 14 } : Room).slots s₁ (entryFrame m #[(.int (0 : Int32)), (.int (2 : Int32))] 2)
  refine own_step (T' := s₁) (f' := (mkF m 0 #[.val (.int (0 : Int32)), .val (.int (2 : Int32))] [])) (fun t k => castTop (ef_rm19_2_0 m (0 : Int32) (2 : Int32)) k) ?_
  refine own_step (T' := s₁) (f' := (mkF m 1 #[.val (.int (0 : Int32)), .val (.int (2 : Int32))] [(.int (0 : Int32))])) (fun t k => XS.iloadN X0.here hx rfl (hb hby d19_0) rfl k) ?_
  refine own_step (T' := s₁) (f' := (mkF m 2 #[.val (.int (0 : Int32)), .val (.int (2 : Int32))] [(.int (2 : Int32)), (.int (0 : Int32))])) (fun t k => XS.iloadN X0.here hx rfl (hb hby d19_1) rfl k) ?_
  obtain ⟨T1, X1, e1, st1⟩ := getS2 X0 hx hZ hown (host := "") (Or.inl (hw _ (List.mem_of_getElem? (i := 98) rfl))) Via.refl e0 S_FM (g := (mkF m 2 #[.val (.int (0 : Int32)), .val (.int (2 : Int32))] [(.int (2 : Int32)), (.int (0 : Int32))])) rfl (hb hby d19_2)
  refine own_step (T' := T1) (f' := (mkF m 5 #[.val (.int (0 : Int32)), .val (.int (2 : Int32))] [fm, (.int (2 : Int32)), (.int (0 : Int32))])) (fun t k => st1 t k) ?_
  obtain ⟨_, _, ⟨T2, L2, k2, n2⟩, -, X2, ⟨Lc2, hQ2, l2, y2, z2⟩, st2⟩ := Jvm.LawKit.callS X1 hx (y := (⟨"jdk/internal/util/Preconditions", "checkIndex", "(IILjava/util/function/BiFunction;)I"⟩ : MethodName)) hown (mvT hZ (hw _ (List.mem_of_getElem? (i := 100) rfl))) (mvT hZ (hw _ (List.mem_of_getElem? (i := 101) rfl))) (mvT hZ (hw _ (List.mem_of_getElem? (i := 99) rfl))) (mvT hZ (hw _ (List.mem_of_getElem? (i := 102) rfl))) (by decide) (backOf (W := 0) (rm20_2_0 l Z a0 hw [] fm h0 n0 Z0 hfc) hZ (hw _ (List.mem_of_getElem? (i := 102) rfl)) (hw _ (List.mem_of_getElem? (i := 99) rfl)) (by decide) (by decide)) (g := (mkF m 5 #[.val (.int (0 : Int32)), .val (.int (2 : Int32))] [fm, (.int (2 : Int32)), (.int (0 : Int32))])) rfl (by rw [hml]; rfl) (argsL := [(.int (0 : Int32)), (.int (2 : Int32)), fm]) (rest := []) (lenOf pd_19_0 rfl) rfl (by show 2 * 0 + _ ≤ _; exact Nat.le_of_eq rfl) (hb hby d19_5) (fun _ _ => ⟨rfl, e1, (by decide : 0 + 0 ≤ _), (by decide : 0 + 0 ≤ _)⟩)
  dsimp only [Pt.U, Pt.locs, Pt.cells, Pt.slots] at X2 l2 y2 z2 st2 hQ2
  subst l2 y2 z2
  obtain ⟨rfl, N2q, E2⟩ := hQ2
  have N2 := Fr.app N0 N2q
  refine own_step (T' := T2) (f' := (mkF m 8 #[.val (.int (0 : Int32)), .val (.int (2 : Int32))] [(.int (0 : Int32))])) (fun t k => st2 t k) ?_
  refine own_step (T' := T2) (f' := (mkF m 9 #[.val (.int (0 : Int32)), .val (.int (2 : Int32))] [])) (fun t k => XS.pop X2.here hx rfl (hb hby d19_8) rfl rfl k) ?_
  exact own_retV X2 hx hlk Bd.returns (hb hby d19_9) (by decide) (by decide) ⟨rfl, N2, E2⟩

theorem ef_rm18_2_0 (m : MethodId) (x0 : Addr) (x1 : Int32) : entryFrame m #[(.ref x0), (.int x1)] 2 = mkF m 0 #[.val (.ref x0), .val (.int x1)] [] := by first | (simp [entryFrame, mkF, argsToLocals, Value.category]; done) | rfl
set_option maxRecDepth 65536 in
set_option maxHeartbeats 40000000 in
theorem rm18_2_0 (l : Launch) (Z : State) (a0 : Array Value) (hw : ∀ d ∈ tables_1, d.before a0 Z = true) (ws : List Jvm.Cond) (a1 : Addr) (h0 : Heap) (n0 : Nat) (Z0 : n0 ≤ h0.size) (kb : ClassId) (y0 y1 : Int32) (V_a1 : Arv Z h0 a1 kb .byte (2 : Int32) [(.int y0), (.int y1)] (.int (0 : Int32))) (fm : Value) (S_FM : Sta Z h0 "jdk/internal/util/Preconditions" "SIOOBE_FORMATTER" "Ljava/util/function/BiFunction;" fm) (hfc : fm.category = 1) (hfr : fm.isRef = true) :
    MetFree l (⟨"java/lang/StringLatin1", "charAt", "([BI)C"⟩ : MethodName) (head1 (Jvm.Cond.code (⟨"java/lang/StringLatin1", "charAt", "([BI)C"⟩ : MethodName) jdk_43_method_2_code 2 (some .char) :: ws) ({ frames := 2, cells := 0, slots := 0, locals := 28 } : Room)) (fun a U => a = #[(.ref a1), (.int (0 : Int32))] ∧ Z.Warmed39 U.vm ∧ U.heap = h0) (fun _ _ _ _ _ => True) (fun _ U o U' => ∃ v L, o = .returned v ∧ QI (own_ch y0) h0 n0 v U'.heap L ∧ FrameEnd U o U' L ({ frames := 2, cells := 0, slots := 0, locals := 28 } : Room).cells ({ frames := 2, cells := 0, slots := 0, locals := 28 } : Room).slots) := by
  refine MetFree.of_bodySF (plainFor_of_name pn_18) hisR ?_
  intro p e s m args below meth c s₁ Bd hml0 hP hK
  obtain ⟨rfl, hZ, hh⟩ := hP
  have hx := Bd.exec
  have hby := Bd.bytes
  have hlk : meth.locks = false := BodyLoose.notSynchronized Bd
  have hml : c.maxLocals = 2 := hml0
  have hown : s.vm.findClass "java/lang/StringLatin1" = some m.cls := findClass_of_methodNamed Bd.named
  have hnm := (name_of_methodNamed Bd.named Bd.method).1
  have X0 : Stand p l e ({ frames := 2, cells := 0, slots := 0, locals := 28 } : Room) s m #[(.ref a1), (.int (0 : Int32))] below meth c s₁ [] 0 0 := Stand.of_body Bd
  have e0 : s₁.heap = h0 := by rw [← hh, Bd.state]; rfl
  have N0 := Fr.nil n0
  have Zz := Z0
  have Kp : Keep h0 h0 [] := Keep.refl _ _
  show OwnEnds p e below s (QI (own_ch y0) h0 n0) ({ frames := 2, cells := 0, slots := 0, locals := 28 } : Room).cells ({ frames := 2, cells := 0, slots := 0, locals := 28 } : Room).slots s₁ (entryFrame m #[(.ref a1), (.int (0 : Int32))] 2)
  refine own_step (T' := s₁) (f' := (mkF m 0 #[.val (.ref a1), .val (.int (0 : Int32))] [])) (fun t k => castTop (ef_rm18_2_0 m a1 (0 : Int32)) k) ?_
  refine own_step (T' := s₁) (f' := (mkF m 1 #[.val (.ref a1), .val (.int (0 : Int32))] [(.int (0 : Int32))])) (fun t k => XS.iloadN X0.here hx rfl (hb hby d18_0) rfl k) ?_
  refine own_step (T' := s₁) (f' := (mkF m 2 #[.val (.ref a1), .val (.int (0 : Int32))] [(.ref a1), (.int (0 : Int32))])) (fun t k => XS.aloadN X0.here hx rfl (hb hby d18_1) rfl rfl k) ?_
  obtain ⟨cl1, Ar1, q1, S1, M1, H1, G1⟩ := id V_a1
  refine own_step (T' := s₁) (f' := (mkF m 3 #[.val (.ref a1), .val (.int (0 : Int32))] [(.int (2 : Int32)), (.int (0 : Int32))])) (fun t k => X0.arraylength hx (by rw [e0]; exact Ar1.1) (State.isArrayOf_alike hZ.alike Ar1.2.1) (g := (mkF m 2 #[.val (.ref a1), .val (.int (0 : Int32))] [(.ref a1), (.int (0 : Int32))])) rfl rfl (hb hby d18_2) _ (by rw [len_of S1 M1]; exact k)) ?_
  obtain ⟨_, _, ⟨T2, L2, k2, n2⟩, -, X2, ⟨Lc2, hQ2, l2, y2, z2⟩, st2⟩ := Jvm.LawKit.callS X0 hx (y := (⟨"java/lang/String", "checkIndex", "(II)V"⟩ : MethodName)) hown (mvT hZ (hw _ (List.mem_of_getElem? (i := 95) rfl))) (mvT hZ (hw _ (List.mem_of_getElem? (i := 96) rfl))) (mvT hZ (hw _ (List.mem_of_getElem? (i := 42) rfl))) (mvT hZ (hw _ (List.mem_of_getElem? (i := 97) rfl))) (by decide) (backOf (W := 0) (rm19_2_0 l Z a0 hw [] h0 n0 Zz fm S_FM hfc hfr) hZ (hw _ (List.mem_of_getElem? (i := 97) rfl)) (hw _ (List.mem_of_getElem? (i := 42) rfl)) (by decide) (by decide)) (g := (mkF m 3 #[.val (.ref a1), .val (.int (0 : Int32))] [(.int (2 : Int32)), (.int (0 : Int32))])) rfl (by rw [hml]; rfl) (argsL := [(.int (0 : Int32)), (.int (2 : Int32))]) (rest := []) (lenOf pd_18_0 rfl) rfl (by show 2 * 0 + _ ≤ _; exact Nat.le_of_eq rfl) (hb hby d18_3) (fun _ _ => ⟨rfl, e0, (by decide : 0 + 0 ≤ _), (by decide : 0 + 0 ≤ _)⟩)
  dsimp only [Pt.U, Pt.locs, Pt.cells, Pt.slots] at X2 l2 y2 z2 st2 hQ2
  subst l2 y2 z2
  obtain ⟨rfl, N2q, E2⟩ := hQ2
  have N2 := Fr.app N0 N2q
  refine own_step (T' := T2) (f' := (mkF m 6 #[.val (.ref a1), .val (.int (0 : Int32))] [])) (fun t k => st2 t k) ?_
  refine own_step (T' := T2) (f' := (mkF m 7 #[.val (.ref a1), .val (.int (0 : Int32))] [(.ref a1)])) (fun t k => XS.aloadN X2.here hx rfl (hb hby d18_6) rfl rfl k) ?_
  refine own_step (T' := T2) (f' := (mkF m 8 #[.val (.ref a1), .val (.int (0 : Int32))] [(.int (0 : Int32)), (.ref a1)])) (fun t k => XS.iloadN X2.here hx rfl (hb hby d18_7) rfl k) ?_
  obtain ⟨cl3, Ar3, q3, S3, M3, H3, G3⟩ := id V_a1
  have hin3 : ¬ ((0 : Int32) < 0 ∨ cl3.slots.size ≤ ((0 : Int32)).toNatClampNeg) := inb_of S3 ⟨by decide, by decide⟩
  have hat3 : cl3.slots[((0 : Int32)).toNatClampNeg]? = some (.int y0) := own_at hin3 H3 0 rfl rfl
  refine own_step (T' := T2) (f' := (mkF m 9 #[.val (.ref a1), .val (.int (0 : Int32))] [(.int y0)])) (fun t k => X2.baloadBytes hx (j := (0 : Int32)) (v := (.int y0)) (by rw [E2]; exact Ar3.1) (State.isArrayOf_alike hZ.alike Ar3.2.1) Ar3.2.2 hin3 hat3 (g := (mkF m 8 #[.val (.ref a1), .val (.int (0 : Int32))] [(.int (0 : Int32)), (.ref a1)])) rfl rfl (hb hby d18_8) _ k) ?_
  refine own_step (T' := T2) (f' := (mkF m 12 #[.val (.ref a1), .val (.int (0 : Int32))] [(.int (255 : Int32)), (.int y0)])) (fun t k => XS.sipush X2.here hx rfl (hb hby d18_9) k) ?_
  refine own_step (T' := T2) (f' := (mkF m 13 #[.val (.ref a1), .val (.int (0 : Int32))] [(.int (y0 &&& (255 : Int32)))])) (fun t k => XS.iand X2.here hx rfl (hb hby d18_12) rfl k) ?_
  refine own_step (T' := T2) (f' := (mkF m 14 #[.val (.ref a1), .val (.int (0 : Int32))] [(.int ((y0 &&& (255 : Int32)).toUInt32.toUInt16.toUInt32.toInt32))])) (fun t k => XS.i2c X2.here hx rfl (hb hby d18_13) rfl k) ?_
  exact own_retN X2 hx hlk (t := .char) Bd.returns (by simp) (hb hby d18_14) (by decide) (by decide) ⟨rfl, N2, E2⟩

theorem ef_rm16_2_0 (m : MethodId) (x0 : Addr) (x1 : Int32) : entryFrame m #[(.ref x0), (.int x1)] 2 = mkF m 0 #[.val (.ref x0), .val (.int x1)] [] := by first | (simp [entryFrame, mkF, argsToLocals, Value.category]; done) | rfl
set_option maxRecDepth 65536 in
set_option maxHeartbeats 40000000 in
theorem rm16_2_0 (l : Launch) (Z : State) (a0 : Array Value) (hw : ∀ d ∈ tables_1, d.before a0 Z = true) (ws : List Jvm.Cond) (a1 : Addr) (h0 : Heap) (n0 : Nat) (Z0 : n0 ≤ h0.size) (b : Addr) (kb : ClassId) (y0 y1 : Int32) (O : OwnStr Z h0 a1 b kb 2 [(.int y0), (.int y1)]) (cs : Int32) (S_CS : Sta Z h0 "java/lang/String" "COMPACT_STRINGS" "Z" (.int cs)) (hcs : ¬ cs = (0 : Int32)) (fm : Value) (S_FM : Sta Z h0 "jdk/internal/util/Preconditions" "SIOOBE_FORMATTER" "Ljava/util/function/BiFunction;" fm) (hfc : fm.category = 1) (hfr : fm.isRef = true) :
    MetFree l (⟨"java/lang/String", "charAt", "(I)C"⟩ : MethodName) (head1 (Jvm.Cond.code (⟨"java/lang/String", "charAt", "(I)C"⟩ : MethodName) jdk_42_method_56_code 2 (some .char) :: ws) ({ frames := 3, cells := 0, slots := 0, locals := 42 } : Room)) (fun a U => a = #[(.ref a1), (.int (0 : Int32))] ∧ Z.Warmed39 U.vm ∧ U.heap = h0) (fun _ _ _ _ _ => True) (fun _ U o U' => ∃ v L, o = .returned v ∧ QI (own_ch y0) h0 n0 v U'.heap L ∧ FrameEnd U o U' L ({ frames := 3, cells := 0, slots := 0, locals := 42 } : Room).cells ({ frames := 3, cells := 0, slots := 0, locals := 42 } : Room).slots) := by
  refine MetFree.of_bodySF (plainFor_of_name pn_16) hisR ?_
  intro p e s m args below meth c s₁ Bd hml0 hP hK
  obtain ⟨rfl, hZ, hh⟩ := hP
  have hx := Bd.exec
  have hby := Bd.bytes
  have hlk : meth.locks = false := BodyLoose.notSynchronized Bd
  have hml : c.maxLocals = 2 := hml0
  have hown : s.vm.findClass "java/lang/String" = some m.cls := findClass_of_methodNamed Bd.named
  have hnm := (name_of_methodNamed Bd.named Bd.method).1
  have X0 : Stand p l e ({ frames := 3, cells := 0, slots := 0, locals := 42 } : Room) s m #[(.ref a1), (.int (0 : Int32))] below meth c s₁ [] 0 0 := Stand.of_body Bd
  have e0 : s₁.heap = h0 := by rw [← hh, Bd.state]; rfl
  have N0 := Fr.nil n0
  show OwnEnds p e below s (QI (own_ch y0) h0 n0) ({ frames := 3, cells := 0, slots := 0, locals := 42 } : Room).cells ({ frames := 3, cells := 0, slots := 0, locals := 42 } : Room).slots s₁ (entryFrame m #[(.ref a1), (.int (0 : Int32))] 2)
  refine own_step (T' := s₁) (f' := (mkF m 0 #[.val (.ref a1), .val (.int (0 : Int32))] [])) (fun t k => castTop (ef_rm16_2_0 m a1 (0 : Int32)) k) ?_
  refine own_step (T' := s₁) (f' := (mkF m 1 #[.val (.ref a1), .val (.int (0 : Int32))] [(.ref a1)])) (fun t k => XS.aloadN X0.here hx rfl (hb hby d16_0) rfl rfl k) ?_
  obtain ⟨cq1, kq1, q1a, q1b, q1c⟩ := isOf hZ e0 O.1
  obtain ⟨_, _, ⟨T1, L1, k1, n1⟩, -, X1, ⟨Lc1, hQ1, l1, y1, z1⟩, st1⟩ := X0.virtualBack hx (y := (⟨"java/lang/String", "isLatin1", "()Z"⟩ : MethodName)) (z := (⟨"java/lang/String", "isLatin1", "()Z"⟩ : MethodName)) hown (mvT hZ (hw _ (List.mem_of_getElem? (i := 86) rfl))) (mvT hZ (hw _ (List.mem_of_getElem? (i := 87) rfl))) (notFace_of_selects (args := #[]) (mvT hZ (hw _ (List.mem_of_getElem? (i := 89) rfl)))) (mvT hZ (hw _ (List.mem_of_getElem? (i := 89) rfl))) (mvT hZ (hw _ (List.mem_of_getElem? (i := 88) rfl))) (by decide) (backOf (W := 0) (rm17 l Z a0 hw [] a1 h0 n0 Z0 O.2.1 cs S_CS hcs) hZ (hw _ (List.mem_of_getElem? (i := 90) rfl)) (hw _ (List.mem_of_getElem? (i := 42) rfl)) (by decide) (by decide)) q1a q1c (g := (mkF m 1 #[.val (.ref a1), .val (.int (0 : Int32))] [(.ref a1)])) rfl (by rw [hml]; rfl) (Steps.refl _) (argsL := []) (rest := []) (lenOf pd_16_0 rfl) rfl (by show 2 * 0 + _ ≤ _; exact Nat.le_of_eq rfl) (hb hby d16_1) (fun _ _ => ⟨rfl, e0, (by decide : 0 + 0 ≤ _), (by decide : 0 + 0 ≤ _)⟩)
  dsimp only [Pt.U, Pt.locs, Pt.cells, Pt.slots] at X1 l1 y1 z1 st1 hQ1
  subst l1 y1 z1
  obtain ⟨rfl, N1q, E1⟩ := hQ1
  have N1 := Fr.app N0 N1q
  refine own_step (T' := T1) (f' := (mkF m 4 #[.val (.ref a1), .val (.int (0 : Int32))] [(.int (1 : Int32))])) (fun t k => st1.trans k) ?_
  refine own_step (T' := T1) (f' := (mkF m 7 #[.val (.ref a1), .val (.int (0 : Int32))] [])) (fun t k => XS.ifNo X1.here hx rfl (hb hby d16_4) rfl ((if0 _ _).trans (feq (by decide : ¬ ((1 : Int32) = (0 : Int32)))).1) k) ?_
  refine own_step (T' := T1) (f' := (mkF m 8 #[.val (.ref a1), .val (.int (0 : Int32))] [(.ref a1)])) (fun t k => XS.aloadN X1.here hx rfl (hb hby d16_7) rfl rfl k) ?_
  obtain ⟨T2, X2, e2, st2⟩ := getF X1 hx hZ hown (host := "") (Or.inl (hw _ (List.mem_of_getElem? (i := 64) rfl))) Via.refl E1 O.2.2.1 (g := (mkF m 8 #[.val (.ref a1), .val (.int (0 : Int32))] [(.ref a1)])) rfl rfl (hb hby d16_8)
  refine own_step (T' := T2) (f' := (mkF m 11 #[.val (.ref a1), .val (.int (0 : Int32))] [(.ref b)])) (fun t k => st2 t k) ?_
  refine own_step (T' := T2) (f' := (mkF m 12 #[.val (.ref a1), .val (.int (0 : Int32))] [(.int (0 : Int32)), (.ref b)])) (fun t k => XS.iloadN X2.here hx rfl (hb hby d16_11) rfl k) ?_
  obtain ⟨_, _, ⟨T3, L3, k3, n3⟩, -, X3, ⟨Lc3, hQ3, l3, y3, z3⟩, st3⟩ := Jvm.LawKit.callS X2 hx (y := (⟨"java/lang/StringLatin1", "charAt", "([BI)C"⟩ : MethodName)) hown (mvT hZ (hw _ (List.mem_of_getElem? (i := 91) rfl))) (mvT hZ (hw _ (List.mem_of_getElem? (i := 92) rfl))) (mvT hZ (hw _ (List.mem_of_getElem? (i := 93) rfl))) (mvT hZ (hw _ (List.mem_of_getElem? (i := 94) rfl))) (by decide) (backOf (W := 0) (rm18_2_0 l Z a0 hw [] b h0 n0 Z0 kb y0 y1 O.2.2.2 fm S_FM hfc hfr) hZ (hw _ (List.mem_of_getElem? (i := 94) rfl)) (hw _ (List.mem_of_getElem? (i := 93) rfl)) (by decide) (by decide)) (g := (mkF m 12 #[.val (.ref a1), .val (.int (0 : Int32))] [(.int (0 : Int32)), (.ref b)])) rfl (by rw [hml]; rfl) (argsL := [(.ref b), (.int (0 : Int32))]) (rest := []) (lenOf pd_16_1 rfl) rfl (by show 2 * 0 + _ ≤ _; exact Nat.le_of_eq rfl) (hb hby d16_12) (fun _ _ => ⟨rfl, e2, (by decide : 0 + 0 ≤ _), (by decide : 0 + 0 ≤ _)⟩)
  dsimp only [Pt.U, Pt.locs, Pt.cells, Pt.slots] at X3 l3 y3 z3 st3 hQ3
  subst l3 y3 z3
  obtain ⟨rfl, N3q, E3⟩ := hQ3
  have N3 := Fr.app N1 N3q
  refine own_step (T' := T3) (f' := (mkF m 15 #[.val (.ref a1), .val (.int (0 : Int32))] [(.int (own_ch y0))])) (fun t k => st3 t k) ?_
  exact own_retN X3 hx hlk (t := .char) Bd.returns (by simp) (hb hby d16_15) (by decide) (by decide) ⟨by rw [own_chn], N3, E3⟩

theorem ef_rm20_2_1 (m : MethodId) (x0 : Int32) (x1 : Int32) (x2 : Value) (hv : x2.category = 1) : entryFrame m #[(.int x0), (.int x1), x2] 3 = mkF m 0 #[.val (.int x0), .val (.int x1), .val x2] [] := by cases x2 <;> first | (simp [entryFrame, mkF, argsToLocals, Value.category]; done) | (simp [Value.category] at hv; done)
set_option maxRecDepth 65536 in
set_option maxHeartbeats 40000000 in
theorem rm20_2_1 (l : Launch) (Z : State) (a0 : Array Value) (hw : ∀ d ∈ tables_1, d.before a0 Z = true) (ws : List Jvm.Cond) (fm : Value) (h0 : Heap) (n0 : Nat) (Z0 : n0 ≤ h0.size) (hfc : fm.category = 1) :
    MetFree l (⟨"jdk/internal/util/Preconditions", "checkIndex", "(IILjava/util/function/BiFunction;)I"⟩ : MethodName) (head1 (Jvm.Cond.code (⟨"jdk/internal/util/Preconditions", "checkIndex", "(IILjava/util/function/BiFunction;)I"⟩ : MethodName) jdk_41_method_11_code 3 (some .int) :: ws) ({ frames := 0, cells := 0, slots := 0, locals := 0 } : Room)) (fun a U => a = #[(.int (1 : Int32)), (.int (2 : Int32)), fm] ∧ Z.Warmed39 U.vm ∧ U.heap = h0) (fun _ _ _ _ _ => True) (fun _ U o U' => ∃ v L, o = .returned v ∧ QI 1 h0 n0 v U'.heap L ∧ FrameEnd U o U' L ({ frames := 0, cells := 0, slots := 0, locals := 0 } : Room).cells ({ frames := 0, cells := 0, slots := 0, locals := 0 } : Room).slots) := by
  refine MetFree.of_bodySF (plainFor_of_name pn_20) hisR ?_
  intro p e s m args below meth c s₁ Bd hml0 hP hK
  obtain ⟨rfl, hZ, hh⟩ := hP
  have hx := Bd.exec
  have hby := Bd.bytes
  have hlk : meth.locks = false := BodyLoose.notSynchronized Bd
  have hml : c.maxLocals = 3 := hml0
  have hown : s.vm.findClass "jdk/internal/util/Preconditions" = some m.cls := findClass_of_methodNamed Bd.named
  have hnm := (name_of_methodNamed Bd.named Bd.method).1
  have X0 : Stand p l e ({ frames := 0, cells := 0, slots := 0, locals := 0 } : Room) s m #[(.int (1 : Int32)), (.int (2 : Int32)), fm] below meth c s₁ [] 0 0 := Stand.of_body Bd
  have e0 : s₁.heap = h0 := by rw [← hh, Bd.state]; rfl
  have N0 := Fr.nil n0
  show OwnEnds p e below s (QI 1 h0 n0) ({ frames := 0, cells := 0, slots := 0, locals := 0 } : Room).cells ({ frames := 0, cells := 0, slots := 0, locals := 0 } : Room).slots s₁ (entryFrame m #[(.int (1 : Int32)), (.int (2 : Int32)), fm] 3)
  refine own_step (T' := s₁) (f' := (mkF m 0 #[.val (.int (1 : Int32)), .val (.int (2 : Int32)), .val fm] [])) (fun t k => castTop (ef_rm20_2_1 m (1 : Int32) (2 : Int32) fm hfc) k) ?_
  refine own_step (T' := s₁) (f' := (mkF m 1 #[.val (.int (1 : Int32)), .val (.int (2 : Int32)), .val fm] [(.int (1 : Int32))])) (fun t k => XS.iloadN X0.here hx rfl (hb hby d20_0) rfl k) ?_
  refine own_step (T' := s₁) (f' := (mkF m 4 #[.val (.int (1 : Int32)), .val (.int (2 : Int32)), .val fm] [])) (fun t k => XS.ifNo X0.here hx rfl (hb hby d20_1) rfl ((if0 _ _).trans (flt (by decide : ¬ ((1 : Int32) < (0 : Int32)))).1) k) ?_
  refine own_step (T' := s₁) (f' := (mkF m 5 #[.val (.int (1 : Int32)), .val (.int (2 : Int32)), .val fm] [(.int (1 : Int32))])) (fun t k => XS.iloadN X0.here hx rfl (hb hby d20_4) rfl k) ?_
  refine own_step (T' := s₁) (f' := (mkF m 6 #[.val (.int (1 : Int32)), .val (.int (2 : Int32)), .val fm] [(.int (2 : Int32)), (.int (1 : Int32))])) (fun t k => XS.iloadN X0.here hx rfl (hb hby d20_5) rfl k) ?_
  refine own_step (T' := s₁) (f' := (mkF m 16 #[.val (.int (1 : Int32)), .val (.int (2 : Int32)), .val fm] [])) (fun t k => XS.icmpYes X0.here hx rfl (pc0 := 6) (pc' := 16) rfl (hb hby d20_6) rfl (tlt (by decide : (1 : Int32) < (2 : Int32))).1 (by decide) (by decide) k) ?_
  refine own_step (T' := s₁) (f' := (mkF m 17 #[.val (.int (1 : Int32)), .val (.int (2 : Int32)), .val fm] [(.int (1 : Int32))])) (fun t k => XS.iloadN X0.here hx rfl (hb hby d20_16) rfl k) ?_
  exact own_retO X0 hx hlk Bd.returns rfl (Or.inl ⟨rfl, Or.inl rfl, _, rfl⟩) (hb hby d20_17) (by decide) (by decide) ⟨rfl, N0, e0⟩

theorem ef_rm19_2_1 (m : MethodId) (x0 : Int32) (x1 : Int32) : entryFrame m #[(.int x0), (.int x1)] 2 = mkF m 0 #[.val (.int x0), .val (.int x1)] [] := by first | (simp [entryFrame, mkF, argsToLocals, Value.category]; done) | rfl
set_option maxRecDepth 65536 in
set_option maxHeartbeats 40000000 in
theorem rm19_2_1 (l : Launch) (Z : State) (a0 : Array Value) (hw : ∀ d ∈ tables_1, d.before a0 Z = true) (ws : List Jvm.Cond)  (h0 : Heap) (n0 : Nat) (Z0 : n0 ≤ h0.size) (fm : Value) (S_FM : Sta Z h0 "jdk/internal/util/Preconditions" "SIOOBE_FORMATTER" "Ljava/util/function/BiFunction;" fm) (hfc : fm.category = 1) (hfr : fm.isRef = true) :
    MetFree l (⟨"java/lang/String", "checkIndex", "(II)V"⟩ : MethodName) (head1 (Jvm.Cond.code (⟨"java/lang/String", "checkIndex", "(II)V"⟩ : MethodName) jdk_42_method_155_code 2 none :: ws) ({ frames := 1, cells := 0, slots := 0, locals := 14 } : Room)) (fun a U => a = #[(.int (1 : Int32)), (.int (2 : Int32))] ∧ Z.Warmed39 U.vm ∧ U.heap = h0) (fun _ _ _ _ _ => True) (fun _ U o U' => ∃ v L, o = .returned v ∧ QV h0 n0 v U'.heap L ∧ FrameEnd U o U' L ({ frames := 1, cells := 0, slots := 0, locals := 14 } : Room).cells ({ frames := 1, cells := 0, slots := 0, locals := 14 } : Room).slots) := by
  refine MetFree.of_bodySF (plainFor_of_name pn_19) hisR ?_
  intro p e s m args below meth c s₁ Bd hml0 hP hK
  obtain ⟨rfl, hZ, hh⟩ := hP
  have hx := Bd.exec
  have hby := Bd.bytes
  have hlk : meth.locks = false := BodyLoose.notSynchronized Bd
  have hml : c.maxLocals = 2 := hml0
  have hown : s.vm.findClass "java/lang/String" = some m.cls := findClass_of_methodNamed Bd.named
  have hnm := (name_of_methodNamed Bd.named Bd.method).1
  have X0 : Stand p l e ({ frames := 1, cells := 0, slots := 0, locals := 14 } : Room) s m #[(.int (1 : Int32)), (.int (2 : Int32))] below meth c s₁ [] 0 0 := Stand.of_body Bd
  have e0 : s₁.heap = h0 := by rw [← hh, Bd.state]; rfl
  have N0 := Fr.nil n0
  show OwnEnds p e below s (QV h0 n0) ({ frames := 1, cells := 0, slots := 0, locals := 14 } : Room).cells ({ frames := 1, cells := 0, slots := 0, locals := 14 } : Room).slots s₁ (entryFrame m #[(.int (1 : Int32)), (.int (2 : Int32))] 2)
  refine own_step (T' := s₁) (f' := (mkF m 0 #[.val (.int (1 : Int32)), .val (.int (2 : Int32))] [])) (fun t k => castTop (ef_rm19_2_1 m (1 : Int32) (2 : Int32)) k) ?_
  refine own_step (T' := s₁) (f' := (mkF m 1 #[.val (.int (1 : Int32)), .val (.int (2 : Int32))] [(.int (1 : Int32))])) (fun t k => XS.iloadN X0.here hx rfl (hb hby d19_0) rfl k) ?_
  refine own_step (T' := s₁) (f' := (mkF m 2 #[.val (.int (1 : Int32)), .val (.int (2 : Int32))] [(.int (2 : Int32)), (.int (1 : Int32))])) (fun t k => XS.iloadN X0.here hx rfl (hb hby d19_1) rfl k) ?_
  obtain ⟨T1, X1, e1, st1⟩ := getS2 X0 hx hZ hown (host := "") (Or.inl (hw _ (List.mem_of_getElem? (i := 98) rfl))) Via.refl e0 S_FM (g := (mkF m 2 #[.val (.int (1 : Int32)), .val (.int (2 : Int32))] [(.int (2 : Int32)), (.int (1 : Int32))])) rfl (hb hby d19_2)
  refine own_step (T' := T1) (f' := (mkF m 5 #[.val (.int (1 : Int32)), .val (.int (2 : Int32))] [fm, (.int (2 : Int32)), (.int (1 : Int32))])) (fun t k => st1 t k) ?_
  obtain ⟨_, _, ⟨T2, L2, k2, n2⟩, -, X2, ⟨Lc2, hQ2, l2, y2, z2⟩, st2⟩ := Jvm.LawKit.callS X1 hx (y := (⟨"jdk/internal/util/Preconditions", "checkIndex", "(IILjava/util/function/BiFunction;)I"⟩ : MethodName)) hown (mvT hZ (hw _ (List.mem_of_getElem? (i := 100) rfl))) (mvT hZ (hw _ (List.mem_of_getElem? (i := 101) rfl))) (mvT hZ (hw _ (List.mem_of_getElem? (i := 99) rfl))) (mvT hZ (hw _ (List.mem_of_getElem? (i := 102) rfl))) (by decide) (backOf (W := 0) (rm20_2_1 l Z a0 hw [] fm h0 n0 Z0 hfc) hZ (hw _ (List.mem_of_getElem? (i := 102) rfl)) (hw _ (List.mem_of_getElem? (i := 99) rfl)) (by decide) (by decide)) (g := (mkF m 5 #[.val (.int (1 : Int32)), .val (.int (2 : Int32))] [fm, (.int (2 : Int32)), (.int (1 : Int32))])) rfl (by rw [hml]; rfl) (argsL := [(.int (1 : Int32)), (.int (2 : Int32)), fm]) (rest := []) (lenOf pd_19_0 rfl) rfl (by show 2 * 0 + _ ≤ _; exact Nat.le_of_eq rfl) (hb hby d19_5) (fun _ _ => ⟨rfl, e1, (by decide : 0 + 0 ≤ _), (by decide : 0 + 0 ≤ _)⟩)
  dsimp only [Pt.U, Pt.locs, Pt.cells, Pt.slots] at X2 l2 y2 z2 st2 hQ2
  subst l2 y2 z2
  obtain ⟨rfl, N2q, E2⟩ := hQ2
  have N2 := Fr.app N0 N2q
  refine own_step (T' := T2) (f' := (mkF m 8 #[.val (.int (1 : Int32)), .val (.int (2 : Int32))] [(.int (1 : Int32))])) (fun t k => st2 t k) ?_
  refine own_step (T' := T2) (f' := (mkF m 9 #[.val (.int (1 : Int32)), .val (.int (2 : Int32))] [])) (fun t k => XS.pop X2.here hx rfl (hb hby d19_8) rfl rfl k) ?_
  exact own_retV X2 hx hlk Bd.returns (hb hby d19_9) (by decide) (by decide) ⟨rfl, N2, E2⟩

theorem ef_rm18_2_1 (m : MethodId) (x0 : Addr) (x1 : Int32) : entryFrame m #[(.ref x0), (.int x1)] 2 = mkF m 0 #[.val (.ref x0), .val (.int x1)] [] := by first | (simp [entryFrame, mkF, argsToLocals, Value.category]; done) | rfl
set_option maxRecDepth 65536 in
set_option maxHeartbeats 40000000 in
theorem rm18_2_1 (l : Launch) (Z : State) (a0 : Array Value) (hw : ∀ d ∈ tables_1, d.before a0 Z = true) (ws : List Jvm.Cond) (a1 : Addr) (h0 : Heap) (n0 : Nat) (Z0 : n0 ≤ h0.size) (kb : ClassId) (y0 y1 : Int32) (V_a1 : Arv Z h0 a1 kb .byte (2 : Int32) [(.int y0), (.int y1)] (.int (0 : Int32))) (fm : Value) (S_FM : Sta Z h0 "jdk/internal/util/Preconditions" "SIOOBE_FORMATTER" "Ljava/util/function/BiFunction;" fm) (hfc : fm.category = 1) (hfr : fm.isRef = true) :
    MetFree l (⟨"java/lang/StringLatin1", "charAt", "([BI)C"⟩ : MethodName) (head1 (Jvm.Cond.code (⟨"java/lang/StringLatin1", "charAt", "([BI)C"⟩ : MethodName) jdk_43_method_2_code 2 (some .char) :: ws) ({ frames := 2, cells := 0, slots := 0, locals := 28 } : Room)) (fun a U => a = #[(.ref a1), (.int (1 : Int32))] ∧ Z.Warmed39 U.vm ∧ U.heap = h0) (fun _ _ _ _ _ => True) (fun _ U o U' => ∃ v L, o = .returned v ∧ QI (own_ch y1) h0 n0 v U'.heap L ∧ FrameEnd U o U' L ({ frames := 2, cells := 0, slots := 0, locals := 28 } : Room).cells ({ frames := 2, cells := 0, slots := 0, locals := 28 } : Room).slots) := by
  refine MetFree.of_bodySF (plainFor_of_name pn_18) hisR ?_
  intro p e s m args below meth c s₁ Bd hml0 hP hK
  obtain ⟨rfl, hZ, hh⟩ := hP
  have hx := Bd.exec
  have hby := Bd.bytes
  have hlk : meth.locks = false := BodyLoose.notSynchronized Bd
  have hml : c.maxLocals = 2 := hml0
  have hown : s.vm.findClass "java/lang/StringLatin1" = some m.cls := findClass_of_methodNamed Bd.named
  have hnm := (name_of_methodNamed Bd.named Bd.method).1
  have X0 : Stand p l e ({ frames := 2, cells := 0, slots := 0, locals := 28 } : Room) s m #[(.ref a1), (.int (1 : Int32))] below meth c s₁ [] 0 0 := Stand.of_body Bd
  have e0 : s₁.heap = h0 := by rw [← hh, Bd.state]; rfl
  have N0 := Fr.nil n0
  have Zz := Z0
  have Kp : Keep h0 h0 [] := Keep.refl _ _
  show OwnEnds p e below s (QI (own_ch y1) h0 n0) ({ frames := 2, cells := 0, slots := 0, locals := 28 } : Room).cells ({ frames := 2, cells := 0, slots := 0, locals := 28 } : Room).slots s₁ (entryFrame m #[(.ref a1), (.int (1 : Int32))] 2)
  refine own_step (T' := s₁) (f' := (mkF m 0 #[.val (.ref a1), .val (.int (1 : Int32))] [])) (fun t k => castTop (ef_rm18_2_1 m a1 (1 : Int32)) k) ?_
  refine own_step (T' := s₁) (f' := (mkF m 1 #[.val (.ref a1), .val (.int (1 : Int32))] [(.int (1 : Int32))])) (fun t k => XS.iloadN X0.here hx rfl (hb hby d18_0) rfl k) ?_
  refine own_step (T' := s₁) (f' := (mkF m 2 #[.val (.ref a1), .val (.int (1 : Int32))] [(.ref a1), (.int (1 : Int32))])) (fun t k => XS.aloadN X0.here hx rfl (hb hby d18_1) rfl rfl k) ?_
  obtain ⟨cl1, Ar1, q1, S1, M1, H1, G1⟩ := id V_a1
  refine own_step (T' := s₁) (f' := (mkF m 3 #[.val (.ref a1), .val (.int (1 : Int32))] [(.int (2 : Int32)), (.int (1 : Int32))])) (fun t k => X0.arraylength hx (by rw [e0]; exact Ar1.1) (State.isArrayOf_alike hZ.alike Ar1.2.1) (g := (mkF m 2 #[.val (.ref a1), .val (.int (1 : Int32))] [(.ref a1), (.int (1 : Int32))])) rfl rfl (hb hby d18_2) _ (by rw [len_of S1 M1]; exact k)) ?_
  obtain ⟨_, _, ⟨T2, L2, k2, n2⟩, -, X2, ⟨Lc2, hQ2, l2, y2, z2⟩, st2⟩ := Jvm.LawKit.callS X0 hx (y := (⟨"java/lang/String", "checkIndex", "(II)V"⟩ : MethodName)) hown (mvT hZ (hw _ (List.mem_of_getElem? (i := 95) rfl))) (mvT hZ (hw _ (List.mem_of_getElem? (i := 96) rfl))) (mvT hZ (hw _ (List.mem_of_getElem? (i := 42) rfl))) (mvT hZ (hw _ (List.mem_of_getElem? (i := 97) rfl))) (by decide) (backOf (W := 0) (rm19_2_1 l Z a0 hw [] h0 n0 Zz fm S_FM hfc hfr) hZ (hw _ (List.mem_of_getElem? (i := 97) rfl)) (hw _ (List.mem_of_getElem? (i := 42) rfl)) (by decide) (by decide)) (g := (mkF m 3 #[.val (.ref a1), .val (.int (1 : Int32))] [(.int (2 : Int32)), (.int (1 : Int32))])) rfl (by rw [hml]; rfl) (argsL := [(.int (1 : Int32)), (.int (2 : Int32))]) (rest := []) (lenOf pd_18_0 rfl) rfl (by show 2 * 0 + _ ≤ _; exact Nat.le_of_eq rfl) (hb hby d18_3) (fun _ _ => ⟨rfl, e0, (by decide : 0 + 0 ≤ _), (by decide : 0 + 0 ≤ _)⟩)
  dsimp only [Pt.U, Pt.locs, Pt.cells, Pt.slots] at X2 l2 y2 z2 st2 hQ2
  subst l2 y2 z2
  obtain ⟨rfl, N2q, E2⟩ := hQ2
  have N2 := Fr.app N0 N2q
  refine own_step (T' := T2) (f' := (mkF m 6 #[.val (.ref a1), .val (.int (1 : Int32))] [])) (fun t k => st2 t k) ?_
  refine own_step (T' := T2) (f' := (mkF m 7 #[.val (.ref a1), .val (.int (1 : Int32))] [(.ref a1)])) (fun t k => XS.aloadN X2.here hx rfl (hb hby d18_6) rfl rfl k) ?_
  refine own_step (T' := T2) (f' := (mkF m 8 #[.val (.ref a1), .val (.int (1 : Int32))] [(.int (1 : Int32)), (.ref a1)])) (fun t k => XS.iloadN X2.here hx rfl (hb hby d18_7) rfl k) ?_
  obtain ⟨cl3, Ar3, q3, S3, M3, H3, G3⟩ := id V_a1
  have hin3 : ¬ ((1 : Int32) < 0 ∨ cl3.slots.size ≤ ((1 : Int32)).toNatClampNeg) := inb_of S3 ⟨by decide, by decide⟩
  have hat3 : cl3.slots[((1 : Int32)).toNatClampNeg]? = some (.int y1) := own_at hin3 H3 1 rfl rfl
  refine own_step (T' := T2) (f' := (mkF m 9 #[.val (.ref a1), .val (.int (1 : Int32))] [(.int y1)])) (fun t k => X2.baloadBytes hx (j := (1 : Int32)) (v := (.int y1)) (by rw [E2]; exact Ar3.1) (State.isArrayOf_alike hZ.alike Ar3.2.1) Ar3.2.2 hin3 hat3 (g := (mkF m 8 #[.val (.ref a1), .val (.int (1 : Int32))] [(.int (1 : Int32)), (.ref a1)])) rfl rfl (hb hby d18_8) _ k) ?_
  refine own_step (T' := T2) (f' := (mkF m 12 #[.val (.ref a1), .val (.int (1 : Int32))] [(.int (255 : Int32)), (.int y1)])) (fun t k => XS.sipush X2.here hx rfl (hb hby d18_9) k) ?_
  refine own_step (T' := T2) (f' := (mkF m 13 #[.val (.ref a1), .val (.int (1 : Int32))] [(.int (y1 &&& (255 : Int32)))])) (fun t k => XS.iand X2.here hx rfl (hb hby d18_12) rfl k) ?_
  refine own_step (T' := T2) (f' := (mkF m 14 #[.val (.ref a1), .val (.int (1 : Int32))] [(.int ((y1 &&& (255 : Int32)).toUInt32.toUInt16.toUInt32.toInt32))])) (fun t k => XS.i2c X2.here hx rfl (hb hby d18_13) rfl k) ?_
  exact own_retN X2 hx hlk (t := .char) Bd.returns (by simp) (hb hby d18_14) (by decide) (by decide) ⟨rfl, N2, E2⟩

theorem ef_rm16_2_1 (m : MethodId) (x0 : Addr) (x1 : Int32) : entryFrame m #[(.ref x0), (.int x1)] 2 = mkF m 0 #[.val (.ref x0), .val (.int x1)] [] := by first | (simp [entryFrame, mkF, argsToLocals, Value.category]; done) | rfl
set_option maxRecDepth 65536 in
set_option maxHeartbeats 40000000 in
theorem rm16_2_1 (l : Launch) (Z : State) (a0 : Array Value) (hw : ∀ d ∈ tables_1, d.before a0 Z = true) (ws : List Jvm.Cond) (a1 : Addr) (h0 : Heap) (n0 : Nat) (Z0 : n0 ≤ h0.size) (b : Addr) (kb : ClassId) (y0 y1 : Int32) (O : OwnStr Z h0 a1 b kb 2 [(.int y0), (.int y1)]) (cs : Int32) (S_CS : Sta Z h0 "java/lang/String" "COMPACT_STRINGS" "Z" (.int cs)) (hcs : ¬ cs = (0 : Int32)) (fm : Value) (S_FM : Sta Z h0 "jdk/internal/util/Preconditions" "SIOOBE_FORMATTER" "Ljava/util/function/BiFunction;" fm) (hfc : fm.category = 1) (hfr : fm.isRef = true) :
    MetFree l (⟨"java/lang/String", "charAt", "(I)C"⟩ : MethodName) (head1 (Jvm.Cond.code (⟨"java/lang/String", "charAt", "(I)C"⟩ : MethodName) jdk_42_method_56_code 2 (some .char) :: ws) ({ frames := 3, cells := 0, slots := 0, locals := 42 } : Room)) (fun a U => a = #[(.ref a1), (.int (1 : Int32))] ∧ Z.Warmed39 U.vm ∧ U.heap = h0) (fun _ _ _ _ _ => True) (fun _ U o U' => ∃ v L, o = .returned v ∧ QI (own_ch y1) h0 n0 v U'.heap L ∧ FrameEnd U o U' L ({ frames := 3, cells := 0, slots := 0, locals := 42 } : Room).cells ({ frames := 3, cells := 0, slots := 0, locals := 42 } : Room).slots) := by
  refine MetFree.of_bodySF (plainFor_of_name pn_16) hisR ?_
  intro p e s m args below meth c s₁ Bd hml0 hP hK
  obtain ⟨rfl, hZ, hh⟩ := hP
  have hx := Bd.exec
  have hby := Bd.bytes
  have hlk : meth.locks = false := BodyLoose.notSynchronized Bd
  have hml : c.maxLocals = 2 := hml0
  have hown : s.vm.findClass "java/lang/String" = some m.cls := findClass_of_methodNamed Bd.named
  have hnm := (name_of_methodNamed Bd.named Bd.method).1
  have X0 : Stand p l e ({ frames := 3, cells := 0, slots := 0, locals := 42 } : Room) s m #[(.ref a1), (.int (1 : Int32))] below meth c s₁ [] 0 0 := Stand.of_body Bd
  have e0 : s₁.heap = h0 := by rw [← hh, Bd.state]; rfl
  have N0 := Fr.nil n0
  show OwnEnds p e below s (QI (own_ch y1) h0 n0) ({ frames := 3, cells := 0, slots := 0, locals := 42 } : Room).cells ({ frames := 3, cells := 0, slots := 0, locals := 42 } : Room).slots s₁ (entryFrame m #[(.ref a1), (.int (1 : Int32))] 2)
  refine own_step (T' := s₁) (f' := (mkF m 0 #[.val (.ref a1), .val (.int (1 : Int32))] [])) (fun t k => castTop (ef_rm16_2_1 m a1 (1 : Int32)) k) ?_
  refine own_step (T' := s₁) (f' := (mkF m 1 #[.val (.ref a1), .val (.int (1 : Int32))] [(.ref a1)])) (fun t k => XS.aloadN X0.here hx rfl (hb hby d16_0) rfl rfl k) ?_
  obtain ⟨cq1, kq1, q1a, q1b, q1c⟩ := isOf hZ e0 O.1
  obtain ⟨_, _, ⟨T1, L1, k1, n1⟩, -, X1, ⟨Lc1, hQ1, l1, y1, z1⟩, st1⟩ := X0.virtualBack hx (y := (⟨"java/lang/String", "isLatin1", "()Z"⟩ : MethodName)) (z := (⟨"java/lang/String", "isLatin1", "()Z"⟩ : MethodName)) hown (mvT hZ (hw _ (List.mem_of_getElem? (i := 86) rfl))) (mvT hZ (hw _ (List.mem_of_getElem? (i := 87) rfl))) (notFace_of_selects (args := #[]) (mvT hZ (hw _ (List.mem_of_getElem? (i := 89) rfl)))) (mvT hZ (hw _ (List.mem_of_getElem? (i := 89) rfl))) (mvT hZ (hw _ (List.mem_of_getElem? (i := 88) rfl))) (by decide) (backOf (W := 0) (rm17 l Z a0 hw [] a1 h0 n0 Z0 O.2.1 cs S_CS hcs) hZ (hw _ (List.mem_of_getElem? (i := 90) rfl)) (hw _ (List.mem_of_getElem? (i := 42) rfl)) (by decide) (by decide)) q1a q1c (g := (mkF m 1 #[.val (.ref a1), .val (.int (1 : Int32))] [(.ref a1)])) rfl (by rw [hml]; rfl) (Steps.refl _) (argsL := []) (rest := []) (lenOf pd_16_0 rfl) rfl (by show 2 * 0 + _ ≤ _; exact Nat.le_of_eq rfl) (hb hby d16_1) (fun _ _ => ⟨rfl, e0, (by decide : 0 + 0 ≤ _), (by decide : 0 + 0 ≤ _)⟩)
  dsimp only [Pt.U, Pt.locs, Pt.cells, Pt.slots] at X1 l1 y1 z1 st1 hQ1
  subst l1 y1 z1
  obtain ⟨rfl, N1q, E1⟩ := hQ1
  have N1 := Fr.app N0 N1q
  refine own_step (T' := T1) (f' := (mkF m 4 #[.val (.ref a1), .val (.int (1 : Int32))] [(.int (1 : Int32))])) (fun t k => st1.trans k) ?_
  refine own_step (T' := T1) (f' := (mkF m 7 #[.val (.ref a1), .val (.int (1 : Int32))] [])) (fun t k => XS.ifNo X1.here hx rfl (hb hby d16_4) rfl ((if0 _ _).trans (feq (by decide : ¬ ((1 : Int32) = (0 : Int32)))).1) k) ?_
  refine own_step (T' := T1) (f' := (mkF m 8 #[.val (.ref a1), .val (.int (1 : Int32))] [(.ref a1)])) (fun t k => XS.aloadN X1.here hx rfl (hb hby d16_7) rfl rfl k) ?_
  obtain ⟨T2, X2, e2, st2⟩ := getF X1 hx hZ hown (host := "") (Or.inl (hw _ (List.mem_of_getElem? (i := 64) rfl))) Via.refl E1 O.2.2.1 (g := (mkF m 8 #[.val (.ref a1), .val (.int (1 : Int32))] [(.ref a1)])) rfl rfl (hb hby d16_8)
  refine own_step (T' := T2) (f' := (mkF m 11 #[.val (.ref a1), .val (.int (1 : Int32))] [(.ref b)])) (fun t k => st2 t k) ?_
  refine own_step (T' := T2) (f' := (mkF m 12 #[.val (.ref a1), .val (.int (1 : Int32))] [(.int (1 : Int32)), (.ref b)])) (fun t k => XS.iloadN X2.here hx rfl (hb hby d16_11) rfl k) ?_
  obtain ⟨_, _, ⟨T3, L3, k3, n3⟩, -, X3, ⟨Lc3, hQ3, l3, y3, z3⟩, st3⟩ := Jvm.LawKit.callS X2 hx (y := (⟨"java/lang/StringLatin1", "charAt", "([BI)C"⟩ : MethodName)) hown (mvT hZ (hw _ (List.mem_of_getElem? (i := 91) rfl))) (mvT hZ (hw _ (List.mem_of_getElem? (i := 92) rfl))) (mvT hZ (hw _ (List.mem_of_getElem? (i := 93) rfl))) (mvT hZ (hw _ (List.mem_of_getElem? (i := 94) rfl))) (by decide) (backOf (W := 0) (rm18_2_1 l Z a0 hw [] b h0 n0 Z0 kb y0 y1 O.2.2.2 fm S_FM hfc hfr) hZ (hw _ (List.mem_of_getElem? (i := 94) rfl)) (hw _ (List.mem_of_getElem? (i := 93) rfl)) (by decide) (by decide)) (g := (mkF m 12 #[.val (.ref a1), .val (.int (1 : Int32))] [(.int (1 : Int32)), (.ref b)])) rfl (by rw [hml]; rfl) (argsL := [(.ref b), (.int (1 : Int32))]) (rest := []) (lenOf pd_16_1 rfl) rfl (by show 2 * 0 + _ ≤ _; exact Nat.le_of_eq rfl) (hb hby d16_12) (fun _ _ => ⟨rfl, e2, (by decide : 0 + 0 ≤ _), (by decide : 0 + 0 ≤ _)⟩)
  dsimp only [Pt.U, Pt.locs, Pt.cells, Pt.slots] at X3 l3 y3 z3 st3 hQ3
  subst l3 y3 z3
  obtain ⟨rfl, N3q, E3⟩ := hQ3
  have N3 := Fr.app N1 N3q
  refine own_step (T' := T3) (f' := (mkF m 15 #[.val (.ref a1), .val (.int (1 : Int32))] [(.int (own_ch y1))])) (fun t k => st3 t k) ?_
  exact own_retN X3 hx hlk (t := .char) Bd.returns (by simp) (hb hby d16_15) (by decide) (by decide) ⟨by rw [own_chn], N3, E3⟩

theorem ef_rm13_2 (m : MethodId) (x0 : Addr) (x1 : Addr) : entryFrame m #[(.ref x0), (.ref x1)] 5 = mkF m 0 #[.val (.ref x0), .val (.ref x1), .unset, .unset, .unset] [] := by first | (simp [entryFrame, mkF, argsToLocals, Value.category]; done) | rfl
set_option maxRecDepth 65536 in
set_option maxHeartbeats 40000000 in
theorem rm13_2 (l : Launch) (Z : State) (a0 : Array Value) (hw : ∀ d ∈ tables_1, d.before a0 Z = true) (ws : List Jvm.Cond) (a1 : Addr) (a2 : Addr) (h0 : Heap) (n0 : Nat) (Z0 : n0 ≤ h0.size) (y0 y1 x2 : Int32) (bv : Addr) (kv : ClassId) (O : OwnTx Z h0 a1 bv kv 2 [(.int y0), (.int y1), (.int x2)]) (b : Addr) (kb : ClassId) (O2 : OwnStr Z h0 a2 b kb 2 [(.int y0), (.int y1)]) (cs : Int32) (S_CS : Sta Z h0 "java/lang/String" "COMPACT_STRINGS" "Z" (.int cs)) (hcs : ¬ cs = (0 : Int32)) (fm : Value) (S_FM : Sta Z h0 "jdk/internal/util/Preconditions" "SIOOBE_FORMATTER" "Ljava/util/function/BiFunction;" fm) (hfc : fm.category = 1) (hfr : fm.isRef = true) :
    MetFree l (⟨"com/example/lit2/lit2/weave/TexOutput", "endsWith", "(Ljava/lang/String;)Z"⟩ : MethodName) (head1 (Jvm.Cond.code (⟨"com/example/lit2/lit2/weave/TexOutput", "endsWith", "(Ljava/lang/String;)Z"⟩ : MethodName) prog_135_method_10_code 5 (some .boolean) :: ws) ({ frames := 4, cells := 0, slots := 0, locals := 56 } : Room)) (fun a U => a = #[(.ref a1), (.ref a2)] ∧ Z.Warmed39 U.vm ∧ U.heap = h0) (fun _ _ _ _ _ => True) (fun _ U o U' => ∃ v L, o = .returned v ∧ QI 1 h0 n0 v U'.heap L ∧ FrameEnd U o U' L ({ frames := 4, cells := 0, slots := 0, locals := 56 } : Room).cells ({ frames := 4, cells := 0, slots := 0, locals := 56 } : Room).slots) := by
  refine MetFree.of_bodySF (plainFor_of_name pn_13) hisR ?_
  intro p e s m args below meth c s₁ Bd hml0 hP hK
  obtain ⟨rfl, hZ, hh⟩ := hP
  have hx := Bd.exec
  have hby := Bd.bytes
  have hlk : meth.locks = false := BodyLoose.notSynchronized Bd
  have hml : c.maxLocals = 5 := hml0
  have hown : s.vm.findClass "com/example/lit2/lit2/weave/TexOutput" = some m.cls := findClass_of_methodNamed Bd.named
  have hnm := (name_of_methodNamed Bd.named Bd.method).1
  have X0 : Stand p l e ({ frames := 4, cells := 0, slots := 0, locals := 56 } : Room) s m #[(.ref a1), (.ref a2)] below meth c s₁ [] 0 0 := Stand.of_body Bd
  have e0 : s₁.heap = h0 := by rw [← hh, Bd.state]; rfl
  have N0 := Fr.nil n0
  have Zz := Z0
  have Kp : Keep h0 h0 [] := Keep.refl _ _
  have V_bv := O.2.2.2.2.1
  show OwnEnds p e below s (QI 1 h0 n0) ({ frames := 4, cells := 0, slots := 0, locals := 56 } : Room).cells ({ frames := 4, cells := 0, slots := 0, locals := 56 } : Room).slots s₁ (entryFrame m #[(.ref a1), (.ref a2)] 5)
  refine own_step (T' := s₁) (f' := (mkF m 0 #[.val (.ref a1), .val (.ref a2), .unset, .unset, .unset] [])) (fun t k => castTop (ef_rm13_2 m a1 a2) k) ?_
  refine own_step (T' := s₁) (f' := (mkF m 1 #[.val (.ref a1), .val (.ref a2), .unset, .unset, .unset] [(.ref a1)])) (fun t k => XS.aloadN X0.here hx rfl (hb hby d13_0) rfl rfl k) ?_
  obtain ⟨T1, X1, e1, st1⟩ := getF X0 hx hZ hown (host := "") (Or.inl (hw _ (List.mem_of_getElem? (i := 25) rfl))) Via.refl e0 O.2.2.1 (g := (mkF m 1 #[.val (.ref a1), .val (.ref a2), .unset, .unset, .unset] [(.ref a1)])) rfl rfl (hb hby d13_1)
  refine own_step (T' := T1) (f' := (mkF m 4 #[.val (.ref a1), .val (.ref a2), .unset, .unset, .unset] [(.int (2 : Int32))])) (fun t k => st1 t k) ?_
  refine own_step (T' := T1) (f' := (mkF m 5 #[.val (.ref a1), .val (.ref a2), .unset, .unset, .unset] [(.ref a2), (.int (2 : Int32))])) (fun t k => XS.aloadN X1.here hx rfl (hb hby d13_4) rfl rfl k) ?_
  obtain ⟨cq2, kq2, q2a, q2b, q2c⟩ := isOf hZ e1 O2.1
  obtain ⟨_, _, ⟨T2, L2, k2, n2⟩, -, X2, ⟨Lc2, hQ2, l2, y2, z2⟩, st2⟩ := X1.virtualBack hx (y := (⟨"java/lang/String", "length", "()I"⟩ : MethodName)) (z := (⟨"java/lang/String", "length", "()I"⟩ : MethodName)) hown (mvT hZ (hw _ (List.mem_of_getElem? (i := 71) rfl))) (mvT hZ (hw _ (List.mem_of_getElem? (i := 72) rfl))) (notFace_of_selects (args := #[]) (mvT hZ (hw _ (List.mem_of_getElem? (i := 74) rfl)))) (mvT hZ (hw _ (List.mem_of_getElem? (i := 74) rfl))) (mvT hZ (hw _ (List.mem_of_getElem? (i := 73) rfl))) (by decide) (backOf (W := 1) (rm14_2 l Z a0 hw [] a2 h0 n0 Zz b kb y0 y1 O2 cs S_CS hcs) hZ (hw _ (List.mem_of_getElem? (i := 75) rfl)) (hw _ (List.mem_of_getElem? (i := 42) rfl)) (by decide) (by decide)) q2a q2c (g := (mkF m 5 #[.val (.ref a1), .val (.ref a2), .unset, .unset, .unset] [(.ref a2), (.int (2 : Int32))])) rfl (by rw [hml]; rfl) (Steps.refl _) (argsL := []) (rest := [(.int (2 : Int32))]) (lenOf pd_13_0 rfl) rfl (by show 2 * 0 + _ ≤ _; exact Nat.le_of_eq rfl) (hb hby d13_5) (fun _ _ => ⟨rfl, e1, (by decide : 0 + 0 ≤ _), (by decide : 0 + 0 ≤ _)⟩)
  dsimp only [Pt.U, Pt.locs, Pt.cells, Pt.slots] at X2 l2 y2 z2 st2 hQ2
  subst l2 y2 z2
  obtain ⟨rfl, N2q, E2⟩ := hQ2
  have N2 := Fr.app N0 N2q
  refine own_step (T' := T2) (f' := (mkF m 8 #[.val (.ref a1), .val (.ref a2), .unset, .unset, .unset] [(.int (2 : Int32)), (.int (2 : Int32))])) (fun t k => st2.trans k) ?_
  refine own_step (T' := T2) (f' := (mkF m 9 #[.val (.ref a1), .val (.ref a2), .unset, .unset, .unset] [(.int (0 : Int32))])) (fun t k => XS.isub X2.here hx rfl (hb hby d13_8) rfl k) ?_
  refine own_step (T' := T2) (f' := (mkF m 10 #[.val (.ref a1), .val (.ref a2), .val (.int (0 : Int32)), .unset, .unset] [])) (fun t k => XS.istoreN X2.here hx rfl (hb hby d13_9) rfl (l' := #[.val (.ref a1), .val (.ref a2), .val (.int (0 : Int32)), .unset, .unset]) rfl k) ?_
  refine own_step (T' := T2) (f' := (mkF m 11 #[.val (.ref a1), .val (.ref a2), .val (.int (0 : Int32)), .unset, .unset] [(.int (0 : Int32))])) (fun t k => XS.iloadN X2.here hx rfl (hb hby d13_10) rfl k) ?_
  refine own_step (T' := T2) (f' := (mkF m 14 #[.val (.ref a1), .val (.ref a2), .val (.int (0 : Int32)), .unset, .unset] [])) (fun t k => XS.ifNo X2.here hx rfl (hb hby d13_11) rfl ((if0 _ _).trans (flt (by decide : ¬ ((0 : Int32) < (0 : Int32)))).1) k) ?_
  refine own_step (T' := T2) (f' := (mkF m 15 #[.val (.ref a1), .val (.ref a2), .val (.int (0 : Int32)), .unset, .unset] [(.int (1 : Int32))])) (fun t k => XS.iconst X2.here hx rfl (hb hby d13_14) k) ?_
  refine own_step (T' := T2) (f' := (mkF m 19 #[.val (.ref a1), .val (.ref a2), .val (.int (0 : Int32)), .unset, .unset] [(.int (1 : Int32))])) (fun t k => XS.goto X2.here hx rfl (pc0 := 15) (pc' := 19) rfl (hb hby d13_15) (by decide) (by decide) k) ?_
  refine own_step (T' := T2) (f' := (mkF m 20 #[.val (.ref a1), .val (.ref a2), .val (.int (0 : Int32)), .val (.int (1 : Int32)), .unset] [])) (fun t k => XS.istoreN X2.here hx rfl (hb hby d13_19) rfl (l' := #[.val (.ref a1), .val (.ref a2), .val (.int (0 : Int32)), .val (.int (1 : Int32)), .unset]) rfl k) ?_
  refine own_step (T' := T2) (f' := (mkF m 21 #[.val (.ref a1), .val (.ref a2), .val (.int (0 : Int32)), .val (.int (1 : Int32)), .unset] [(.int (0 : Int32))])) (fun t k => XS.iconst X2.here hx rfl (hb hby d13_20) k) ?_
  refine own_step (T' := T2) (f' := (mkF m 23 #[.val (.ref a1), .val (.ref a2), .val (.int (0 : Int32)), .val (.int (1 : Int32)), .val (.int (0 : Int32))] [])) (fun t k => XS.istore X2.here hx rfl (hb hby d13_21) rfl (l' := #[.val (.ref a1), .val (.ref a2), .val (.int (0 : Int32)), .val (.int (1 : Int32)), .val (.int (0 : Int32))]) rfl k) ?_
  refine own_step (T' := T2) (f' := (mkF m 25 #[.val (.ref a1), .val (.ref a2), .val (.int (0 : Int32)), .val (.int (1 : Int32)), .val (.int (0 : Int32))] [(.int (0 : Int32))])) (fun t k => XS.iload X2.here hx rfl (hb hby d13_23) rfl k) ?_
  refine own_step (T' := T2) (f' := (mkF m 26 #[.val (.ref a1), .val (.ref a2), .val (.int (0 : Int32)), .val (.int (1 : Int32)), .val (.int (0 : Int32))] [(.ref a2), (.int (0 : Int32))])) (fun t k => XS.aloadN X2.here hx rfl (hb hby d13_25) rfl rfl k) ?_
  obtain ⟨cq3, kq3, q3a, q3b, q3c⟩ := isOf hZ E2 O2.1
  obtain ⟨_, _, ⟨T3, L3, k3, n3⟩, -, X3, ⟨Lc3, hQ3, l3, y3, z3⟩, st3⟩ := X2.virtualBack hx (y := (⟨"java/lang/String", "length", "()I"⟩ : MethodName)) (z := (⟨"java/lang/String", "length", "()I"⟩ : MethodName)) hown (mvT hZ (hw _ (List.mem_of_getElem? (i := 71) rfl))) (mvT hZ (hw _ (List.mem_of_getElem? (i := 72) rfl))) (notFace_of_selects (args := #[]) (mvT hZ (hw _ (List.mem_of_getElem? (i := 74) rfl)))) (mvT hZ (hw _ (List.mem_of_getElem? (i := 74) rfl))) (mvT hZ (hw _ (List.mem_of_getElem? (i := 73) rfl))) (by decide) (backOf (W := 1) (rm14_2 l Z a0 hw [] a2 h0 n0 Zz b kb y0 y1 O2 cs S_CS hcs) hZ (hw _ (List.mem_of_getElem? (i := 75) rfl)) (hw _ (List.mem_of_getElem? (i := 42) rfl)) (by decide) (by decide)) q3a q3c (g := (mkF m 26 #[.val (.ref a1), .val (.ref a2), .val (.int (0 : Int32)), .val (.int (1 : Int32)), .val (.int (0 : Int32))] [(.ref a2), (.int (0 : Int32))])) rfl (by rw [hml]; rfl) (Steps.refl _) (argsL := []) (rest := [(.int (0 : Int32))]) (lenOf pd_13_0 rfl) rfl (by show 2 * 0 + _ ≤ _; exact Nat.le_of_eq rfl) (hb hby d13_26) (fun _ _ => ⟨rfl, E2, (by decide : 0 + 0 ≤ _), (by decide : 0 + 0 ≤ _)⟩)
  dsimp only [Pt.U, Pt.locs, Pt.cells, Pt.slots] at X3 l3 y3 z3 st3 hQ3
  subst l3 y3 z3
  obtain ⟨rfl, N3q, E3⟩ := hQ3
  have N3 := Fr.app N2 N3q
  refine own_step (T' := T3) (f' := (mkF m 29 #[.val (.ref a1), .val (.ref a2), .val (.int (0 : Int32)), .val (.int (1 : Int32)), .val (.int (0 : Int32))] [(.int (2 : Int32)), (.int (0 : Int32))])) (fun t k => st3.trans k) ?_
  refine own_step (T' := T3) (f' := (mkF m 32 #[.val (.ref a1), .val (.ref a2), .val (.int (0 : Int32)), .val (.int (1 : Int32)), .val (.int (0 : Int32))] [])) (fun t k => XS.icmpNo X3.here hx rfl (hb hby d13_29) rfl (tlt (by decide : (0 : Int32) < (2 : Int32))).2.1 k) ?_
  refine own_step (T' := T3) (f' := (mkF m 33 #[.val (.ref a1), .val (.ref a2), .val (.int (0 : Int32)), .val (.int (1 : Int32)), .val (.int (0 : Int32))] [(.int (1 : Int32))])) (fun t k => XS.iloadN X3.here hx rfl (hb hby d13_32) rfl k) ?_
  refine own_step (T' := T3) (f' := (mkF m 36 #[.val (.ref a1), .val (.ref a2), .val (.int (0 : Int32)), .val (.int (1 : Int32)), .val (.int (0 : Int32))] [])) (fun t k => XS.ifNo X3.here hx rfl (hb hby d13_33) rfl ((if0 _ _).trans (feq (by decide : ¬ ((1 : Int32) = (0 : Int32)))).1) k) ?_
  refine own_step (T' := T3) (f' := (mkF m 37 #[.val (.ref a1), .val (.ref a2), .val (.int (0 : Int32)), .val (.int (1 : Int32)), .val (.int (0 : Int32))] [(.ref a1)])) (fun t k => XS.aloadN X3.here hx rfl (hb hby d13_36) rfl rfl k) ?_
  obtain ⟨T4, X4, e4, st4⟩ := getF X3 hx hZ hown (host := "") (Or.inl (hw _ (List.mem_of_getElem? (i := 18) rfl))) Via.refl E3 O.2.1 (g := (mkF m 37 #[.val (.ref a1), .val (.ref a2), .val (.int (0 : Int32)), .val (.int (1 : Int32)), .val (.int (0 : Int32))] [(.ref a1)])) rfl rfl (hb hby d13_37)
  refine own_step (T' := T4) (f' := (mkF m 40 #[.val (.ref a1), .val (.ref a2), .val (.int (0 : Int32)), .val (.int (1 : Int32)), .val (.int (0 : Int32))] [(.ref bv)])) (fun t k => st4 t k) ?_
  refine own_step (T' := T4) (f' := (mkF m 41 #[.val (.ref a1), .val (.ref a2), .val (.int (0 : Int32)), .val (.int (1 : Int32)), .val (.int (0 : Int32))] [(.int (0 : Int32)), (.ref bv)])) (fun t k => XS.iloadN X4.here hx rfl (hb hby d13_40) rfl k) ?_
  refine own_step (T' := T4) (f' := (mkF m 43 #[.val (.ref a1), .val (.ref a2), .val (.int (0 : Int32)), .val (.int (1 : Int32)), .val (.int (0 : Int32))] [(.int (0 : Int32)), (.int (0 : Int32)), (.ref bv)])) (fun t k => XS.iload X4.here hx rfl (hb hby d13_41) rfl k) ?_
  refine own_step (T' := T4) (f' := (mkF m 44 #[.val (.ref a1), .val (.ref a2), .val (.int (0 : Int32)), .val (.int (1 : Int32)), .val (.int (0 : Int32))] [(.int (0 : Int32)), (.ref bv)])) (fun t k => XS.iadd X4.here hx rfl (hb hby d13_43) rfl k) ?_
  obtain ⟨cl5, Ar5, q5, S5, M5, H5, G5⟩ := id V_bv
  have hin5 : ¬ ((0 : Int32) < 0 ∨ cl5.slots.size ≤ ((0 : Int32)).toNatClampNeg) := inb_of S5 ⟨by decide, by decide⟩
  have hat5 : cl5.slots[((0 : Int32)).toNatClampNeg]? = some (.int y0) := own_at hin5 H5 0 rfl rfl
  refine own_step (T' := T4) (f' := (mkF m 45 #[.val (.ref a1), .val (.ref a2), .val (.int (0 : Int32)), .val (.int (1 : Int32)), .val (.int (0 : Int32))] [(.int y0)])) (fun t k => X4.baloadBytes hx (j := (0 : Int32)) (v := (.int y0)) (by rw [e4]; exact Ar5.1) (State.isArrayOf_alike hZ.alike Ar5.2.1) Ar5.2.2 hin5 hat5 (g := (mkF m 44 #[.val (.ref a1), .val (.ref a2), .val (.int (0 : Int32)), .val (.int (1 : Int32)), .val (.int (0 : Int32))] [(.int (0 : Int32)), (.ref bv)])) rfl rfl (hb hby d13_44) _ k) ?_
  refine own_step (T' := T4) (f' := (mkF m 48 #[.val (.ref a1), .val (.ref a2), .val (.int (0 : Int32)), .val (.int (1 : Int32)), .val (.int (0 : Int32))] [(.int (255 : Int32)), (.int y0)])) (fun t k => XS.sipush X4.here hx rfl (hb hby d13_45) k) ?_
  refine own_step (T' := T4) (f' := (mkF m 49 #[.val (.ref a1), .val (.ref a2), .val (.int (0 : Int32)), .val (.int (1 : Int32)), .val (.int (0 : Int32))] [(.int (y0 &&& (255 : Int32)))])) (fun t k => XS.iand X4.here hx rfl (hb hby d13_48) rfl k) ?_
  refine own_step (T' := T4) (f' := (mkF m 50 #[.val (.ref a1), .val (.ref a2), .val (.int (0 : Int32)), .val (.int (1 : Int32)), .val (.int (0 : Int32))] [(.ref a2), (.int (y0 &&& (255 : Int32)))])) (fun t k => XS.aloadN X4.here hx rfl (hb hby d13_49) rfl rfl k) ?_
  refine own_step (T' := T4) (f' := (mkF m 52 #[.val (.ref a1), .val (.ref a2), .val (.int (0 : Int32)), .val (.int (1 : Int32)), .val (.int (0 : Int32))] [(.int (0 : Int32)), (.ref a2), (.int (y0 &&& (255 : Int32)))])) (fun t k => XS.iload X4.here hx rfl (hb hby d13_50) rfl k) ?_
  obtain ⟨cq6, kq6, q6a, q6b, q6c⟩ := isOf hZ e4 O2.1
  obtain ⟨_, _, ⟨T6, L6, k6, n6⟩, -, X6, ⟨Lc6, hQ6, l6, y6, z6⟩, st6⟩ := X4.virtualBack hx (y := (⟨"java/lang/String", "charAt", "(I)C"⟩ : MethodName)) (z := (⟨"java/lang/String", "charAt", "(I)C"⟩ : MethodName)) hown (mvT hZ (hw _ (List.mem_of_getElem? (i := 81) rfl))) (mvT hZ (hw _ (List.mem_of_getElem? (i := 82) rfl))) (notFace_of_selects (args := #[]) (mvT hZ (hw _ (List.mem_of_getElem? (i := 84) rfl)))) (mvT hZ (hw _ (List.mem_of_getElem? (i := 84) rfl))) (mvT hZ (hw _ (List.mem_of_getElem? (i := 83) rfl))) (by decide) (backOf (W := 1) (rm16_2_0 l Z a0 hw [] a2 h0 n0 Zz b kb y0 y1 O2 cs S_CS hcs fm S_FM hfc hfr) hZ (hw _ (List.mem_of_getElem? (i := 85) rfl)) (hw _ (List.mem_of_getElem? (i := 42) rfl)) (by decide) (by decide)) q6a q6c (g := (mkF m 52 #[.val (.ref a1), .val (.ref a2), .val (.int (0 : Int32)), .val (.int (1 : Int32)), .val (.int (0 : Int32))] [(.int (0 : Int32)), (.ref a2), (.int (y0 &&& (255 : Int32)))])) rfl (by rw [hml]; rfl) (Steps.refl _) (argsL := [(.int (0 : Int32))]) (rest := [(.int (y0 &&& (255 : Int32)))]) (lenOf pd_13_1 rfl) rfl (by show 2 * 0 + _ ≤ _; exact Nat.le_of_eq rfl) (hb hby d13_52) (fun _ _ => ⟨rfl, e4, (by decide : 0 + 0 ≤ _), (by decide : 0 + 0 ≤ _)⟩)
  dsimp only [Pt.U, Pt.locs, Pt.cells, Pt.slots] at X6 l6 y6 z6 st6 hQ6
  subst l6 y6 z6
  obtain ⟨rfl, N6q, E6⟩ := hQ6
  have N6 := Fr.app N3 N6q
  refine own_step (T' := T6) (f' := (mkF m 55 #[.val (.ref a1), .val (.ref a2), .val (.int (0 : Int32)), .val (.int (1 : Int32)), .val (.int (0 : Int32))] [(.int (own_ch y0)), (.int (y0 &&& (255 : Int32)))])) (fun t k => st6.trans k) ?_
  refine own_step (T' := T6) (f' := (mkF m 58 #[.val (.ref a1), .val (.ref a2), .val (.int (0 : Int32)), .val (.int (1 : Int32)), .val (.int (0 : Int32))] [])) (fun t k => XS.icmpNo X6.here hx rfl (hb hby d13_55) rfl (teq (own_che _).symm).2 k) ?_
  refine own_step (T' := T6) (f' := (mkF m 59 #[.val (.ref a1), .val (.ref a2), .val (.int (0 : Int32)), .val (.int (1 : Int32)), .val (.int (0 : Int32))] [(.int (1 : Int32))])) (fun t k => XS.iconst X6.here hx rfl (hb hby d13_58) k) ?_
  refine own_step (T' := T6) (f' := (mkF m 63 #[.val (.ref a1), .val (.ref a2), .val (.int (0 : Int32)), .val (.int (1 : Int32)), .val (.int (0 : Int32))] [(.int (1 : Int32))])) (fun t k => XS.goto X6.here hx rfl (pc0 := 59) (pc' := 63) rfl (hb hby d13_59) (by decide) (by decide) k) ?_
  refine own_step (T' := T6) (f' := (mkF m 64 #[.val (.ref a1), .val (.ref a2), .val (.int (0 : Int32)), .val (.int (1 : Int32)), .val (.int (0 : Int32))] [])) (fun t k => XS.istoreN X6.here hx rfl (hb hby d13_63) rfl (l' := #[.val (.ref a1), .val (.ref a2), .val (.int (0 : Int32)), .val (.int (1 : Int32)), .val (.int (0 : Int32))]) rfl k) ?_
  refine own_step (T' := T6) (f' := (mkF m 67 #[.val (.ref a1), .val (.ref a2), .val (.int (0 : Int32)), .val (.int (1 : Int32)), .val (.int (1 : Int32))] [])) (fun t k => XS.iinc X6.here hx rfl (hb hby d13_64) rfl (l' := #[.val (.ref a1), .val (.ref a2), .val (.int (0 : Int32)), .val (.int (1 : Int32)), .val (.int (1 : Int32))]) rfl k) ?_
  refine own_step (T' := T6) (f' := (mkF m 23 #[.val (.ref a1), .val (.ref a2), .val (.int (0 : Int32)), .val (.int (1 : Int32)), .val (.int (1 : Int32))] [])) (fun t k => XS.goto X6.here hx rfl (pc0 := 67) (pc' := 23) rfl (hb hby d13_67) (by decide) (by decide) k) ?_
  refine own_step (T' := T6) (f' := (mkF m 25 #[.val (.ref a1), .val (.ref a2), .val (.int (0 : Int32)), .val (.int (1 : Int32)), .val (.int (1 : Int32))] [(.int (1 : Int32))])) (fun t k => XS.iload X6.here hx rfl (hb hby d13_23) rfl k) ?_
  refine own_step (T' := T6) (f' := (mkF m 26 #[.val (.ref a1), .val (.ref a2), .val (.int (0 : Int32)), .val (.int (1 : Int32)), .val (.int (1 : Int32))] [(.ref a2), (.int (1 : Int32))])) (fun t k => XS.aloadN X6.here hx rfl (hb hby d13_25) rfl rfl k) ?_
  obtain ⟨cq7, kq7, q7a, q7b, q7c⟩ := isOf hZ E6 O2.1
  obtain ⟨_, _, ⟨T7, L7, k7, n7⟩, -, X7, ⟨Lc7, hQ7, l7, y7, z7⟩, st7⟩ := X6.virtualBack hx (y := (⟨"java/lang/String", "length", "()I"⟩ : MethodName)) (z := (⟨"java/lang/String", "length", "()I"⟩ : MethodName)) hown (mvT hZ (hw _ (List.mem_of_getElem? (i := 71) rfl))) (mvT hZ (hw _ (List.mem_of_getElem? (i := 72) rfl))) (notFace_of_selects (args := #[]) (mvT hZ (hw _ (List.mem_of_getElem? (i := 74) rfl)))) (mvT hZ (hw _ (List.mem_of_getElem? (i := 74) rfl))) (mvT hZ (hw _ (List.mem_of_getElem? (i := 73) rfl))) (by decide) (backOf (W := 1) (rm14_2 l Z a0 hw [] a2 h0 n0 Zz b kb y0 y1 O2 cs S_CS hcs) hZ (hw _ (List.mem_of_getElem? (i := 75) rfl)) (hw _ (List.mem_of_getElem? (i := 42) rfl)) (by decide) (by decide)) q7a q7c (g := (mkF m 26 #[.val (.ref a1), .val (.ref a2), .val (.int (0 : Int32)), .val (.int (1 : Int32)), .val (.int (1 : Int32))] [(.ref a2), (.int (1 : Int32))])) rfl (by rw [hml]; rfl) (Steps.refl _) (argsL := []) (rest := [(.int (1 : Int32))]) (lenOf pd_13_0 rfl) rfl (by show 2 * 0 + _ ≤ _; exact Nat.le_of_eq rfl) (hb hby d13_26) (fun _ _ => ⟨rfl, E6, (by decide : 0 + 0 ≤ _), (by decide : 0 + 0 ≤ _)⟩)
  dsimp only [Pt.U, Pt.locs, Pt.cells, Pt.slots] at X7 l7 y7 z7 st7 hQ7
  subst l7 y7 z7
  obtain ⟨rfl, N7q, E7⟩ := hQ7
  have N7 := Fr.app N6 N7q
  refine own_step (T' := T7) (f' := (mkF m 29 #[.val (.ref a1), .val (.ref a2), .val (.int (0 : Int32)), .val (.int (1 : Int32)), .val (.int (1 : Int32))] [(.int (2 : Int32)), (.int (1 : Int32))])) (fun t k => st7.trans k) ?_
  refine own_step (T' := T7) (f' := (mkF m 32 #[.val (.ref a1), .val (.ref a2), .val (.int (0 : Int32)), .val (.int (1 : Int32)), .val (.int (1 : Int32))] [])) (fun t k => XS.icmpNo X7.here hx rfl (hb hby d13_29) rfl (tlt (by decide : (1 : Int32) < (2 : Int32))).2.1 k) ?_
  refine own_step (T' := T7) (f' := (mkF m 33 #[.val (.ref a1), .val (.ref a2), .val (.int (0 : Int32)), .val (.int (1 : Int32)), .val (.int (1 : Int32))] [(.int (1 : Int32))])) (fun t k => XS.iloadN X7.here hx rfl (hb hby d13_32) rfl k) ?_
  refine own_step (T' := T7) (f' := (mkF m 36 #[.val (.ref a1), .val (.ref a2), .val (.int (0 : Int32)), .val (.int (1 : Int32)), .val (.int (1 : Int32))] [])) (fun t k => XS.ifNo X7.here hx rfl (hb hby d13_33) rfl ((if0 _ _).trans (feq (by decide : ¬ ((1 : Int32) = (0 : Int32)))).1) k) ?_
  refine own_step (T' := T7) (f' := (mkF m 37 #[.val (.ref a1), .val (.ref a2), .val (.int (0 : Int32)), .val (.int (1 : Int32)), .val (.int (1 : Int32))] [(.ref a1)])) (fun t k => XS.aloadN X7.here hx rfl (hb hby d13_36) rfl rfl k) ?_
  obtain ⟨T8, X8, e8, st8⟩ := getF X7 hx hZ hown (host := "") (Or.inl (hw _ (List.mem_of_getElem? (i := 18) rfl))) Via.refl E7 O.2.1 (g := (mkF m 37 #[.val (.ref a1), .val (.ref a2), .val (.int (0 : Int32)), .val (.int (1 : Int32)), .val (.int (1 : Int32))] [(.ref a1)])) rfl rfl (hb hby d13_37)
  refine own_step (T' := T8) (f' := (mkF m 40 #[.val (.ref a1), .val (.ref a2), .val (.int (0 : Int32)), .val (.int (1 : Int32)), .val (.int (1 : Int32))] [(.ref bv)])) (fun t k => st8 t k) ?_
  refine own_step (T' := T8) (f' := (mkF m 41 #[.val (.ref a1), .val (.ref a2), .val (.int (0 : Int32)), .val (.int (1 : Int32)), .val (.int (1 : Int32))] [(.int (0 : Int32)), (.ref bv)])) (fun t k => XS.iloadN X8.here hx rfl (hb hby d13_40) rfl k) ?_
  refine own_step (T' := T8) (f' := (mkF m 43 #[.val (.ref a1), .val (.ref a2), .val (.int (0 : Int32)), .val (.int (1 : Int32)), .val (.int (1 : Int32))] [(.int (1 : Int32)), (.int (0 : Int32)), (.ref bv)])) (fun t k => XS.iload X8.here hx rfl (hb hby d13_41) rfl k) ?_
  refine own_step (T' := T8) (f' := (mkF m 44 #[.val (.ref a1), .val (.ref a2), .val (.int (0 : Int32)), .val (.int (1 : Int32)), .val (.int (1 : Int32))] [(.int (1 : Int32)), (.ref bv)])) (fun t k => XS.iadd X8.here hx rfl (hb hby d13_43) rfl k) ?_
  obtain ⟨cl9, Ar9, q9, S9, M9, H9, G9⟩ := id V_bv
  have hin9 : ¬ ((1 : Int32) < 0 ∨ cl9.slots.size ≤ ((1 : Int32)).toNatClampNeg) := inb_of S9 ⟨by decide, by decide⟩
  have hat9 : cl9.slots[((1 : Int32)).toNatClampNeg]? = some (.int y1) := own_at hin9 H9 1 rfl rfl
  refine own_step (T' := T8) (f' := (mkF m 45 #[.val (.ref a1), .val (.ref a2), .val (.int (0 : Int32)), .val (.int (1 : Int32)), .val (.int (1 : Int32))] [(.int y1)])) (fun t k => X8.baloadBytes hx (j := (1 : Int32)) (v := (.int y1)) (by rw [e8]; exact Ar9.1) (State.isArrayOf_alike hZ.alike Ar9.2.1) Ar9.2.2 hin9 hat9 (g := (mkF m 44 #[.val (.ref a1), .val (.ref a2), .val (.int (0 : Int32)), .val (.int (1 : Int32)), .val (.int (1 : Int32))] [(.int (1 : Int32)), (.ref bv)])) rfl rfl (hb hby d13_44) _ k) ?_
  refine own_step (T' := T8) (f' := (mkF m 48 #[.val (.ref a1), .val (.ref a2), .val (.int (0 : Int32)), .val (.int (1 : Int32)), .val (.int (1 : Int32))] [(.int (255 : Int32)), (.int y1)])) (fun t k => XS.sipush X8.here hx rfl (hb hby d13_45) k) ?_
  refine own_step (T' := T8) (f' := (mkF m 49 #[.val (.ref a1), .val (.ref a2), .val (.int (0 : Int32)), .val (.int (1 : Int32)), .val (.int (1 : Int32))] [(.int (y1 &&& (255 : Int32)))])) (fun t k => XS.iand X8.here hx rfl (hb hby d13_48) rfl k) ?_
  refine own_step (T' := T8) (f' := (mkF m 50 #[.val (.ref a1), .val (.ref a2), .val (.int (0 : Int32)), .val (.int (1 : Int32)), .val (.int (1 : Int32))] [(.ref a2), (.int (y1 &&& (255 : Int32)))])) (fun t k => XS.aloadN X8.here hx rfl (hb hby d13_49) rfl rfl k) ?_
  refine own_step (T' := T8) (f' := (mkF m 52 #[.val (.ref a1), .val (.ref a2), .val (.int (0 : Int32)), .val (.int (1 : Int32)), .val (.int (1 : Int32))] [(.int (1 : Int32)), (.ref a2), (.int (y1 &&& (255 : Int32)))])) (fun t k => XS.iload X8.here hx rfl (hb hby d13_50) rfl k) ?_
  obtain ⟨cq10, kq10, q10a, q10b, q10c⟩ := isOf hZ e8 O2.1
  obtain ⟨_, _, ⟨T10, L10, k10, n10⟩, -, X10, ⟨Lc10, hQ10, l10, y10, z10⟩, st10⟩ := X8.virtualBack hx (y := (⟨"java/lang/String", "charAt", "(I)C"⟩ : MethodName)) (z := (⟨"java/lang/String", "charAt", "(I)C"⟩ : MethodName)) hown (mvT hZ (hw _ (List.mem_of_getElem? (i := 81) rfl))) (mvT hZ (hw _ (List.mem_of_getElem? (i := 82) rfl))) (notFace_of_selects (args := #[]) (mvT hZ (hw _ (List.mem_of_getElem? (i := 84) rfl)))) (mvT hZ (hw _ (List.mem_of_getElem? (i := 84) rfl))) (mvT hZ (hw _ (List.mem_of_getElem? (i := 83) rfl))) (by decide) (backOf (W := 1) (rm16_2_1 l Z a0 hw [] a2 h0 n0 Zz b kb y0 y1 O2 cs S_CS hcs fm S_FM hfc hfr) hZ (hw _ (List.mem_of_getElem? (i := 85) rfl)) (hw _ (List.mem_of_getElem? (i := 42) rfl)) (by decide) (by decide)) q10a q10c (g := (mkF m 52 #[.val (.ref a1), .val (.ref a2), .val (.int (0 : Int32)), .val (.int (1 : Int32)), .val (.int (1 : Int32))] [(.int (1 : Int32)), (.ref a2), (.int (y1 &&& (255 : Int32)))])) rfl (by rw [hml]; rfl) (Steps.refl _) (argsL := [(.int (1 : Int32))]) (rest := [(.int (y1 &&& (255 : Int32)))]) (lenOf pd_13_1 rfl) rfl (by show 2 * 0 + _ ≤ _; exact Nat.le_of_eq rfl) (hb hby d13_52) (fun _ _ => ⟨rfl, e8, (by decide : 0 + 0 ≤ _), (by decide : 0 + 0 ≤ _)⟩)
  dsimp only [Pt.U, Pt.locs, Pt.cells, Pt.slots] at X10 l10 y10 z10 st10 hQ10
  subst l10 y10 z10
  obtain ⟨rfl, N10q, E10⟩ := hQ10
  have N10 := Fr.app N7 N10q
  refine own_step (T' := T10) (f' := (mkF m 55 #[.val (.ref a1), .val (.ref a2), .val (.int (0 : Int32)), .val (.int (1 : Int32)), .val (.int (1 : Int32))] [(.int (own_ch y1)), (.int (y1 &&& (255 : Int32)))])) (fun t k => st10.trans k) ?_
  refine own_step (T' := T10) (f' := (mkF m 58 #[.val (.ref a1), .val (.ref a2), .val (.int (0 : Int32)), .val (.int (1 : Int32)), .val (.int (1 : Int32))] [])) (fun t k => XS.icmpNo X10.here hx rfl (hb hby d13_55) rfl (teq (own_che _).symm).2 k) ?_
  refine own_step (T' := T10) (f' := (mkF m 59 #[.val (.ref a1), .val (.ref a2), .val (.int (0 : Int32)), .val (.int (1 : Int32)), .val (.int (1 : Int32))] [(.int (1 : Int32))])) (fun t k => XS.iconst X10.here hx rfl (hb hby d13_58) k) ?_
  refine own_step (T' := T10) (f' := (mkF m 63 #[.val (.ref a1), .val (.ref a2), .val (.int (0 : Int32)), .val (.int (1 : Int32)), .val (.int (1 : Int32))] [(.int (1 : Int32))])) (fun t k => XS.goto X10.here hx rfl (pc0 := 59) (pc' := 63) rfl (hb hby d13_59) (by decide) (by decide) k) ?_
  refine own_step (T' := T10) (f' := (mkF m 64 #[.val (.ref a1), .val (.ref a2), .val (.int (0 : Int32)), .val (.int (1 : Int32)), .val (.int (1 : Int32))] [])) (fun t k => XS.istoreN X10.here hx rfl (hb hby d13_63) rfl (l' := #[.val (.ref a1), .val (.ref a2), .val (.int (0 : Int32)), .val (.int (1 : Int32)), .val (.int (1 : Int32))]) rfl k) ?_
  refine own_step (T' := T10) (f' := (mkF m 67 #[.val (.ref a1), .val (.ref a2), .val (.int (0 : Int32)), .val (.int (1 : Int32)), .val (.int (2 : Int32))] [])) (fun t k => XS.iinc X10.here hx rfl (hb hby d13_64) rfl (l' := #[.val (.ref a1), .val (.ref a2), .val (.int (0 : Int32)), .val (.int (1 : Int32)), .val (.int (2 : Int32))]) rfl k) ?_
  refine own_step (T' := T10) (f' := (mkF m 23 #[.val (.ref a1), .val (.ref a2), .val (.int (0 : Int32)), .val (.int (1 : Int32)), .val (.int (2 : Int32))] [])) (fun t k => XS.goto X10.here hx rfl (pc0 := 67) (pc' := 23) rfl (hb hby d13_67) (by decide) (by decide) k) ?_
  refine own_step (T' := T10) (f' := (mkF m 25 #[.val (.ref a1), .val (.ref a2), .val (.int (0 : Int32)), .val (.int (1 : Int32)), .val (.int (2 : Int32))] [(.int (2 : Int32))])) (fun t k => XS.iload X10.here hx rfl (hb hby d13_23) rfl k) ?_
  refine own_step (T' := T10) (f' := (mkF m 26 #[.val (.ref a1), .val (.ref a2), .val (.int (0 : Int32)), .val (.int (1 : Int32)), .val (.int (2 : Int32))] [(.ref a2), (.int (2 : Int32))])) (fun t k => XS.aloadN X10.here hx rfl (hb hby d13_25) rfl rfl k) ?_
  obtain ⟨cq11, kq11, q11a, q11b, q11c⟩ := isOf hZ E10 O2.1
  obtain ⟨_, _, ⟨T11, L11, k11, n11⟩, -, X11, ⟨Lc11, hQ11, l11, y11, z11⟩, st11⟩ := X10.virtualBack hx (y := (⟨"java/lang/String", "length", "()I"⟩ : MethodName)) (z := (⟨"java/lang/String", "length", "()I"⟩ : MethodName)) hown (mvT hZ (hw _ (List.mem_of_getElem? (i := 71) rfl))) (mvT hZ (hw _ (List.mem_of_getElem? (i := 72) rfl))) (notFace_of_selects (args := #[]) (mvT hZ (hw _ (List.mem_of_getElem? (i := 74) rfl)))) (mvT hZ (hw _ (List.mem_of_getElem? (i := 74) rfl))) (mvT hZ (hw _ (List.mem_of_getElem? (i := 73) rfl))) (by decide) (backOf (W := 1) (rm14_2 l Z a0 hw [] a2 h0 n0 Zz b kb y0 y1 O2 cs S_CS hcs) hZ (hw _ (List.mem_of_getElem? (i := 75) rfl)) (hw _ (List.mem_of_getElem? (i := 42) rfl)) (by decide) (by decide)) q11a q11c (g := (mkF m 26 #[.val (.ref a1), .val (.ref a2), .val (.int (0 : Int32)), .val (.int (1 : Int32)), .val (.int (2 : Int32))] [(.ref a2), (.int (2 : Int32))])) rfl (by rw [hml]; rfl) (Steps.refl _) (argsL := []) (rest := [(.int (2 : Int32))]) (lenOf pd_13_0 rfl) rfl (by show 2 * 0 + _ ≤ _; exact Nat.le_of_eq rfl) (hb hby d13_26) (fun _ _ => ⟨rfl, E10, (by decide : 0 + 0 ≤ _), (by decide : 0 + 0 ≤ _)⟩)
  dsimp only [Pt.U, Pt.locs, Pt.cells, Pt.slots] at X11 l11 y11 z11 st11 hQ11
  subst l11 y11 z11
  obtain ⟨rfl, N11q, E11⟩ := hQ11
  have N11 := Fr.app N10 N11q
  refine own_step (T' := T11) (f' := (mkF m 29 #[.val (.ref a1), .val (.ref a2), .val (.int (0 : Int32)), .val (.int (1 : Int32)), .val (.int (2 : Int32))] [(.int (2 : Int32)), (.int (2 : Int32))])) (fun t k => st11.trans k) ?_
  refine own_step (T' := T11) (f' := (mkF m 70 #[.val (.ref a1), .val (.ref a2), .val (.int (0 : Int32)), .val (.int (1 : Int32)), .val (.int (2 : Int32))] [])) (fun t k => XS.icmpYes X11.here hx rfl (pc0 := 29) (pc' := 70) rfl (hb hby d13_29) rfl (flt (by decide : ¬ ((2 : Int32) < (2 : Int32)))).2.1 (by decide) (by decide) k) ?_
  refine own_step (T' := T11) (f' := (mkF m 71 #[.val (.ref a1), .val (.ref a2), .val (.int (0 : Int32)), .val (.int (1 : Int32)), .val (.int (2 : Int32))] [(.int (1 : Int32))])) (fun t k => XS.iloadN X11.here hx rfl (hb hby d13_70) rfl k) ?_
  exact own_retN X11 hx hlk (t := .boolean) Bd.returns (by simp) (hb hby d13_71) (by decide) (by decide) ⟨rfl, N11, E11⟩

def Q9_2 (Z : State) (a1 : Addr) (c0 c1 : Int32) (h0 : Heap) (n0 : Nat) (v : Option Value) (h : Heap) (L : List Loc) : Prop := v = none ∧ Fr n0 L ∧ Keep h0 h [a1] ∧ ∃ (b : Addr) (k : ClassId), OwnStr Z h a1 b k 2 [(.int (own_sb c0)), (.int (own_sb c1))]
def Q7_2 (Z : State) (c0 c1 : Int32) (h0 : Heap) (n0 : Nat) (v : Option Value) (h : Heap) (L : List Loc) : Prop := ∃ (r b : Addr) (k : ClassId), v = some (.ref r) ∧ Fr n0 L ∧ Keep h0 h [] ∧ OwnStr Z h r b k 2 [(.int (own_sb c0)), (.int (own_sb c1))]
def Q11_2 (Z : State) (a3 : Addr) (kb : ClassId) (c0 c1 : Int32) (h0 : Heap) (n0 : Nat) (v : Option Value) (h : Heap) (L : List Loc) : Prop := v = some (.int 2) ∧ Fr n0 L ∧ Keep h0 h [a3] ∧ Arv Z h a3 kb .byte (2 : Int32) [(.int (own_sb c0)), (.int (own_sb c1))] (.int (0 : Int32))
theorem ef_rm11_2 (m : MethodId) (x0 : Addr) (x1 : Int32) (x2 : Addr) (x3 : Int32) (x4 : Int32) : entryFrame m #[(.ref x0), (.int x1), (.ref x2), (.int x3), (.int x4)] 7 = mkF m 0 #[.val (.ref x0), .val (.int x1), .val (.ref x2), .val (.int x3), .val (.int x4), .unset, .unset] [] := by first | (simp [entryFrame, mkF, argsToLocals, Value.category]; done) | rfl
set_option maxRecDepth 65536 in
set_option maxHeartbeats 40000000 in
theorem rm11_2 (l : Launch) (Z : State) (a0 : Array Value) (hw : ∀ d ∈ tables_1, d.before a0 Z = true) (ws : List Jvm.Cond) (a1 : Addr) (a3 : Addr) (h0 : Heap) (n0 : Nat) (Z0 : n0 ≤ h0.size) (kc kb : ClassId) (c0 c1 : Int32) (hC0 : OwnC c0) (hC1 : OwnC c1) (V_a1 : Arv Z h0 a1 kc .char (2 : Int32) [(.int c0), (.int c1)] (.int (0 : Int32))) (V_a3 : Arv Z h0 a3 kb .byte (2 : Int32) [(.int (0 : Int32)), (.int (0 : Int32))] (.int (0 : Int32))) (ne13 : a1 ≠ a3) (g_a3 : n0 ≤ a3) :
    MetFree l (⟨"java/lang/StringUTF16", "compress", "([CI[BII)I"⟩ : MethodName) (head1 (Jvm.Cond.code (⟨"java/lang/StringUTF16", "compress", "([CI[BII)I"⟩ : MethodName) jdk_52_method_21_code 7 (some .int) :: ws) ({ frames := 0, cells := 0, slots := 0, locals := 0 } : Room)) (fun a U => a = #[(.ref a1), (.int (0 : Int32)), (.ref a3), (.int (0 : Int32)), (.int (2 : Int32))] ∧ Z.Warmed39 U.vm ∧ U.heap = h0) (fun _ _ _ _ _ => True) (fun _ U o U' => ∃ v L, o = .returned v ∧ Q11_2 Z a3 kb c0 c1 h0 n0 v U'.heap L ∧ FrameEnd U o U' L ({ frames := 0, cells := 0, slots := 0, locals := 0 } : Room).cells ({ frames := 0, cells := 0, slots := 0, locals := 0 } : Room).slots) := by
  refine MetFree.of_bodySF (plainFor_of_name pn_11) hisR ?_
  intro p e s m args below meth c s₁ Bd hml0 hP hK
  obtain ⟨rfl, hZ, hh⟩ := hP
  have hx := Bd.exec
  have hby := Bd.bytes
  have hlk : meth.locks = false := BodyLoose.notSynchronized Bd
  have hml : c.maxLocals = 7 := hml0
  have hown : s.vm.findClass "java/lang/StringUTF16" = some m.cls := findClass_of_methodNamed Bd.named
  have hnm := (name_of_methodNamed Bd.named Bd.method).1
  have X0 : Stand p l e ({ frames := 0, cells := 0, slots := 0, locals := 0 } : Room) s m #[(.ref a1), (.int (0 : Int32)), (.ref a3), (.int (0 : Int32)), (.int (2 : Int32))] below meth c s₁ [] 0 0 := Stand.of_body Bd
  have e0 : s₁.heap = h0 := by rw [← hh, Bd.state]; rfl
  have N0 := Fr.nil n0
  have Zz := Z0
  have Kp : Keep h0 h0 [a3] := Keep.refl _ _
  show OwnEnds p e below s (Q11_2 Z a3 kb c0 c1 h0 n0) ({ frames := 0, cells := 0, slots := 0, locals := 0 } : Room).cells ({ frames := 0, cells := 0, slots := 0, locals := 0 } : Room).slots s₁ (entryFrame m #[(.ref a1), (.int (0 : Int32)), (.ref a3), (.int (0 : Int32)), (.int (2 : Int32))] 7)
  refine own_step (T' := s₁) (f' := (mkF m 0 #[.val (.ref a1), .val (.int (0 : Int32)), .val (.ref a3), .val (.int (0 : Int32)), .val (.int (2 : Int32)), .unset, .unset] [])) (fun t k => castTop (ef_rm11_2 m a1 (0 : Int32) a3 (0 : Int32) (2 : Int32)) k) ?_
  refine own_step (T' := s₁) (f' := (mkF m 1 #[.val (.ref a1), .val (.int (0 : Int32)), .val (.ref a3), .val (.int (0 : Int32)), .val (.int (2 : Int32)), .unset, .unset] [(.int (0 : Int32))])) (fun t k => XS.iconst X0.here hx rfl (hb hby d11_0) k) ?_
  refine own_step (T' := s₁) (f' := (mkF m 3 #[.val (.ref a1), .val (.int (0 : Int32)), .val (.ref a3), .val (.int (0 : Int32)), .val (.int (2 : Int32)), .val (.int (0 : Int32)), .unset] [])) (fun t k => XS.istore X0.here hx rfl (hb hby d11_1) rfl (l' := #[.val (.ref a1), .val (.int (0 : Int32)), .val (.ref a3), .val (.int (0 : Int32)), .val (.int (2 : Int32)), .val (.int (0 : Int32)), .unset]) rfl k) ?_
  refine own_step (T' := s₁) (f' := (mkF m 5 #[.val (.ref a1), .val (.int (0 : Int32)), .val (.ref a3), .val (.int (0 : Int32)), .val (.int (2 : Int32)), .val (.int (0 : Int32)), .unset] [(.int (0 : Int32))])) (fun t k => XS.iload X0.here hx rfl (hb hby d11_3) rfl k) ?_
  refine own_step (T' := s₁) (f' := (mkF m 7 #[.val (.ref a1), .val (.int (0 : Int32)), .val (.ref a3), .val (.int (0 : Int32)), .val (.int (2 : Int32)), .val (.int (0 : Int32)), .unset] [(.int (2 : Int32)), (.int (0 : Int32))])) (fun t k => XS.iload X0.here hx rfl (hb hby d11_5) rfl k) ?_
  refine own_step (T' := s₁) (f' := (mkF m 10 #[.val (.ref a1), .val (.int (0 : Int32)), .val (.ref a3), .val (.int (0 : Int32)), .val (.int (2 : Int32)), .val (.int (0 : Int32)), .unset] [])) (fun t k => XS.icmpNo X0.here hx rfl (hb hby d11_7) rfl (tlt (by decide : (0 : Int32) < (2 : Int32))).2.1 k) ?_
  refine own_step (T' := s₁) (f' := (mkF m 11 #[.val (.ref a1), .val (.int (0 : Int32)), .val (.ref a3), .val (.int (0 : Int32)), .val (.int (2 : Int32)), .val (.int (0 : Int32)), .unset] [(.ref a1)])) (fun t k => XS.aloadN X0.here hx rfl (hb hby d11_10) rfl rfl k) ?_
  refine own_step (T' := s₁) (f' := (mkF m 12 #[.val (.ref a1), .val (.int (0 : Int32)), .val (.ref a3), .val (.int (0 : Int32)), .val (.int (2 : Int32)), .val (.int (0 : Int32)), .unset] [(.int (0 : Int32)), (.ref a1)])) (fun t k => XS.iloadN X0.here hx rfl (hb hby d11_11) rfl k) ?_
  obtain ⟨cl1, Ar1, q1, S1, M1, H1, G1⟩ := id V_a1
  have hin1 : ¬ ((0 : Int32) < 0 ∨ cl1.slots.size ≤ ((0 : Int32)).toNatClampNeg) := inb_of S1 ⟨by decide, by decide⟩
  have hat1 : cl1.slots[((0 : Int32)).toNatClampNeg]? = some (.int c0) := own_at hin1 H1 0 rfl rfl
  refine own_step (T' := s₁) (f' := (mkF m 13 #[.val (.ref a1), .val (.int (0 : Int32)), .val (.ref a3), .val (.int (0 : Int32)), .val (.int (2 : Int32)), .val (.int (0 : Int32)), .unset] [(.int c0)])) (fun t k => X0.caload hx (j := (0 : Int32)) (v := (.int c0)) (by rw [e0]; exact Ar1.1) (State.isArrayOf_alike hZ.alike Ar1.2.1) Ar1.2.2 hin1 hat1 (g := (mkF m 12 #[.val (.ref a1), .val (.int (0 : Int32)), .val (.ref a3), .val (.int (0 : Int32)), .val (.int (2 : Int32)), .val (.int (0 : Int32)), .unset] [(.int (0 : Int32)), (.ref a1)])) rfl rfl (hb hby d11_12) _ k) ?_
  refine own_step (T' := s₁) (f' := (mkF m 15 #[.val (.ref a1), .val (.int (0 : Int32)), .val (.ref a3), .val (.int (0 : Int32)), .val (.int (2 : Int32)), .val (.int (0 : Int32)), .val (.int c0)] [])) (fun t k => XS.istore X0.here hx rfl (hb hby d11_13) rfl (l' := #[.val (.ref a1), .val (.int (0 : Int32)), .val (.ref a3), .val (.int (0 : Int32)), .val (.int (2 : Int32)), .val (.int (0 : Int32)), .val (.int c0)]) rfl k) ?_
  refine own_step (T' := s₁) (f' := (mkF m 17 #[.val (.ref a1), .val (.int (0 : Int32)), .val (.ref a3), .val (.int (0 : Int32)), .val (.int (2 : Int32)), .val (.int (0 : Int32)), .val (.int c0)] [(.int c0)])) (fun t k => XS.iload X0.here hx rfl (hb hby d11_15) rfl k) ?_
  refine own_step (T' := s₁) (f' := (mkF m 20 #[.val (.ref a1), .val (.int (0 : Int32)), .val (.ref a3), .val (.int (0 : Int32)), .val (.int (2 : Int32)), .val (.int (0 : Int32)), .val (.int c0)] [(.int (255 : Int32)), (.int c0)])) (fun t k => XS.sipush X0.here hx rfl (hb hby d11_17) k) ?_
  refine own_step (T' := s₁) (f' := (mkF m 26 #[.val (.ref a1), .val (.int (0 : Int32)), .val (.ref a3), .val (.int (0 : Int32)), .val (.int (2 : Int32)), .val (.int (0 : Int32)), .val (.int c0)] [])) (fun t k => XS.icmpYes X0.here hx rfl (pc0 := 20) (pc' := 26) rfl (hb hby d11_20) rfl (flt (own_c255 hC0)).2.2.2 (by decide) (by decide) k) ?_
  refine own_step (T' := s₁) (f' := (mkF m 27 #[.val (.ref a1), .val (.int (0 : Int32)), .val (.ref a3), .val (.int (0 : Int32)), .val (.int (2 : Int32)), .val (.int (0 : Int32)), .val (.int c0)] [(.ref a3)])) (fun t k => XS.aloadN X0.here hx rfl (hb hby d11_26) rfl rfl k) ?_
  refine own_step (T' := s₁) (f' := (mkF m 28 #[.val (.ref a1), .val (.int (0 : Int32)), .val (.ref a3), .val (.int (0 : Int32)), .val (.int (2 : Int32)), .val (.int (0 : Int32)), .val (.int c0)] [(.int (0 : Int32)), (.ref a3)])) (fun t k => XS.iloadN X0.here hx rfl (hb hby d11_27) rfl k) ?_
  refine own_step (T' := s₁) (f' := (mkF m 30 #[.val (.ref a1), .val (.int (0 : Int32)), .val (.ref a3), .val (.int (0 : Int32)), .val (.int (2 : Int32)), .val (.int (0 : Int32)), .val (.int c0)] [(.int c0), (.int (0 : Int32)), (.ref a3)])) (fun t k => XS.iload X0.here hx rfl (hb hby d11_28) rfl k) ?_
  refine own_step (T' := s₁) (f' := (mkF m 31 #[.val (.ref a1), .val (.int (0 : Int32)), .val (.ref a3), .val (.int (0 : Int32)), .val (.int (2 : Int32)), .val (.int (0 : Int32)), .val (.int c0)] [(.int (c0.toInt8.toInt32)), (.int (0 : Int32)), (.ref a3)])) (fun t k => XS.i2b X0.here hx rfl (hb hby d11_30) rfl k) ?_
  obtain ⟨cl2, Ar2, q2, S2, M2, H2, G2⟩ := V_a3
  have hin2 : ¬ ((0 : Int32) < 0 ∨ cl2.slots.size ≤ ((0 : Int32)).toNatClampNeg) := inb_of S2 ⟨by decide, by decide⟩
  obtain ⟨T2, h2, X2, e2, W2, st2⟩ := stB X0 hx hZ e0 Ar2 (j := (0 : Int32)) hin2 (g := (mkF m 31 #[.val (.ref a1), .val (.int (0 : Int32)), .val (.ref a3), .val (.int (0 : Int32)), .val (.int (2 : Int32)), .val (.int (0 : Int32)), .val (.int c0)] [(.int (c0.toInt8.toInt32)), (.int (0 : Int32)), (.ref a3)])) rfl rfl (hb hby d11_31)
  have V_a3 : Arv Z h2 a3 kb .byte (2 : Int32) [(.int (own_sb c0)), (.int (0 : Int32))] (.int (0 : Int32)) := Arv.set Ar2 q2 S2 M2 H2 G2 (fits_nar_byte _) W2 0 rfl (Nat.le_of_ble_eq_true rfl)
  replace V_a1 := V_a1.other W2 ne13
  replace Zz := Nat.le_trans Zz (Keep.of_wr W2).1
  replace Kp := Kp.wr W2 (Or.inl (List.mem_of_getElem? (i := 0) rfl))
  have N2 := Fr.snoc X2 N0 g_a3
  refine own_step (T' := T2) (f' := (mkF m 32 #[.val (.ref a1), .val (.int (0 : Int32)), .val (.ref a3), .val (.int (0 : Int32)), .val (.int (2 : Int32)), .val (.int (0 : Int32)), .val (.int c0)] [])) (fun t k => st2 t k) ?_
  refine own_step (T' := T2) (f' := (mkF m 35 #[.val (.ref a1), .val (.int (1 : Int32)), .val (.ref a3), .val (.int (0 : Int32)), .val (.int (2 : Int32)), .val (.int (0 : Int32)), .val (.int c0)] [])) (fun t k => XS.iinc X2.here hx rfl (hb hby d11_32) rfl (l' := #[.val (.ref a1), .val (.int (1 : Int32)), .val (.ref a3), .val (.int (0 : Int32)), .val (.int (2 : Int32)), .val (.int (0 : Int32)), .val (.int c0)]) rfl k) ?_
  refine own_step (T' := T2) (f' := (mkF m 38 #[.val (.ref a1), .val (.int (1 : Int32)), .val (.ref a3), .val (.int (1 : Int32)), .val (.int (2 : Int32)), .val (.int (0 : Int32)), .val (.int c0)] [])) (fun t k => XS.iinc X2.here hx rfl (hb hby d11_35) rfl (l' := #[.val (.ref a1), .val (.int (1 : Int32)), .val (.ref a3), .val (.int (1 : Int32)), .val (.int (2 : Int32)), .val (.int (0 : Int32)), .val (.int c0)]) rfl k) ?_
  refine own_step (T' := T2) (f' := (mkF m 41 #[.val (.ref a1), .val (.int (1 : Int32)), .val (.ref a3), .val (.int (1 : Int32)), .val (.int (2 : Int32)), .val (.int (1 : Int32)), .val (.int c0)] [])) (fun t k => XS.iinc X2.here hx rfl (hb hby d11_38) rfl (l' := #[.val (.ref a1), .val (.int (1 : Int32)), .val (.ref a3), .val (.int (1 : Int32)), .val (.int (2 : Int32)), .val (.int (1 : Int32)), .val (.int c0)]) rfl k) ?_
  refine own_step (T' := T2) (f' := (mkF m 3 #[.val (.ref a1), .val (.int (1 : Int32)), .val (.ref a3), .val (.int (1 : Int32)), .val (.int (2 : Int32)), .val (.int (1 : Int32)), .val (.int c0)] [])) (fun t k => XS.goto X2.here hx rfl (pc0 := 41) (pc' := 3) rfl (hb hby d11_41) (by decide) (by decide) k) ?_
  refine own_step (T' := T2) (f' := (mkF m 5 #[.val (.ref a1), .val (.int (1 : Int32)), .val (.ref a3), .val (.int (1 : Int32)), .val (.int (2 : Int32)), .val (.int (1 : Int32)), .val (.int c0)] [(.int (1 : Int32))])) (fun t k => XS.iload X2.here hx rfl (hb hby d11_3) rfl k) ?_
  refine own_step (T' := T2) (f' := (mkF m 7 #[.val (.ref a1), .val (.int (1 : Int32)), .val (.ref a3), .val (.int (1 : Int32)), .val (.int (2 : Int32)), .val (.int (1 : Int32)), .val (.int c0)] [(.int (2 : Int32)), (.int (1 : Int32))])) (fun t k => XS.iload X2.here hx rfl (hb hby d11_5) rfl k) ?_
  refine own_step (T' := T2) (f' := (mkF m 10 #[.val (.ref a1), .val (.int (1 : Int32)), .val (.ref a3), .val (.int (1 : Int32)), .val (.int (2 : Int32)), .val (.int (1 : Int32)), .val (.int c0)] [])) (fun t k => XS.icmpNo X2.here hx rfl (hb hby d11_7) rfl (tlt (by decide : (1 : Int32) < (2 : Int32))).2.1 k) ?_
  refine own_step (T' := T2) (f' := (mkF m 11 #[.val (.ref a1), .val (.int (1 : Int32)), .val (.ref a3), .val (.int (1 : Int32)), .val (.int (2 : Int32)), .val (.int (1 : Int32)), .val (.int c0)] [(.ref a1)])) (fun t k => XS.aloadN X2.here hx rfl (hb hby d11_10) rfl rfl k) ?_
  refine own_step (T' := T2) (f' := (mkF m 12 #[.val (.ref a1), .val (.int (1 : Int32)), .val (.ref a3), .val (.int (1 : Int32)), .val (.int (2 : Int32)), .val (.int (1 : Int32)), .val (.int c0)] [(.int (1 : Int32)), (.ref a1)])) (fun t k => XS.iloadN X2.here hx rfl (hb hby d11_11) rfl k) ?_
  obtain ⟨cl3, Ar3, q3, S3, M3, H3, G3⟩ := id V_a1
  have hin3 : ¬ ((1 : Int32) < 0 ∨ cl3.slots.size ≤ ((1 : Int32)).toNatClampNeg) := inb_of S3 ⟨by decide, by decide⟩
  have hat3 : cl3.slots[((1 : Int32)).toNatClampNeg]? = some (.int c1) := own_at hin3 H3 1 rfl rfl
  refine own_step (T' := T2) (f' := (mkF m 13 #[.val (.ref a1), .val (.int (1 : Int32)), .val (.ref a3), .val (.int (1 : Int32)), .val (.int (2 : Int32)), .val (.int (1 : Int32)), .val (.int c0)] [(.int c1)])) (fun t k => X2.caload hx (j := (1 : Int32)) (v := (.int c1)) (by rw [e2]; exact Ar3.1) (State.isArrayOf_alike hZ.alike Ar3.2.1) Ar3.2.2 hin3 hat3 (g := (mkF m 12 #[.val (.ref a1), .val (.int (1 : Int32)), .val (.ref a3), .val (.int (1 : Int32)), .val (.int (2 : Int32)), .val (.int (1 : Int32)), .val (.int c0)] [(.int (1 : Int32)), (.ref a1)])) rfl rfl (hb hby d11_12) _ k) ?_
  refine own_step (T' := T2) (f' := (mkF m 15 #[.val (.ref a1), .val (.int (1 : Int32)), .val (.ref a3), .val (.int (1 : Int32)), .val (.int (2 : Int32)), .val (.int (1 : Int32)), .val (.int c1)] [])) (fun t k => XS.istore X2.here hx rfl (hb hby d11_13) rfl (l' := #[.val (.ref a1), .val (.int (1 : Int32)), .val (.ref a3), .val (.int (1 : Int32)), .val (.int (2 : Int32)), .val (.int (1 : Int32)), .val (.int c1)]) rfl k) ?_
  refine own_step (T' := T2) (f' := (mkF m 17 #[.val (.ref a1), .val (.int (1 : Int32)), .val (.ref a3), .val (.int (1 : Int32)), .val (.int (2 : Int32)), .val (.int (1 : Int32)), .val (.int c1)] [(.int c1)])) (fun t k => XS.iload X2.here hx rfl (hb hby d11_15) rfl k) ?_
  refine own_step (T' := T2) (f' := (mkF m 20 #[.val (.ref a1), .val (.int (1 : Int32)), .val (.ref a3), .val (.int (1 : Int32)), .val (.int (2 : Int32)), .val (.int (1 : Int32)), .val (.int c1)] [(.int (255 : Int32)), (.int c1)])) (fun t k => XS.sipush X2.here hx rfl (hb hby d11_17) k) ?_
  refine own_step (T' := T2) (f' := (mkF m 26 #[.val (.ref a1), .val (.int (1 : Int32)), .val (.ref a3), .val (.int (1 : Int32)), .val (.int (2 : Int32)), .val (.int (1 : Int32)), .val (.int c1)] [])) (fun t k => XS.icmpYes X2.here hx rfl (pc0 := 20) (pc' := 26) rfl (hb hby d11_20) rfl (flt (own_c255 hC1)).2.2.2 (by decide) (by decide) k) ?_
  refine own_step (T' := T2) (f' := (mkF m 27 #[.val (.ref a1), .val (.int (1 : Int32)), .val (.ref a3), .val (.int (1 : Int32)), .val (.int (2 : Int32)), .val (.int (1 : Int32)), .val (.int c1)] [(.ref a3)])) (fun t k => XS.aloadN X2.here hx rfl (hb hby d11_26) rfl rfl k) ?_
  refine own_step (T' := T2) (f' := (mkF m 28 #[.val (.ref a1), .val (.int (1 : Int32)), .val (.ref a3), .val (.int (1 : Int32)), .val (.int (2 : Int32)), .val (.int (1 : Int32)), .val (.int c1)] [(.int (1 : Int32)), (.ref a3)])) (fun t k => XS.iloadN X2.here hx rfl (hb hby d11_27) rfl k) ?_
  refine own_step (T' := T2) (f' := (mkF m 30 #[.val (.ref a1), .val (.int (1 : Int32)), .val (.ref a3), .val (.int (1 : Int32)), .val (.int (2 : Int32)), .val (.int (1 : Int32)), .val (.int c1)] [(.int c1), (.int (1 : Int32)), (.ref a3)])) (fun t k => XS.iload X2.here hx rfl (hb hby d11_28) rfl k) ?_
  refine own_step (T' := T2) (f' := (mkF m 31 #[.val (.ref a1), .val (.int (1 : Int32)), .val (.ref a3), .val (.int (1 : Int32)), .val (.int (2 : Int32)), .val (.int (1 : Int32)), .val (.int c1)] [(.int (c1.toInt8.toInt32)), (.int (1 : Int32)), (.ref a3)])) (fun t k => XS.i2b X2.here hx rfl (hb hby d11_30) rfl k) ?_
  obtain ⟨cl4, Ar4, q4, S4, M4, H4, G4⟩ := V_a3
  have hin4 : ¬ ((1 : Int32) < 0 ∨ cl4.slots.size ≤ ((1 : Int32)).toNatClampNeg) := inb_of S4 ⟨by decide, by decide⟩
  obtain ⟨T4, h4, X4, e4, W4, st4⟩ := stB X2 hx hZ e2 Ar4 (j := (1 : Int32)) hin4 (g := (mkF m 31 #[.val (.ref a1), .val (.int (1 : Int32)), .val (.ref a3), .val (.int (1 : Int32)), .val (.int (2 : Int32)), .val (.int (1 : Int32)), .val (.int c1)] [(.int (c1.toInt8.toInt32)), (.int (1 : Int32)), (.ref a3)])) rfl rfl (hb hby d11_31)
  have V_a3 : Arv Z h4 a3 kb .byte (2 : Int32) [(.int (own_sb c0)), (.int (own_sb c1))] (.int (0 : Int32)) := Arv.set Ar4 q4 S4 M4 H4 G4 (fits_nar_byte _) W4 1 rfl (Nat.le_of_ble_eq_true rfl)
  replace V_a1 := V_a1.other W4 ne13
  replace Zz := Nat.le_trans Zz (Keep.of_wr W4).1
  replace Kp := Kp.wr W4 (Or.inl (List.mem_of_getElem? (i := 0) rfl))
  have N4 := Fr.snoc X4 N2 g_a3
  refine own_step (T' := T4) (f' := (mkF m 32 #[.val (.ref a1), .val (.int (1 : Int32)), .val (.ref a3), .val (.int (1 : Int32)), .val (.int (2 : Int32)), .val (.int (1 : Int32)), .val (.int c1)] [])) (fun t k => st4 t k) ?_
  refine own_step (T' := T4) (f' := (mkF m 35 #[.val (.ref a1), .val (.int (2 : Int32)), .val (.ref a3), .val (.int (1 : Int32)), .val (.int (2 : Int32)), .val (.int (1 : Int32)), .val (.int c1)] [])) (fun t k => XS.iinc X4.here hx rfl (hb hby d11_32) rfl (l' := #[.val (.ref a1), .val (.int (2 : Int32)), .val (.ref a3), .val (.int (1 : Int32)), .val (.int (2 : Int32)), .val (.int (1 : Int32)), .val (.int c1)]) rfl k) ?_
  refine own_step (T' := T4) (f' := (mkF m 38 #[.val (.ref a1), .val (.int (2 : Int32)), .val (.ref a3), .val (.int (2 : Int32)), .val (.int (2 : Int32)), .val (.int (1 : Int32)), .val (.int c1)] [])) (fun t k => XS.iinc X4.here hx rfl (hb hby d11_35) rfl (l' := #[.val (.ref a1), .val (.int (2 : Int32)), .val (.ref a3), .val (.int (2 : Int32)), .val (.int (2 : Int32)), .val (.int (1 : Int32)), .val (.int c1)]) rfl k) ?_
  refine own_step (T' := T4) (f' := (mkF m 41 #[.val (.ref a1), .val (.int (2 : Int32)), .val (.ref a3), .val (.int (2 : Int32)), .val (.int (2 : Int32)), .val (.int (2 : Int32)), .val (.int c1)] [])) (fun t k => XS.iinc X4.here hx rfl (hb hby d11_38) rfl (l' := #[.val (.ref a1), .val (.int (2 : Int32)), .val (.ref a3), .val (.int (2 : Int32)), .val (.int (2 : Int32)), .val (.int (2 : Int32)), .val (.int c1)]) rfl k) ?_
  refine own_step (T' := T4) (f' := (mkF m 3 #[.val (.ref a1), .val (.int (2 : Int32)), .val (.ref a3), .val (.int (2 : Int32)), .val (.int (2 : Int32)), .val (.int (2 : Int32)), .val (.int c1)] [])) (fun t k => XS.goto X4.here hx rfl (pc0 := 41) (pc' := 3) rfl (hb hby d11_41) (by decide) (by decide) k) ?_
  refine own_step (T' := T4) (f' := (mkF m 5 #[.val (.ref a1), .val (.int (2 : Int32)), .val (.ref a3), .val (.int (2 : Int32)), .val (.int (2 : Int32)), .val (.int (2 : Int32)), .val (.int c1)] [(.int (2 : Int32))])) (fun t k => XS.iload X4.here hx rfl (hb hby d11_3) rfl k) ?_
  refine own_step (T' := T4) (f' := (mkF m 7 #[.val (.ref a1), .val (.int (2 : Int32)), .val (.ref a3), .val (.int (2 : Int32)), .val (.int (2 : Int32)), .val (.int (2 : Int32)), .val (.int c1)] [(.int (2 : Int32)), (.int (2 : Int32))])) (fun t k => XS.iload X4.here hx rfl (hb hby d11_5) rfl k) ?_
  refine own_step (T' := T4) (f' := (mkF m 44 #[.val (.ref a1), .val (.int (2 : Int32)), .val (.ref a3), .val (.int (2 : Int32)), .val (.int (2 : Int32)), .val (.int (2 : Int32)), .val (.int c1)] [])) (fun t k => XS.icmpYes X4.here hx rfl (pc0 := 7) (pc' := 44) rfl (hb hby d11_7) rfl (flt (by decide : ¬ ((2 : Int32) < (2 : Int32)))).2.1 (by decide) (by decide) k) ?_
  refine own_step (T' := T4) (f' := (mkF m 46 #[.val (.ref a1), .val (.int (2 : Int32)), .val (.ref a3), .val (.int (2 : Int32)), .val (.int (2 : Int32)), .val (.int (2 : Int32)), .val (.int c1)] [(.int (2 : Int32))])) (fun t k => XS.iload X4.here hx rfl (hb hby d11_44) rfl k) ?_
  exact own_retO X4 hx hlk Bd.returns rfl (Or.inl ⟨rfl, Or.inl rfl, _, rfl⟩) (hb hby d11_46) (by decide) (by decide) (by rw [e4]; exact ⟨rfl, N4, Kp, V_a3⟩)

def Q10_2 (Z : State) (c0 c1 : Int32) (h0 : Heap) (n0 : Nat) (v : Option Value) (h : Heap) (L : List Loc) : Prop := ∃ (b : Addr) (k : ClassId), v = some (.ref b) ∧ Fr n0 L ∧ Keep h0 h [] ∧ h0.size ≤ b ∧ Arv Z h b k .byte (2 : Int32) [(.int (own_sb c0)), (.int (own_sb c1))] (.int (0 : Int32))
theorem ef_rm10_2 (m : MethodId) (x0 : Addr) (x1 : Int32) (x2 : Int32) : entryFrame m #[(.ref x0), (.int x1), (.int x2)] 6 = mkF m 0 #[.val (.ref x0), .val (.int x1), .val (.int x2), .unset, .unset, .unset] [] := by first | (simp [entryFrame, mkF, argsToLocals, Value.category]; done) | rfl
set_option maxRecDepth 65536 in
set_option maxHeartbeats 40000000 in
theorem rm10_2 (l : Launch) (Z : State) (a0 : Array Value) (hw : ∀ d ∈ tables_1, d.before a0 Z = true) (ws : List Jvm.Cond) (a1 : Addr) (h0 : Heap) (n0 : Nat) (Z0 : n0 ≤ h0.size) (kc : ClassId) (c0 c1 : Int32) (hC0 : OwnC c0) (hC1 : OwnC c1) (V_a1 : Arv Z h0 a1 kc .char (2 : Int32) [(.int c0), (.int c1)] (.int (0 : Int32))) :
    MetFree l (⟨"java/lang/StringUTF16", "compress", "([CII)[B"⟩ : MethodName) (head1 (Jvm.Cond.code (⟨"java/lang/StringUTF16", "compress", "([CII)[B"⟩ : MethodName) jdk_52_method_16_code 6 (some (.array .byte)) :: ws) ({ frames := 1, cells := 1, slots := 2, locals := 18 } : Room)) (fun a U => a = #[(.ref a1), (.int (0 : Int32)), (.int (2 : Int32))] ∧ Z.Warmed39 U.vm ∧ U.heap = h0) (fun _ _ _ _ _ => True) (fun _ U o U' => ∃ v L, o = .returned v ∧ Q10_2 Z c0 c1 h0 n0 v U'.heap L ∧ FrameEnd U o U' L ({ frames := 1, cells := 1, slots := 2, locals := 18 } : Room).cells ({ frames := 1, cells := 1, slots := 2, locals := 18 } : Room).slots) := by
  refine MetFree.of_bodySF (plainFor_of_name pn_10) hisR ?_
  intro p e s m args below meth c s₁ Bd hml0 hP hK
  obtain ⟨rfl, hZ, hh⟩ := hP
  have hx := Bd.exec
  have hby := Bd.bytes
  have hlk : meth.locks = false := BodyLoose.notSynchronized Bd
  have hml : c.maxLocals = 6 := hml0
  have hown : s.vm.findClass "java/lang/StringUTF16" = some m.cls := findClass_of_methodNamed Bd.named
  have hnm := (name_of_methodNamed Bd.named Bd.method).1
  have X0 : Stand p l e ({ frames := 1, cells := 1, slots := 2, locals := 18 } : Room) s m #[(.ref a1), (.int (0 : Int32)), (.int (2 : Int32))] below meth c s₁ [] 0 0 := Stand.of_body Bd
  have e0 : s₁.heap = h0 := by rw [← hh, Bd.state]; rfl
  have N0 := Fr.nil n0
  have Zz := Z0
  have Kp : Keep h0 h0 [] := Keep.refl _ _
  show OwnEnds p e below s (Q10_2 Z c0 c1 h0 n0) ({ frames := 1, cells := 1, slots := 2, locals := 18 } : Room).cells ({ frames := 1, cells := 1, slots := 2, locals := 18 } : Room).slots s₁ (entryFrame m #[(.ref a1), (.int (0 : Int32)), (.int (2 : Int32))] 6)
  refine own_step (T' := s₁) (f' := (mkF m 0 #[.val (.ref a1), .val (.int (0 : Int32)), .val (.int (2 : Int32)), .unset, .unset, .unset] [])) (fun t k => castTop (ef_rm10_2 m a1 (0 : Int32) (2 : Int32)) k) ?_
  refine own_step (T' := s₁) (f' := (mkF m 1 #[.val (.ref a1), .val (.int (0 : Int32)), .val (.int (2 : Int32)), .unset, .unset, .unset] [(.int (2 : Int32))])) (fun t k => XS.iloadN X0.here hx rfl (hb hby d10_0) rfl k) ?_
  obtain ⟨T1, h1, k1, X1, e1, E1, A1, EX1, st1⟩ := newPE X0 hx hZ (hw _ (List.mem_of_getElem? (i := 15) rfl)) e0 (g := (mkF m 1 #[.val (.ref a1), .val (.int (0 : Int32)), .val (.int (2 : Int32)), .unset, .unset, .unset] [(.int (2 : Int32))])) rfl (hb hby d10_1) rfl (by decide) (cap := 2) (by decide) (by decide) (by decide) (by decide) (ad := "[B") rfl
  obtain ⟨b1, g1⟩ : ∃ z, z = h0.size := ⟨_, rfl⟩
  rw [← g1] at A1 EX1 st1
  have ne_a1_b1 : a1 ≠ b1 := Nat.ne_of_lt (Nat.lt_of_lt_of_le V_a1.lt (Nat.le_of_eq g1.symm))
  have g_b1 : n0 ≤ b1 := Nat.le_trans Zz (Nat.le_of_eq g1.symm)
  have sz_b1 : h0.size ≤ b1 := Nat.le_trans Kp.1 (Nat.le_of_eq g1.symm)
  replace V_a1 := V_a1.ext E1
  replace Zz := Nat.le_trans Zz E1.1
  replace Kp := Kp.ext E1
  have V_b1 : Arv Z h1 b1 k1 .byte (2 : Int32) [(.int (0 : Int32)), (.int (0 : Int32))] (.int (0 : Int32)) := (Arv.new A1 (by decide)).pad (pad_rep [] (.int (0 : Int32)) 2)
  have EX_b1 := EX1
  refine own_step (T' := T1) (f' := (mkF m 3 #[.val (.ref a1), .val (.int (0 : Int32)), .val (.int (2 : Int32)), .unset, .unset, .unset] [(.ref b1)])) (fun t k => st1 t k) ?_
  refine own_step (T' := T1) (f' := (mkF m 4 #[.val (.ref a1), .val (.int (0 : Int32)), .val (.int (2 : Int32)), .val (.ref b1), .unset, .unset] [])) (fun t k => XS.astoreN X1.here hx rfl (hb hby d10_3) rfl rfl (l' := #[.val (.ref a1), .val (.int (0 : Int32)), .val (.int (2 : Int32)), .val (.ref b1), .unset, .unset]) rfl k) ?_
  refine own_step (T' := T1) (f' := (mkF m 5 #[.val (.ref a1), .val (.int (0 : Int32)), .val (.int (2 : Int32)), .val (.ref b1), .unset, .unset] [(.ref a1)])) (fun t k => XS.aloadN X1.here hx rfl (hb hby d10_4) rfl rfl k) ?_
  refine own_step (T' := T1) (f' := (mkF m 6 #[.val (.ref a1), .val (.int (0 : Int32)), .val (.int (2 : Int32)), .val (.ref b1), .unset, .unset] [(.int (0 : Int32)), (.ref a1)])) (fun t k => XS.iloadN X1.here hx rfl (hb hby d10_5) rfl k) ?_
  refine own_step (T' := T1) (f' := (mkF m 7 #[.val (.ref a1), .val (.int (0 : Int32)), .val (.int (2 : Int32)), .val (.ref b1), .unset, .unset] [(.ref b1), (.int (0 : Int32)), (.ref a1)])) (fun t k => XS.aloadN X1.here hx rfl (hb hby d10_6) rfl rfl k) ?_
  refine own_step (T' := T1) (f' := (mkF m 8 #[.val (.ref a1), .val (.int (0 : Int32)), .val (.int (2 : Int32)), .val (.ref b1), .unset, .unset] [(.int (0 : Int32)), (.ref b1), (.int (0 : Int32)), (.ref a1)])) (fun t k => XS.iconst X1.here hx rfl (hb hby d10_7) k) ?_
  refine own_step (T' := T1) (f' := (mkF m 9 #[.val (.ref a1), .val (.int (0 : Int32)), .val (.int (2 : Int32)), .val (.ref b1), .unset, .unset] [(.int (2 : Int32)), (.int (0 : Int32)), (.ref b1), (.int (0 : Int32)), (.ref a1)])) (fun t k => XS.iloadN X1.here hx rfl (hb hby d10_8) rfl k) ?_
  obtain ⟨_, _, ⟨T2, L2, k2, n2⟩, -, X2, ⟨Lc2, hQ2, l2, y2, z2⟩, st2⟩ := Jvm.LawKit.callS X1 hx (y := (⟨"java/lang/StringUTF16", "compress", "([CI[BII)I"⟩ : MethodName)) hown (mvT hZ (hw _ (List.mem_of_getElem? (i := 56) rfl))) (mvT hZ (hw _ (List.mem_of_getElem? (i := 57) rfl))) (mvT hZ (hw _ (List.mem_of_getElem? (i := 54) rfl))) (mvT hZ (hw _ (List.mem_of_getElem? (i := 58) rfl))) (by decide) (backOf (W := 0) (rm11_2 l Z a0 hw [] a1 b1 h1 n0 Zz kc k1 c0 c1 hC0 hC1 V_a1 V_b1 ne_a1_b1 g_b1) hZ (hw _ (List.mem_of_getElem? (i := 58) rfl)) (hw _ (List.mem_of_getElem? (i := 54) rfl)) (by decide) (by decide)) (g := (mkF m 9 #[.val (.ref a1), .val (.int (0 : Int32)), .val (.int (2 : Int32)), .val (.ref b1), .unset, .unset] [(.int (2 : Int32)), (.int (0 : Int32)), (.ref b1), (.int (0 : Int32)), (.ref a1)])) rfl (by rw [hml]; rfl) (argsL := [(.ref a1), (.int (0 : Int32)), (.ref b1), (.int (0 : Int32)), (.int (2 : Int32))]) (rest := []) (lenOf pd_10_0 rfl) rfl (by show 2 * 0 + _ ≤ _; exact Nat.le_of_eq rfl) (hb hby d10_9) (fun _ _ => ⟨rfl, e1, (by decide : 1 + 0 ≤ _), (by decide : 2 + 0 ≤ _)⟩)
  dsimp only [Pt.U, Pt.locs, Pt.cells, Pt.slots] at X2 l2 y2 z2 st2 hQ2
  subst l2 y2 z2
  obtain ⟨rfl, N2q, K2, Vr2⟩ := hQ2
  have N2 := Fr.app N0 N2q
  replace V_a1 := V_a1.keep K2 (ninS ne_a1_b1 nin0)
  replace EX_b1 := EX_b1.keep K2
  replace Zz := Nat.le_trans Zz K2.1
  replace Kp := Kp.trans K2 (allS (Or.inr sz_b1) all0)
  refine own_step (T' := T2) (f' := (mkF m 12 #[.val (.ref a1), .val (.int (0 : Int32)), .val (.int (2 : Int32)), .val (.ref b1), .unset, .unset] [(.int (2 : Int32))])) (fun t k => st2 t k) ?_
  refine own_step (T' := T2) (f' := (mkF m 14 #[.val (.ref a1), .val (.int (0 : Int32)), .val (.int (2 : Int32)), .val (.ref b1), .val (.int (2 : Int32)), .unset] [])) (fun t k => XS.istore X2.here hx rfl (hb hby d10_12) rfl (l' := #[.val (.ref a1), .val (.int (0 : Int32)), .val (.int (2 : Int32)), .val (.ref b1), .val (.int (2 : Int32)), .unset]) rfl k) ?_
  refine own_step (T' := T2) (f' := (mkF m 16 #[.val (.ref a1), .val (.int (0 : Int32)), .val (.int (2 : Int32)), .val (.ref b1), .val (.int (2 : Int32)), .unset] [(.int (2 : Int32))])) (fun t k => XS.iload X2.here hx rfl (hb hby d10_14) rfl k) ?_
  refine own_step (T' := T2) (f' := (mkF m 17 #[.val (.ref a1), .val (.int (0 : Int32)), .val (.int (2 : Int32)), .val (.ref b1), .val (.int (2 : Int32)), .unset] [(.int (2 : Int32)), (.int (2 : Int32))])) (fun t k => XS.iloadN X2.here hx rfl (hb hby d10_16) rfl k) ?_
  refine own_step (T' := T2) (f' := (mkF m 57 #[.val (.ref a1), .val (.int (0 : Int32)), .val (.int (2 : Int32)), .val (.ref b1), .val (.int (2 : Int32)), .unset] [])) (fun t k => XS.icmpYes X2.here hx rfl (pc0 := 17) (pc' := 57) rfl (hb hby d10_17) rfl (teq (by decide : (2 : Int32) = (2 : Int32))).1 (by decide) (by decide) k) ?_
  refine own_step (T' := T2) (f' := (mkF m 58 #[.val (.ref a1), .val (.int (0 : Int32)), .val (.int (2 : Int32)), .val (.ref b1), .val (.int (2 : Int32)), .unset] [(.ref b1)])) (fun t k => XS.aloadN X2.here hx rfl (hb hby d10_57) rfl rfl k) ?_
  exact own_retO X2 hx hlk Bd.returns rfl (Or.inr (Or.inr (Or.inr (Or.inr ⟨rfl, rfl, rfl⟩)))) (hb hby d10_58) (by decide) (by decide) ⟨b1, k1, rfl, N2, Kp, sz_b1, Vr2⟩

theorem ef_rm12_2 (m : MethodId) (x0 : Addr) (x1 : Int32) : entryFrame m #[(.ref x0), (.int x1)] 2 = mkF m 0 #[.val (.ref x0), .val (.int x1)] [] := by first | (simp [entryFrame, mkF, argsToLocals, Value.category]; done) | rfl
set_option maxRecDepth 65536 in
set_option maxHeartbeats 40000000 in
theorem rm12_2 (l : Launch) (Z : State) (a0 : Array Value) (hw : ∀ d ∈ tables_1, d.before a0 Z = true) (ws : List Jvm.Cond) (a1 : Addr) (h0 : Heap) (n0 : Nat) (Z0 : n0 ≤ h0.size) (kb : ClassId) (c0 c1 : Int32) (V_a1 : Arv Z h0 a1 kb .byte (2 : Int32) [(.int (own_sb c0)), (.int (own_sb c1))] (.int (0 : Int32))) :
    MetFree l (⟨"java/lang/StringUTF16", "coderFromArrayLen", "([BI)B"⟩ : MethodName) (head1 (Jvm.Cond.code (⟨"java/lang/StringUTF16", "coderFromArrayLen", "([BI)B"⟩ : MethodName) jdk_52_method_15_code 2 (some .byte) :: ws) ({ frames := 0, cells := 0, slots := 0, locals := 0 } : Room)) (fun a U => a = #[(.ref a1), (.int (2 : Int32))] ∧ Z.Warmed39 U.vm ∧ U.heap = h0) (fun _ _ _ _ _ => True) (fun _ U o U' => ∃ v L, o = .returned v ∧ QI 0 h0 n0 v U'.heap L ∧ FrameEnd U o U' L ({ frames := 0, cells := 0, slots := 0, locals := 0 } : Room).cells ({ frames := 0, cells := 0, slots := 0, locals := 0 } : Room).slots) := by
  refine MetFree.of_bodySF (plainFor_of_name pn_12) hisR ?_
  intro p e s m args below meth c s₁ Bd hml0 hP hK
  obtain ⟨rfl, hZ, hh⟩ := hP
  have hx := Bd.exec
  have hby := Bd.bytes
  have hlk : meth.locks = false := BodyLoose.notSynchronized Bd
  have hml : c.maxLocals = 2 := hml0
  have hown : s.vm.findClass "java/lang/StringUTF16" = some m.cls := findClass_of_methodNamed Bd.named
  have hnm := (name_of_methodNamed Bd.named Bd.method).1
  have X0 : Stand p l e ({ frames := 0, cells := 0, slots := 0, locals := 0 } : Room) s m #[(.ref a1), (.int (2 : Int32))] below meth c s₁ [] 0 0 := Stand.of_body Bd
  have e0 : s₁.heap = h0 := by rw [← hh, Bd.state]; rfl
  have N0 := Fr.nil n0
  have Zz := Z0
  have Kp : Keep h0 h0 [] := Keep.refl _ _
  show OwnEnds p e below s (QI 0 h0 n0) ({ frames := 0, cells := 0, slots := 0, locals := 0 } : Room).cells ({ frames := 0, cells := 0, slots := 0, locals := 0 } : Room).slots s₁ (entryFrame m #[(.ref a1), (.int (2 : Int32))] 2)
  refine own_step (T' := s₁) (f' := (mkF m 0 #[.val (.ref a1), .val (.int (2 : Int32))] [])) (fun t k => castTop (ef_rm12_2 m a1 (2 : Int32)) k) ?_
  refine own_step (T' := s₁) (f' := (mkF m 1 #[.val (.ref a1), .val (.int (2 : Int32))] [(.int (2 : Int32))])) (fun t k => XS.iloadN X0.here hx rfl (hb hby d12_0) rfl k) ?_
  refine own_step (T' := s₁) (f' := (mkF m 2 #[.val (.ref a1), .val (.int (2 : Int32))] [(.ref a1), (.int (2 : Int32))])) (fun t k => XS.aloadN X0.here hx rfl (hb hby d12_1) rfl rfl k) ?_
  obtain ⟨cl1, Ar1, q1, S1, M1, H1, G1⟩ := id V_a1
  refine own_step (T' := s₁) (f' := (mkF m 3 #[.val (.ref a1), .val (.int (2 : Int32))] [(.int (2 : Int32)), (.int (2 : Int32))])) (fun t k => X0.arraylength hx (by rw [e0]; exact Ar1.1) (State.isArrayOf_alike hZ.alike Ar1.2.1) (g := (mkF m 2 #[.val (.ref a1), .val (.int (2 : Int32))] [(.ref a1), (.int (2 : Int32))])) rfl rfl (hb hby d12_2) _ (by rw [len_of S1 M1]; exact k)) ?_
  refine own_step (T' := s₁) (f' := (mkF m 4 #[.val (.ref a1), .val (.int (2 : Int32))] [(.int (0 : Int32))])) (fun t k => XS.isub X0.here hx rfl (hb hby d12_3) rfl k) ?_
  refine own_step (T' := s₁) (f' := (mkF m 6 #[.val (.ref a1), .val (.int (2 : Int32))] [(.int (31 : Int32)), (.int (0 : Int32))])) (fun t k => XS.bipush X0.here hx rfl (hb hby d12_4) k) ?_
  refine own_step (T' := s₁) (f' := (mkF m 7 #[.val (.ref a1), .val (.int (2 : Int32))] [(.int (((0 : Int32).toUInt32 >>> ((31 : Int32) &&& 31).toUInt32).toInt32))])) (fun t k => XS.iushr X0.here hx rfl (hb hby d12_6) rfl k) ?_
  refine own_step (T' := s₁) (f' := (mkF m 8 #[.val (.ref a1), .val (.int (2 : Int32))] [(.int ((((0 : Int32).toUInt32 >>> ((31 : Int32) &&& 31).toUInt32).toInt32).toInt8.toInt32))])) (fun t k => XS.i2b X0.here hx rfl (hb hby d12_7) rfl k) ?_
  exact own_retN X0 hx hlk (t := .byte) Bd.returns (by simp) (hb hby d12_8) (by decide) (by decide) ⟨by decide, N0, e0⟩

theorem ef_rm9_2 (m : MethodId) (x0 : Addr) (x1 : Addr) (x2 : Int32) (x3 : Int32) : entryFrame m #[(.ref x0), (.ref x1), (.int x2), (.int x3), .null] 6 = mkF m 0 #[.val (.ref x0), .val (.ref x1), .val (.int x2), .val (.int x3), .val .null, .unset] [] := by first | (simp [entryFrame, mkF, argsToLocals, Value.category]; done) | rfl
set_option maxRecDepth 65536 in
set_option maxHeartbeats 40000000 in
theorem rm9_2 (l : Launch) (Z : State) (a0 : Array Value) (hw : ∀ d ∈ tables_1, d.before a0 Z = true) (ws : List Jvm.Cond) (a1 : Addr) (a2 : Addr) (h0 : Heap) (n0 : Nat) (Z0 : n0 ≤ h0.size) (E_a1 : Exa Z h0 a1 "java/lang/String") (F_value_a1 : Fld Z h0 a1 "java/lang/String" "value" "[B" .null) (F_coder_a1 : Fld Z h0 a1 "java/lang/String" "coder" "B" (.int (0 : Int32))) (g_a1 : n0 ≤ a1) (kc : ClassId) (c0 c1 : Int32) (hC0 : OwnC c0) (hC1 : OwnC c1) (V_a2 : Arv Z h0 a2 kc .char (2 : Int32) [(.int c0), (.int c1)] (.int (0 : Int32))) (cs : Int32) (S_CS : Sta Z h0 "java/lang/String" "COMPACT_STRINGS" "Z" (.int cs)) (hcs : ¬ cs = (0 : Int32)) (n12 : a1 ≠ a2) :
    MetFree l (⟨"java/lang/String", "<init>", "([CIILjava/lang/Void;)V"⟩ : MethodName) (head1 (Jvm.Cond.code (⟨"java/lang/String", "<init>", "([CIILjava/lang/Void;)V"⟩ : MethodName) jdk_42_method_149_code 6 none :: ws) ({ frames := 2, cells := 1, slots := 2, locals := 36 } : Room)) (fun a U => a = #[(.ref a1), (.ref a2), (.int (0 : Int32)), (.int (2 : Int32)), .null] ∧ Z.Warmed39 U.vm ∧ U.heap = h0) (fun _ _ _ _ _ => True) (fun _ U o U' => ∃ v L, o = .returned v ∧ Q9_2 Z a1 c0 c1 h0 n0 v U'.heap L ∧ FrameEnd U o U' L ({ frames := 2, cells := 1, slots := 2, locals := 36 } : Room).cells ({ frames := 2, cells := 1, slots := 2, locals := 36 } : Room).slots) := by
  refine MetFree.of_bodySF (plainFor_of_name pn_9) hisR ?_
  intro p e s m args below meth c s₁ Bd hml0 hP hK
  obtain ⟨rfl, hZ, hh⟩ := hP
  have hx := Bd.exec
  have hby := Bd.bytes
  have hlk : meth.locks = false := BodyLoose.notSynchronized Bd
  have hml : c.maxLocals = 6 := hml0
  have hown : s.vm.findClass "java/lang/String" = some m.cls := findClass_of_methodNamed Bd.named
  have hnm := (name_of_methodNamed Bd.named Bd.method).1
  have X0 : Stand p l e ({ frames := 2, cells := 1, slots := 2, locals := 36 } : Room) s m #[(.ref a1), (.ref a2), (.int (0 : Int32)), (.int (2 : Int32)), .null] below meth c s₁ [] 0 0 := Stand.of_body Bd
  have e0 : s₁.heap = h0 := by rw [← hh, Bd.state]; rfl
  have N0 := Fr.nil n0
  have Zz := Z0
  have Kp : Keep h0 h0 [a1] := Keep.refl _ _
  show OwnEnds p e below s (Q9_2 Z a1 c0 c1 h0 n0) ({ frames := 2, cells := 1, slots := 2, locals := 36 } : Room).cells ({ frames := 2, cells := 1, slots := 2, locals := 36 } : Room).slots s₁ (entryFrame m #[(.ref a1), (.ref a2), (.int (0 : Int32)), (.int (2 : Int32)), .null] 6)
  refine own_step (T' := s₁) (f' := (mkF m 0 #[.val (.ref a1), .val (.ref a2), .val (.int (0 : Int32)), .val (.int (2 : Int32)), .val .null, .unset] [])) (fun t k => castTop (ef_rm9_2 m a1 a2 (0 : Int32) (2 : Int32)) k) ?_
  refine own_step (T' := s₁) (f' := (mkF m 1 #[.val (.ref a1), .val (.ref a2), .val (.int (0 : Int32)), .val (.int (2 : Int32)), .val .null, .unset] [(.ref a1)])) (fun t k => XS.aloadN X0.here hx rfl (hb hby d9_0) rfl rfl k) ?_
  obtain ⟨T1, X1, e1, st1⟩ := initO X0 hx hZ hown (hw _ (List.mem_of_getElem? (i := 50) rfl)) (hw _ (List.mem_of_getElem? (i := 12) rfl)) (hw _ (List.mem_of_getElem? (i := 13) rfl)) e0 (g := (mkF m 1 #[.val (.ref a1), .val (.ref a2), .val (.int (0 : Int32)), .val (.int (2 : Int32)), .val .null, .unset] [(.ref a1)])) rfl (by rw [hml]; rfl) rfl (hb hby d9_1) (by decide) (W := 0) (by show 2 * 0 + _ ≤ _; exact Nat.le_of_eq rfl) (by decide)
  refine own_step (T' := T1) (f' := (mkF m 4 #[.val (.ref a1), .val (.ref a2), .val (.int (0 : Int32)), .val (.int (2 : Int32)), .val .null, .unset] [])) (fun t k => st1 t k) ?_
  refine own_step (T' := T1) (f' := (mkF m 5 #[.val (.ref a1), .val (.ref a2), .val (.int (0 : Int32)), .val (.int (2 : Int32)), .val .null, .unset] [(.int (2 : Int32))])) (fun t k => XS.iloadN X1.here hx rfl (hb hby d9_4) rfl k) ?_
  refine own_step (T' := T1) (f' := (mkF m 27 #[.val (.ref a1), .val (.ref a2), .val (.int (0 : Int32)), .val (.int (2 : Int32)), .val .null, .unset] [])) (fun t k => XS.ifYes X1.here hx rfl (pc0 := 5) (pc' := 27) rfl (hb hby d9_5) rfl ((if0 _ _).trans (feq (by decide : ¬ ((2 : Int32) = (0 : Int32)))).2) (by decide) (by decide) k) ?_
  obtain ⟨T2, X2, e2, st2⟩ := getS2 X1 hx hZ hown (host := "") (Or.inl (hw _ (List.mem_of_getElem? (i := 51) rfl))) Via.refl e1 S_CS (g := (mkF m 27 #[.val (.ref a1), .val (.ref a2), .val (.int (0 : Int32)), .val (.int (2 : Int32)), .val .null, .unset] [])) rfl (hb hby d9_27)
  refine own_step (T' := T2) (f' := (mkF m 30 #[.val (.ref a1), .val (.ref a2), .val (.int (0 : Int32)), .val (.int (2 : Int32)), .val .null, .unset] [(.int cs)])) (fun t k => st2 t k) ?_
  refine own_step (T' := T2) (f' := (mkF m 33 #[.val (.ref a1), .val (.ref a2), .val (.int (0 : Int32)), .val (.int (2 : Int32)), .val .null, .unset] [])) (fun t k => XS.ifNo X2.here hx rfl (hb hby d9_30) rfl ((if0 _ _).trans (feq hcs).1) k) ?_
  refine own_step (T' := T2) (f' := (mkF m 34 #[.val (.ref a1), .val (.ref a2), .val (.int (0 : Int32)), .val (.int (2 : Int32)), .val .null, .unset] [(.ref a2)])) (fun t k => XS.aloadN X2.here hx rfl (hb hby d9_33) rfl rfl k) ?_
  refine own_step (T' := T2) (f' := (mkF m 35 #[.val (.ref a1), .val (.ref a2), .val (.int (0 : Int32)), .val (.int (2 : Int32)), .val .null, .unset] [(.int (0 : Int32)), (.ref a2)])) (fun t k => XS.iloadN X2.here hx rfl (hb hby d9_34) rfl k) ?_
  refine own_step (T' := T2) (f' := (mkF m 36 #[.val (.ref a1), .val (.ref a2), .val (.int (0 : Int32)), .val (.int (2 : Int32)), .val .null, .unset] [(.int (2 : Int32)), (.int (0 : Int32)), (.ref a2)])) (fun t k => XS.iloadN X2.here hx rfl (hb hby d9_35) rfl k) ?_
  obtain ⟨_, _, ⟨T3, L3, k3, n3⟩, -, X3, ⟨Lc3, hQ3, l3, y3, z3⟩, st3⟩ := Jvm.LawKit.callS X2 hx (y := (⟨"java/lang/StringUTF16", "compress", "([CII)[B"⟩ : MethodName)) hown (mvT hZ (hw _ (List.mem_of_getElem? (i := 52) rfl))) (mvT hZ (hw _ (List.mem_of_getElem? (i := 53) rfl))) (mvT hZ (hw _ (List.mem_of_getElem? (i := 54) rfl))) (mvT hZ (hw _ (List.mem_of_getElem? (i := 55) rfl))) (by decide) (backOf (W := 0) (rm10_2 l Z a0 hw [] a2 h0 n0 Zz kc c0 c1 hC0 hC1 V_a2) hZ (hw _ (List.mem_of_getElem? (i := 55) rfl)) (hw _ (List.mem_of_getElem? (i := 54) rfl)) (by decide) (by decide)) (g := (mkF m 36 #[.val (.ref a1), .val (.ref a2), .val (.int (0 : Int32)), .val (.int (2 : Int32)), .val .null, .unset] [(.int (2 : Int32)), (.int (0 : Int32)), (.ref a2)])) rfl (by rw [hml]; rfl) (argsL := [(.ref a2), (.int (0 : Int32)), (.int (2 : Int32))]) (rest := []) (lenOf pd_9_0 rfl) rfl (by show 2 * 0 + _ ≤ _; exact Nat.le_of_eq rfl) (hb hby d9_36) (fun _ _ => ⟨rfl, e2, (by decide : 0 + 1 ≤ _), (by decide : 0 + 2 ≤ _)⟩)
  dsimp only [Pt.U, Pt.locs, Pt.cells, Pt.slots] at X3 l3 y3 z3 st3 hQ3
  subst l3 y3 z3
  obtain ⟨rb3, rk3, rfl, N3q, K3, zz3, Vr3⟩ := hQ3
  have N3 := Fr.app N0 N3q
  have ne_a1_rb3 : a1 ≠ rb3 := Nat.ne_of_lt (Nat.lt_of_lt_of_le E_a1.lt zz3)
  have ne_a2_rb3 : a2 ≠ rb3 := Nat.ne_of_lt (Nat.lt_of_lt_of_le V_a2.lt zz3)
  replace S_CS := own_sta_keep S_CS K3 all0
  replace E_a1 := E_a1.keep K3
  replace F_value_a1 := F_value_a1.keep K3 nin0
  replace F_coder_a1 := F_coder_a1.keep K3 nin0
  replace V_a2 := V_a2.keep K3 nin0
  replace Zz := Nat.le_trans Zz K3.1
  replace Kp := Kp.trans K3 all0
  refine own_step (T' := T3) (f' := (mkF m 39 #[.val (.ref a1), .val (.ref a2), .val (.int (0 : Int32)), .val (.int (2 : Int32)), .val .null, .unset] [(.ref rb3)])) (fun t k => st3 t k) ?_
  refine own_step (T' := T3) (f' := (mkF m 41 #[.val (.ref a1), .val (.ref a2), .val (.int (0 : Int32)), .val (.int (2 : Int32)), .val .null, .val (.ref rb3)] [])) (fun t k => XS.astore X3.here hx rfl (hb hby d9_39) rfl rfl (l' := #[.val (.ref a1), .val (.ref a2), .val (.int (0 : Int32)), .val (.int (2 : Int32)), .val .null, .val (.ref rb3)]) rfl k) ?_
  refine own_step (T' := T3) (f' := (mkF m 42 #[.val (.ref a1), .val (.ref a2), .val (.int (0 : Int32)), .val (.int (2 : Int32)), .val .null, .val (.ref rb3)] [(.ref a1)])) (fun t k => XS.aloadN X3.here hx rfl (hb hby d9_41) rfl rfl k) ?_
  refine own_step (T' := T3) (f' := (mkF m 44 #[.val (.ref a1), .val (.ref a2), .val (.int (0 : Int32)), .val (.int (2 : Int32)), .val .null, .val (.ref rb3)] [(.ref rb3), (.ref a1)])) (fun t k => XS.aload X3.here hx rfl (hb hby d9_42) rfl rfl k) ?_
  refine own_step (T' := T3) (f' := (mkF m 45 #[.val (.ref a1), .val (.ref a2), .val (.int (0 : Int32)), .val (.int (2 : Int32)), .val .null, .val (.ref rb3)] [(.int (2 : Int32)), (.ref rb3), (.ref a1)])) (fun t k => XS.iloadN X3.here hx rfl (hb hby d9_44) rfl k) ?_
  obtain ⟨_, _, ⟨T4, L4, k4, n4⟩, -, X4, ⟨Lc4, hQ4, l4, y4, z4⟩, st4⟩ := Jvm.LawKit.callS X3 hx (y := (⟨"java/lang/StringUTF16", "coderFromArrayLen", "([BI)B"⟩ : MethodName)) hown (mvT hZ (hw _ (List.mem_of_getElem? (i := 59) rfl))) (mvT hZ (hw _ (List.mem_of_getElem? (i := 60) rfl))) (mvT hZ (hw _ (List.mem_of_getElem? (i := 54) rfl))) (mvT hZ (hw _ (List.mem_of_getElem? (i := 61) rfl))) (by decide) (backOf (W := 1) (rm12_2 l Z a0 hw [] rb3 T3.heap n0 Zz rk3 c0 c1 Vr3) hZ (hw _ (List.mem_of_getElem? (i := 61) rfl)) (hw _ (List.mem_of_getElem? (i := 54) rfl)) (by decide) (by decide)) (g := (mkF m 45 #[.val (.ref a1), .val (.ref a2), .val (.int (0 : Int32)), .val (.int (2 : Int32)), .val .null, .val (.ref rb3)] [(.int (2 : Int32)), (.ref rb3), (.ref a1)])) rfl (by rw [hml]; rfl) (argsL := [(.ref rb3), (.int (2 : Int32))]) (rest := [(.ref a1)]) (lenOf pd_9_1 rfl) rfl (by show 2 * 0 + _ ≤ _; exact Nat.le_of_eq rfl) (hb hby d9_45) (fun _ _ => ⟨rfl, rfl, (by decide : 1 + 0 ≤ _), (by decide : 2 + 0 ≤ _)⟩)
  dsimp only [Pt.U, Pt.locs, Pt.cells, Pt.slots] at X4 l4 y4 z4 st4 hQ4
  subst l4 y4 z4
  obtain ⟨rfl, N4q, E4⟩ := hQ4
  have N4 := Fr.app N3 N4q
  refine own_step (T' := T4) (f' := (mkF m 48 #[.val (.ref a1), .val (.ref a2), .val (.int (0 : Int32)), .val (.int (2 : Int32)), .val .null, .val (.ref rb3)] [(.int (0 : Int32)), (.ref a1)])) (fun t k => st4 t k) ?_
  obtain ⟨T5, h5, X5, e5, W5, st5⟩ := putFN X4 hx hZ hown (hw _ (List.mem_of_getElem? (i := 62) rfl)) Via.refl E4 F_coder_a1 E_a1 (Or.inr ⟨(hw _ (List.mem_of_getElem? (i := 63) rfl)), rfl, hnm⟩) (hw _ (List.mem_of_getElem? (i := 41) rfl)) (ty := .byte) (v' := (.int (0 : Int32))) (by decide) rfl (by decide) (g := (mkF m 48 #[.val (.ref a1), .val (.ref a2), .val (.int (0 : Int32)), .val (.int (2 : Int32)), .val .null, .val (.ref rb3)] [(.int (0 : Int32)), (.ref a1)])) rfl rfl (hb hby d9_48)
  replace E_a1 := E_a1.wr W5
  replace F_value_a1 := F_value_a1.other W5 (Or.inr (Jvm.RoadKit.slot_ne (Or.inr (hw _ (List.mem_of_getElem? (i := 65) rfl))) (Or.inr (hw _ (List.mem_of_getElem? (i := 63) rfl))) (by decide) (t := (.array .byte)) (t' := .byte) (by decide) (by decide)))
  replace F_coder_a1 := F_coder_a1.same W5
  replace V_a2 := V_a2.other W5 (Ne.symm n12)
  replace S_CS := S_CS.wr W5
  replace Vr3 := Vr3.other W5 (Ne.symm ne_a1_rb3)
  replace Zz := Nat.le_trans Zz (Keep.of_wr W5).1
  replace Kp := Kp.wr W5 (Or.inl (List.mem_of_getElem? (i := 0) rfl))
  have N5 := Fr.snoc X5 N4 g_a1
  refine own_step (T' := T5) (f' := (mkF m 51 #[.val (.ref a1), .val (.ref a2), .val (.int (0 : Int32)), .val (.int (2 : Int32)), .val .null, .val (.ref rb3)] [])) (fun t k => st5 t k) ?_
  refine own_step (T' := T5) (f' := (mkF m 52 #[.val (.ref a1), .val (.ref a2), .val (.int (0 : Int32)), .val (.int (2 : Int32)), .val .null, .val (.ref rb3)] [(.ref a1)])) (fun t k => XS.aloadN X5.here hx rfl (hb hby d9_51) rfl rfl k) ?_
  refine own_step (T' := T5) (f' := (mkF m 54 #[.val (.ref a1), .val (.ref a2), .val (.int (0 : Int32)), .val (.int (2 : Int32)), .val .null, .val (.ref rb3)] [(.ref rb3), (.ref a1)])) (fun t k => XS.aload X5.here hx rfl (hb hby d9_52) rfl rfl k) ?_
  obtain ⟨T6, h6, X6, e6, W6, st6⟩ := putF X5 hx hZ hown (host := "") (Or.inl (hw _ (List.mem_of_getElem? (i := 64) rfl))) Via.refl e5 F_value_a1 E_a1 (Or.inr ⟨(hw _ (List.mem_of_getElem? (i := 65) rfl)), rfl, hnm⟩) (hw _ (List.mem_of_getElem? (i := 41) rfl)) (ty := (.array .byte)) (by decide) rfl rfl (g := (mkF m 54 #[.val (.ref a1), .val (.ref a2), .val (.int (0 : Int32)), .val (.int (2 : Int32)), .val .null, .val (.ref rb3)] [(.ref rb3), (.ref a1)])) rfl rfl (hb hby d9_54)
  replace E_a1 := E_a1.wr W6
  replace F_value_a1 := F_value_a1.same W6
  replace F_coder_a1 := F_coder_a1.other W6 (Or.inr (Jvm.RoadKit.slot_ne (Or.inr (hw _ (List.mem_of_getElem? (i := 63) rfl))) (Or.inr (hw _ (List.mem_of_getElem? (i := 65) rfl))) (by decide) (t := .byte) (t' := (.array .byte)) (by decide) (by decide)))
  replace V_a2 := V_a2.other W6 (Ne.symm n12)
  replace S_CS := S_CS.wr W6
  replace Vr3 := Vr3.other W6 (Ne.symm ne_a1_rb3)
  replace Zz := Nat.le_trans Zz (Keep.of_wr W6).1
  replace Kp := Kp.wr W6 (Or.inl (List.mem_of_getElem? (i := 0) rfl))
  have N6 := Fr.snoc X6 N5 g_a1
  refine own_step (T' := T6) (f' := (mkF m 57 #[.val (.ref a1), .val (.ref a2), .val (.int (0 : Int32)), .val (.int (2 : Int32)), .val .null, .val (.ref rb3)] [])) (fun t k => st6 t k) ?_
  exact own_retV X6 hx hlk Bd.returns (hb hby d9_57) (by decide) (by decide) (by rw [e6]; exact ⟨rfl, N6, Kp, rb3, rk3, E_a1, F_coder_a1, F_value_a1, Vr3⟩)

theorem ef_rm8_2 (m : MethodId) (x0 : Addr) (x1 : Addr) : entryFrame m #[(.ref x0), (.ref x1)] 2 = mkF m 0 #[.val (.ref x0), .val (.ref x1)] [] := by first | (simp [entryFrame, mkF, argsToLocals, Value.category]; done) | rfl
set_option maxRecDepth 65536 in
set_option maxHeartbeats 40000000 in
theorem rm8_2 (l : Launch) (Z : State) (a0 : Array Value) (hw : ∀ d ∈ tables_1, d.before a0 Z = true) (ws : List Jvm.Cond) (a1 : Addr) (a2 : Addr) (h0 : Heap) (n0 : Nat) (Z0 : n0 ≤ h0.size) (E_a1 : Exa Z h0 a1 "java/lang/String") (F_value_a1 : Fld Z h0 a1 "java/lang/String" "value" "[B" .null) (F_coder_a1 : Fld Z h0 a1 "java/lang/String" "coder" "B" (.int (0 : Int32))) (g_a1 : n0 ≤ a1) (kc : ClassId) (c0 c1 : Int32) (hC0 : OwnC c0) (hC1 : OwnC c1) (V_a2 : Arv Z h0 a2 kc .char (2 : Int32) [(.int c0), (.int c1)] (.int (0 : Int32))) (cs : Int32) (S_CS : Sta Z h0 "java/lang/String" "COMPACT_STRINGS" "Z" (.int cs)) (hcs : ¬ cs = (0 : Int32)) (n12 : a1 ≠ a2) :
    MetFree l (⟨"java/lang/String", "<init>", "([C)V"⟩ : MethodName) (head1 (Jvm.Cond.code (⟨"java/lang/String", "<init>", "([C)V"⟩ : MethodName) jdk_42_method_3_code 2 none :: ws) ({ frames := 3, cells := 1, slots := 2, locals := 54 } : Room)) (fun a U => a = #[(.ref a1), (.ref a2)] ∧ Z.Warmed39 U.vm ∧ U.heap = h0) (fun _ _ _ _ _ => True) (fun _ U o U' => ∃ v L, o = .returned v ∧ Q9_2 Z a1 c0 c1 h0 n0 v U'.heap L ∧ FrameEnd U o U' L ({ frames := 3, cells := 1, slots := 2, locals := 54 } : Room).cells ({ frames := 3, cells := 1, slots := 2, locals := 54 } : Room).slots) := by
  refine MetFree.of_bodySF (plainFor_of_name pn_8) hisR ?_
  intro p e s m args below meth c s₁ Bd hml0 hP hK
  obtain ⟨rfl, hZ, hh⟩ := hP
  have hx := Bd.exec
  have hby := Bd.bytes
  have hlk : meth.locks = false := BodyLoose.notSynchronized Bd
  have hml : c.maxLocals = 2 := hml0
  have hown : s.vm.findClass "java/lang/String" = some m.cls := findClass_of_methodNamed Bd.named
  have hnm := (name_of_methodNamed Bd.named Bd.method).1
  have X0 : Stand p l e ({ frames := 3, cells := 1, slots := 2, locals := 54 } : Room) s m #[(.ref a1), (.ref a2)] below meth c s₁ [] 0 0 := Stand.of_body Bd
  have e0 : s₁.heap = h0 := by rw [← hh, Bd.state]; rfl
  have N0 := Fr.nil n0
  have Zz := Z0
  have Kp : Keep h0 h0 [] := Keep.refl _ _
  show OwnEnds p e below s (Q9_2 Z a1 c0 c1 h0 n0) ({ frames := 3, cells := 1, slots := 2, locals := 54 } : Room).cells ({ frames := 3, cells := 1, slots := 2, locals := 54 } : Room).slots s₁ (entryFrame m #[(.ref a1), (.ref a2)] 2)
  refine own_step (T' := s₁) (f' := (mkF m 0 #[.val (.ref a1), .val (.ref a2)] [])) (fun t k => castTop (ef_rm8_2 m a1 a2) k) ?_
  refine own_step (T' := s₁) (f' := (mkF m 1 #[.val (.ref a1), .val (.ref a2)] [(.ref a1)])) (fun t k => XS.aloadN X0.here hx rfl (hb hby d8_0) rfl rfl k) ?_
  refine own_step (T' := s₁) (f' := (mkF m 2 #[.val (.ref a1), .val (.ref a2)] [(.ref a2), (.ref a1)])) (fun t k => XS.aloadN X0.here hx rfl (hb hby d8_1) rfl rfl k) ?_
  refine own_step (T' := s₁) (f' := (mkF m 3 #[.val (.ref a1), .val (.ref a2)] [(.int (0 : Int32)), (.ref a2), (.ref a1)])) (fun t k => XS.iconst X0.here hx rfl (hb hby d8_2) k) ?_
  refine own_step (T' := s₁) (f' := (mkF m 4 #[.val (.ref a1), .val (.ref a2)] [(.ref a2), (.int (0 : Int32)), (.ref a2), (.ref a1)])) (fun t k => XS.aloadN X0.here hx rfl (hb hby d8_3) rfl rfl k) ?_
  obtain ⟨cl1, Ar1, q1, S1, M1, H1, G1⟩ := id V_a2
  refine own_step (T' := s₁) (f' := (mkF m 5 #[.val (.ref a1), .val (.ref a2)] [(.int (2 : Int32)), (.int (0 : Int32)), (.ref a2), (.ref a1)])) (fun t k => X0.arraylength hx (by rw [e0]; exact Ar1.1) (State.isArrayOf_alike hZ.alike Ar1.2.1) (g := (mkF m 4 #[.val (.ref a1), .val (.ref a2)] [(.ref a2), (.int (0 : Int32)), (.ref a2), (.ref a1)])) rfl rfl (hb hby d8_4) _ (by rw [len_of S1 M1]; exact k)) ?_
  refine own_step (T' := s₁) (f' := (mkF m 6 #[.val (.ref a1), .val (.ref a2)] [.null, (.int (2 : Int32)), (.int (0 : Int32)), (.ref a2), (.ref a1)])) (fun t k => XS.aconstNull X0.here hx rfl (hb hby d8_5) k) ?_
  obtain ⟨_, _, ⟨T2, L2, k2, n2⟩, -, X2, ⟨Lc2, hQ2, l2, y2, z2⟩, st2⟩ := X0.specialBack hx (y := (⟨"java/lang/String", "<init>", "([CIILjava/lang/Void;)V"⟩ : MethodName)) rfl hown (mvT hZ (hw _ (List.mem_of_getElem? (i := 46) rfl))) (mvT hZ (hw _ (List.mem_of_getElem? (i := 47) rfl))) (mvT hZ (hw _ (List.mem_of_getElem? (i := 49) rfl))) (by decide) (backOf (W := 0) (rm9_2 l Z a0 hw [] a1 a2 h0 n0 Zz E_a1 F_value_a1 F_coder_a1 g_a1 kc c0 c1 hC0 hC1 V_a2 cs S_CS hcs n12) hZ (hw _ (List.mem_of_getElem? (i := 49) rfl)) (hw _ (List.mem_of_getElem? (i := 42) rfl)) (by decide) (by decide)) (g := (mkF m 6 #[.val (.ref a1), .val (.ref a2)] [.null, (.int (2 : Int32)), (.int (0 : Int32)), (.ref a2), (.ref a1)])) rfl (by rw [hml]; rfl) (Steps.refl _) (a := a1) (argsL := [(.ref a2), (.int (0 : Int32)), (.int (2 : Int32)), .null]) (rest := []) (lenOf pd_8_0 rfl) rfl (by show 2 * 0 + _ ≤ _; exact Nat.le_of_eq rfl) (hb hby d8_6) (fun _ _ => ⟨rfl, e0, (by decide : 0 + 1 ≤ _), (by decide : 0 + 2 ≤ _)⟩)
  dsimp only [Pt.U, Pt.locs, Pt.cells, Pt.slots] at X2 l2 y2 z2 st2 hQ2
  subst l2 y2 z2
  obtain ⟨rfl, N2q, K2, Ow2⟩ := hQ2
  have N2 := Fr.app N0 N2q
  refine own_step (T' := T2) (f' := (mkF m 9 #[.val (.ref a1), .val (.ref a2)] [])) (fun t k => st2.trans k) ?_
  exact own_retV X2 hx hlk Bd.returns (hb hby d8_9) (by decide) (by decide) ⟨rfl, N2, K2, Ow2⟩

theorem d7_37 : decode method_3_code 37 = .ok (.iload_n 0, 1) := by decide +kernel
theorem d7_38 : decode method_3_code 38 = .ok (.iconst 2, 1) := by decide +kernel
theorem d7_39 : decode method_3_code 39 = .ok (.if_icmp .ne 26, 3) := by decide +kernel
theorem d7_42 : decode method_3_code 42 = .ok (.new 7, 3) := by decide +kernel
theorem d7_45 : decode method_3_code 45 = .ok (.dup, 1) := by decide +kernel
theorem d7_46 : decode method_3_code 46 = .ok (.iconst 2, 1) := by decide +kernel
theorem d7_47 : decode method_3_code 47 = .ok (.newarray .char, 2) := by decide +kernel
theorem d7_49 : decode method_3_code 49 = .ok (.dup, 1) := by decide +kernel
theorem d7_50 : decode method_3_code 50 = .ok (.iconst 0, 1) := by decide +kernel
theorem d7_51 : decode method_3_code 51 = .ok (.aload_n 1, 1) := by decide +kernel
theorem d7_52 : decode method_3_code 52 = .ok (.iconst 0, 1) := by decide +kernel
theorem d7_53 : decode method_3_code 53 = .ok (.caload, 1) := by decide +kernel
theorem d7_54 : decode method_3_code 54 = .ok (.castore, 1) := by decide +kernel
theorem d7_55 : decode method_3_code 55 = .ok (.dup, 1) := by decide +kernel
theorem d7_56 : decode method_3_code 56 = .ok (.iconst 1, 1) := by decide +kernel
theorem d7_57 : decode method_3_code 57 = .ok (.aload_n 1, 1) := by decide +kernel
theorem d7_58 : decode method_3_code 58 = .ok (.iconst 1, 1) := by decide +kernel
theorem d7_59 : decode method_3_code 59 = .ok (.caload, 1) := by decide +kernel
theorem d7_60 : decode method_3_code 60 = .ok (.castore, 1) := by decide +kernel
theorem d7_61 : decode method_3_code 61 = .ok (.invokespecial 9, 3) := by decide +kernel
theorem d7_64 : decode method_3_code 64 = .ok (.areturn, 1) := by decide +kernel
theorem ef_rm7_2 (m : MethodId) (x0 : Int32) (x1 : Addr) : entryFrame m #[(.int x0), (.ref x1)] 2 = mkF m 0 #[.val (.int x0), .val (.ref x1)] [] := by first | (simp [entryFrame, mkF, argsToLocals, Value.category]; done) | rfl
set_option maxRecDepth 65536 in
set_option maxHeartbeats 40000000 in
theorem rm7_2 (l : Launch) (Z : State) (a0 : Array Value) (hw : ∀ d ∈ tables_1, d.before a0 Z = true) (ws : List Jvm.Cond) (a2 : Addr) (h0 : Heap) (n0 : Nat) (Z0 : n0 ≤ h0.size) (c0 c1 : Int32) (hC0 : OwnC c0) (hC1 : OwnC c1) (d2 : Int32) (ks : ClassId) (V_a2 : Arv Z h0 a2 ks .char (3 : Int32) [(.int c0), (.int c1), (.int d2)] (.int (0 : Int32))) (cs : Int32) (S_CS : Sta Z h0 "java/lang/String" "COMPACT_STRINGS" "Z" (.int cs)) (hcs : ¬ cs = (0 : Int32)) :
    MetFree l (⟨"com/example/lit2/lit2/weave/TexOutputDropFinalBreakPinLaw", "str", "(I[C)Ljava/lang/String;"⟩ : MethodName) (head1 (Jvm.Cond.code (⟨"com/example/lit2/lit2/weave/TexOutputDropFinalBreakPinLaw", "str", "(I[C)Ljava/lang/String;"⟩ : MethodName) method_3_code 2 (some (.object "java/lang/String")) :: ws) ({ frames := 4, cells := 3, slots := 8, locals := 70 } : Room)) (fun a U => a = #[(.int (2 : Int32)), (.ref a2)] ∧ Z.Warmed39 U.vm ∧ U.heap = h0) (fun _ _ _ _ _ => True) (fun _ U o U' => ∃ v L, o = .returned v ∧ Q7_2 Z c0 c1 h0 n0 v U'.heap L ∧ FrameEnd U o U' L ({ frames := 4, cells := 3, slots := 8, locals := 70 } : Room).cells ({ frames := 4, cells := 3, slots := 8, locals := 70 } : Room).slots) := by
  refine MetFree.of_bodySF (plainFor_of_name pn_7) hisR ?_
  intro p e s m args below meth c s₁ Bd hml0 hP hK
  obtain ⟨rfl, hZ, hh⟩ := hP
  have hx := Bd.exec
  have hby := Bd.bytes
  have hlk : meth.locks = false := BodyLoose.notSynchronized Bd
  have hml : c.maxLocals = 2 := hml0
  have hown : s.vm.findClass "com/example/lit2/lit2/weave/TexOutputDropFinalBreakPinLaw" = some m.cls := findClass_of_methodNamed Bd.named
  have hnm := (name_of_methodNamed Bd.named Bd.method).1
  have X0 : Stand p l e ({ frames := 4, cells := 3, slots := 8, locals := 70 } : Room) s m #[(.int (2 : Int32)), (.ref a2)] below meth c s₁ [] 0 0 := Stand.of_body Bd
  have e0 : s₁.heap = h0 := by rw [← hh, Bd.state]; rfl
  have N0 := Fr.nil n0
  have Zz := Z0
  have Kp : Keep h0 h0 [] := Keep.refl _ _
  show OwnEnds p e below s (Q7_2 Z c0 c1 h0 n0) ({ frames := 4, cells := 3, slots := 8, locals := 70 } : Room).cells ({ frames := 4, cells := 3, slots := 8, locals := 70 } : Room).slots s₁ (entryFrame m #[(.int (2 : Int32)), (.ref a2)] 2)
  refine own_step (T' := s₁) (f' := (mkF m 0 #[.val (.int (2 : Int32)), .val (.ref a2)] [])) (fun t k => castTop (ef_rm7_2 m (2 : Int32) a2) k) ?_
  refine own_step (T' := s₁) (f' := (mkF m 1 #[.val (.int (2 : Int32)), .val (.ref a2)] [(.int (2 : Int32))])) (fun t k => XS.iloadN X0.here hx rfl (hb hby d7_0) rfl k) ?_
  refine own_step (T' := s₁) (f' := (mkF m 15 #[.val (.int (2 : Int32)), .val (.ref a2)] [])) (fun t k => XS.ifYes X0.here hx rfl (pc0 := 1) (pc' := 15) rfl (hb hby d7_1) rfl ((if0 _ _).trans (tlt (by decide : (0 : Int32) < (2 : Int32))).2.2.1) (by decide) (by decide) k) ?_
  refine own_step (T' := s₁) (f' := (mkF m 16 #[.val (.int (2 : Int32)), .val (.ref a2)] [(.int (2 : Int32))])) (fun t k => XS.iloadN X0.here hx rfl (hb hby d7_15) rfl k) ?_
  refine own_step (T' := s₁) (f' := (mkF m 17 #[.val (.int (2 : Int32)), .val (.ref a2)] [(.int (1 : Int32)), (.int (2 : Int32))])) (fun t k => XS.iconst X0.here hx rfl (hb hby d7_16) k) ?_
  refine own_step (T' := s₁) (f' := (mkF m 37 #[.val (.int (2 : Int32)), .val (.ref a2)] [])) (fun t k => XS.icmpYes X0.here hx rfl (pc0 := 17) (pc' := 37) rfl (hb hby d7_17) rfl (feq (by decide : ¬ ((2 : Int32) = (1 : Int32)))).2 (by decide) (by decide) k) ?_
  refine own_step (T' := s₁) (f' := (mkF m 38 #[.val (.int (2 : Int32)), .val (.ref a2)] [(.int (2 : Int32))])) (fun t k => XS.iloadN X0.here hx rfl (hb hby d7_37) rfl k) ?_
  refine own_step (T' := s₁) (f' := (mkF m 39 #[.val (.int (2 : Int32)), .val (.ref a2)] [(.int (2 : Int32)), (.int (2 : Int32))])) (fun t k => XS.iconst X0.here hx rfl (hb hby d7_38) k) ?_
  refine own_step (T' := s₁) (f' := (mkF m 42 #[.val (.int (2 : Int32)), .val (.ref a2)] [])) (fun t k => XS.icmpNo X0.here hx rfl (hb hby d7_39) rfl (teq (by decide : (2 : Int32) = (2 : Int32))).2 k) ?_
  obtain ⟨T1, h1, X1, e1, E1, A1, D1, -, st1⟩ := newO X0 hx hZ hown (hw _ (List.mem_of_getElem? (i := 40) rfl)) (hw _ (List.mem_of_getElem? (i := 41) rfl)) (hw _ (List.mem_of_getElem? (i := 42) rfl)) e0 (g := (mkF m 42 #[.val (.int (2 : Int32)), .val (.ref a2)] [])) rfl (hb hby d7_42) (by decide) (by decide)
  obtain ⟨b1, g1⟩ : ∃ z, z = h0.size := ⟨_, rfl⟩
  rw [← g1] at A1 D1 st1
  have ne_a2_b1 : a2 ≠ b1 := Nat.ne_of_lt (Nat.lt_of_lt_of_le V_a2.lt (Nat.le_of_eq g1.symm))
  have g_b1 : n0 ≤ b1 := Nat.le_trans Zz (Nat.le_of_eq g1.symm)
  have sz_b1 : h0.size ≤ b1 := Nat.le_trans Kp.1 (Nat.le_of_eq g1.symm)
  replace V_a2 := V_a2.ext E1
  replace S_CS := S_CS.ext E1
  replace Zz := Nat.le_trans Zz E1.1
  replace Kp := Kp.ext E1
  have E_b1 := A1
  have F_coder_b1 : Fld Z h1 b1 "java/lang/String" "coder" "B" (.int (0 : Int32)) := D1 (Or.inr (hw _ (List.mem_of_getElem? (i := 63) rfl))) (ty := .byte) (by decide)
  have F_value_b1 : Fld Z h1 b1 "java/lang/String" "value" "[B" .null := D1 (Or.inr (hw _ (List.mem_of_getElem? (i := 65) rfl))) (ty := (.array .byte)) (by decide)
  refine own_step (T' := T1) (f' := (mkF m 45 #[.val (.int (2 : Int32)), .val (.ref a2)] [(.ref b1)])) (fun t k => st1 t k) ?_
  refine own_step (T' := T1) (f' := (mkF m 46 #[.val (.int (2 : Int32)), .val (.ref a2)] [(.ref b1), (.ref b1)])) (fun t k => XS.dup X1.here hx rfl (hb hby d7_45) rfl rfl k) ?_
  refine own_step (T' := T1) (f' := (mkF m 47 #[.val (.int (2 : Int32)), .val (.ref a2)] [(.int (2 : Int32)), (.ref b1), (.ref b1)])) (fun t k => XS.iconst X1.here hx rfl (hb hby d7_46) k) ?_
  obtain ⟨T2, h2, k2, X2, e2, E2, A2, EX2, st2⟩ := newPE X1 hx hZ (hw _ (List.mem_of_getElem? (i := 0) rfl)) e1 (g := (mkF m 47 #[.val (.int (2 : Int32)), .val (.ref a2)] [(.int (2 : Int32)), (.ref b1), (.ref b1)])) rfl (hb hby d7_47) rfl (by decide) (cap := 2) (by decide) (by decide) (by decide) (by decide) (ad := "[C") rfl
  obtain ⟨b2, g2⟩ : ∃ z, z = h1.size := ⟨_, rfl⟩
  rw [← g2] at A2 EX2 st2
  have ne_a2_b2 : a2 ≠ b2 := Nat.ne_of_lt (Nat.lt_of_lt_of_le V_a2.lt (Nat.le_of_eq g2.symm))
  have ne_b1_b2 : b1 ≠ b2 := Nat.ne_of_lt (Nat.lt_of_lt_of_le E_b1.lt (Nat.le_of_eq g2.symm))
  have g_b2 : n0 ≤ b2 := Nat.le_trans Zz (Nat.le_of_eq g2.symm)
  have sz_b2 : h0.size ≤ b2 := Nat.le_trans Kp.1 (Nat.le_of_eq g2.symm)
  replace V_a2 := V_a2.ext E2
  replace S_CS := S_CS.ext E2
  replace E_b1 := E_b1.ext E2
  replace F_coder_b1 := F_coder_b1.ext E2
  replace F_value_b1 := F_value_b1.ext E2
  replace Zz := Nat.le_trans Zz E2.1
  replace Kp := Kp.ext E2
  have V_b2 : Arv Z h2 b2 k2 .char (2 : Int32) [(.int (0 : Int32)), (.int (0 : Int32))] (.int (0 : Int32)) := (Arv.new A2 (by decide)).pad (pad_rep [] (.int (0 : Int32)) 2)
  have EX_b2 := EX2
  refine own_step (T' := T2) (f' := (mkF m 49 #[.val (.int (2 : Int32)), .val (.ref a2)] [(.ref b2), (.ref b1), (.ref b1)])) (fun t k => st2 t k) ?_
  refine own_step (T' := T2) (f' := (mkF m 50 #[.val (.int (2 : Int32)), .val (.ref a2)] [(.ref b2), (.ref b2), (.ref b1), (.ref b1)])) (fun t k => XS.dup X2.here hx rfl (hb hby d7_49) rfl rfl k) ?_
  refine own_step (T' := T2) (f' := (mkF m 51 #[.val (.int (2 : Int32)), .val (.ref a2)] [(.int (0 : Int32)), (.ref b2), (.ref b2), (.ref b1), (.ref b1)])) (fun t k => XS.iconst X2.here hx rfl (hb hby d7_50) k) ?_
  refine own_step (T' := T2) (f' := (mkF m 52 #[.val (.int (2 : Int32)), .val (.ref a2)] [(.ref a2), (.int (0 : Int32)), (.ref b2), (.ref b2), (.ref b1), (.ref b1)])) (fun t k => XS.aloadN X2.here hx rfl (hb hby d7_51) rfl rfl k) ?_
  refine own_step (T' := T2) (f' := (mkF m 53 #[.val (.int (2 : Int32)), .val (.ref a2)] [(.int (0 : Int32)), (.ref a2), (.int (0 : Int32)), (.ref b2), (.ref b2), (.ref b1), (.ref b1)])) (fun t k => XS.iconst X2.here hx rfl (hb hby d7_52) k) ?_
  obtain ⟨cl3, Ar3, q3, S3, M3, H3, G3⟩ := id V_a2
  have hin3 : ¬ ((0 : Int32) < 0 ∨ cl3.slots.size ≤ ((0 : Int32)).toNatClampNeg) := inb_of S3 ⟨by decide, by decide⟩
  have hat3 : cl3.slots[((0 : Int32)).toNatClampNeg]? = some (.int c0) := own_at hin3 H3 0 rfl rfl
  refine own_step (T' := T2) (f' := (mkF m 54 #[.val (.int (2 : Int32)), .val (.ref a2)] [(.int c0), (.int (0 : Int32)), (.ref b2), (.ref b2), (.ref b1), (.ref b1)])) (fun t k => X2.caload hx (j := (0 : Int32)) (v := (.int c0)) (by rw [e2]; exact Ar3.1) (State.isArrayOf_alike hZ.alike Ar3.2.1) Ar3.2.2 hin3 hat3 (g := (mkF m 53 #[.val (.int (2 : Int32)), .val (.ref a2)] [(.int (0 : Int32)), (.ref a2), (.int (0 : Int32)), (.ref b2), (.ref b2), (.ref b1), (.ref b1)])) rfl rfl (hb hby d7_53) _ k) ?_
  obtain ⟨cl4, Ar4, q4, S4, M4, H4, G4⟩ := V_b2
  have hin4 : ¬ ((0 : Int32) < 0 ∨ cl4.slots.size ≤ ((0 : Int32)).toNatClampNeg) := inb_of S4 ⟨by decide, by decide⟩
  obtain ⟨T4, h4, X4, e4, W4, st4⟩ := stC X2 hx hZ e2 Ar4 (j := (0 : Int32)) hin4 (g := (mkF m 54 #[.val (.int (2 : Int32)), .val (.ref a2)] [(.int c0), (.int (0 : Int32)), (.ref b2), (.ref b2), (.ref b1), (.ref b1)])) rfl rfl (hb hby d7_54)
  have V_b2 : Arv Z h4 b2 k2 .char (2 : Int32) [(.int c0), (.int (0 : Int32))] (.int (0 : Int32)) := by have q := Arv.set Ar4 q4 S4 M4 H4 G4 (fits_nar_char _) W4 0 rfl (Nat.le_of_ble_eq_true rfl); rw [own_nc hC0] at q; exact q
  replace V_a2 := V_a2.other W4 ne_a2_b2
  replace S_CS := S_CS.wr W4
  replace E_b1 := E_b1.wr W4
  replace F_coder_b1 := F_coder_b1.other W4 (Or.inl ne_b1_b2)
  replace F_value_b1 := F_value_b1.other W4 (Or.inl ne_b1_b2)
  replace EX_b2 := EX_b2.wr W4
  replace Zz := Nat.le_trans Zz (Keep.of_wr W4).1
  replace Kp := Kp.wr W4 (Or.inr sz_b2)
  have N4 := Fr.snoc X4 N0 g_b2
  refine own_step (T' := T4) (f' := (mkF m 55 #[.val (.int (2 : Int32)), .val (.ref a2)] [(.ref b2), (.ref b1), (.ref b1)])) (fun t k => st4 t k) ?_
  refine own_step (T' := T4) (f' := (mkF m 56 #[.val (.int (2 : Int32)), .val (.ref a2)] [(.ref b2), (.ref b2), (.ref b1), (.ref b1)])) (fun t k => XS.dup X4.here hx rfl (hb hby d7_55) rfl rfl k) ?_
  refine own_step (T' := T4) (f' := (mkF m 57 #[.val (.int (2 : Int32)), .val (.ref a2)] [(.int (1 : Int32)), (.ref b2), (.ref b2), (.ref b1), (.ref b1)])) (fun t k => XS.iconst X4.here hx rfl (hb hby d7_56) k) ?_
  refine own_step (T' := T4) (f' := (mkF m 58 #[.val (.int (2 : Int32)), .val (.ref a2)] [(.ref a2), (.int (1 : Int32)), (.ref b2), (.ref b2), (.ref b1), (.ref b1)])) (fun t k => XS.aloadN X4.here hx rfl (hb hby d7_57) rfl rfl k) ?_
  refine own_step (T' := T4) (f' := (mkF m 59 #[.val (.int (2 : Int32)), .val (.ref a2)] [(.int (1 : Int32)), (.ref a2), (.int (1 : Int32)), (.ref b2), (.ref b2), (.ref b1), (.ref b1)])) (fun t k => XS.iconst X4.here hx rfl (hb hby d7_58) k) ?_
  obtain ⟨cl5, Ar5, q5, S5, M5, H5, G5⟩ := id V_a2
  have hin5 : ¬ ((1 : Int32) < 0 ∨ cl5.slots.size ≤ ((1 : Int32)).toNatClampNeg) := inb_of S5 ⟨by decide, by decide⟩
  have hat5 : cl5.slots[((1 : Int32)).toNatClampNeg]? = some (.int c1) := own_at hin5 H5 1 rfl rfl
  refine own_step (T' := T4) (f' := (mkF m 60 #[.val (.int (2 : Int32)), .val (.ref a2)] [(.int c1), (.int (1 : Int32)), (.ref b2), (.ref b2), (.ref b1), (.ref b1)])) (fun t k => X4.caload hx (j := (1 : Int32)) (v := (.int c1)) (by rw [e4]; exact Ar5.1) (State.isArrayOf_alike hZ.alike Ar5.2.1) Ar5.2.2 hin5 hat5 (g := (mkF m 59 #[.val (.int (2 : Int32)), .val (.ref a2)] [(.int (1 : Int32)), (.ref a2), (.int (1 : Int32)), (.ref b2), (.ref b2), (.ref b1), (.ref b1)])) rfl rfl (hb hby d7_59) _ k) ?_
  obtain ⟨cl6, Ar6, q6, S6, M6, H6, G6⟩ := V_b2
  have hin6 : ¬ ((1 : Int32) < 0 ∨ cl6.slots.size ≤ ((1 : Int32)).toNatClampNeg) := inb_of S6 ⟨by decide, by decide⟩
  obtain ⟨T6, h6, X6, e6, W6, st6⟩ := stC X4 hx hZ e4 Ar6 (j := (1 : Int32)) hin6 (g := (mkF m 60 #[.val (.int (2 : Int32)), .val (.ref a2)] [(.int c1), (.int (1 : Int32)), (.ref b2), (.ref b2), (.ref b1), (.ref b1)])) rfl rfl (hb hby d7_60)
  have V_b2 : Arv Z h6 b2 k2 .char (2 : Int32) [(.int c0), (.int c1)] (.int (0 : Int32)) := by have q := Arv.set Ar6 q6 S6 M6 H6 G6 (fits_nar_char _) W6 1 rfl (Nat.le_of_ble_eq_true rfl); rw [own_nc hC1] at q; exact q
  replace V_a2 := V_a2.other W6 ne_a2_b2
  replace S_CS := S_CS.wr W6
  replace E_b1 := E_b1.wr W6
  replace F_coder_b1 := F_coder_b1.other W6 (Or.inl ne_b1_b2)
  replace F_value_b1 := F_value_b1.other W6 (Or.inl ne_b1_b2)
  replace EX_b2 := EX_b2.wr W6
  replace Zz := Nat.le_trans Zz (Keep.of_wr W6).1
  replace Kp := Kp.wr W6 (Or.inr sz_b2)
  have N6 := Fr.snoc X6 N4 g_b2
  refine own_step (T' := T6) (f' := (mkF m 61 #[.val (.int (2 : Int32)), .val (.ref a2)] [(.ref b2), (.ref b1), (.ref b1)])) (fun t k => st6 t k) ?_
  obtain ⟨_, _, ⟨T7, L7, k7, n7⟩, -, X7, ⟨Lc7, hQ7, l7, y7, z7⟩, st7⟩ := X6.specialBack hx (y := (⟨"java/lang/String", "<init>", "([C)V"⟩ : MethodName)) rfl hown (mvT hZ (hw _ (List.mem_of_getElem? (i := 43) rfl))) (mvT hZ (hw _ (List.mem_of_getElem? (i := 44) rfl))) (mvT hZ (hw _ (List.mem_of_getElem? (i := 45) rfl))) (by decide) (backOf (W := 1) (rm8_2 l Z a0 hw [] b1 b2 h6 n0 Zz E_b1 F_value_b1 F_coder_b1 g_b1 k2 c0 c1 hC0 hC1 V_b2 cs S_CS hcs ne_b1_b2) hZ (hw _ (List.mem_of_getElem? (i := 45) rfl)) (hw _ (List.mem_of_getElem? (i := 42) rfl)) (by decide) (by decide)) (g := (mkF m 61 #[.val (.int (2 : Int32)), .val (.ref a2)] [(.ref b2), (.ref b1), (.ref b1)])) rfl (by rw [hml]; rfl) (Steps.refl _) (a := b1) (argsL := [(.ref b2)]) (rest := [(.ref b1)]) (lenOf pd_7_0 rfl) rfl (by show 2 * 0 + _ ≤ _; exact Nat.le_of_eq rfl) (hb hby d7_61) (fun _ _ => ⟨rfl, e6, (by decide : 2 + 1 ≤ _), (by decide : 6 + 2 ≤ _)⟩)
  dsimp only [Pt.U, Pt.locs, Pt.cells, Pt.slots] at X7 l7 y7 z7 st7 hQ7
  subst l7 y7 z7
  obtain ⟨rfl, N7q, K7, sb7, sk7, Os7⟩ := hQ7
  have N7 := Fr.app N6 N7q
  replace S_CS := own_sta_keep S_CS K7 (allS ⟨_, E_b1⟩ all0)
  replace V_a2 := V_a2.keep K7 (ninS ne_a2_b1 nin0)
  replace E_b1 := E_b1.keep K7
  replace V_b2 := V_b2.keep K7 (ninS (Ne.symm ne_b1_b2) nin0)
  replace EX_b2 := EX_b2.keep K7
  replace Zz := Nat.le_trans Zz K7.1
  replace Kp := Kp.trans K7 (allS (Or.inr sz_b1) all0)
  refine own_step (T' := T7) (f' := (mkF m 64 #[.val (.int (2 : Int32)), .val (.ref a2)] [(.ref b1)])) (fun t k => st7.trans k) ?_
  exact own_retO X7 hx hlk Bd.returns rfl (Or.inr (Or.inr (Or.inr (Or.inr ⟨rfl, rfl, rfl⟩)))) (hb hby d7_64) (by decide) (by decide) ⟨b1, sb7, sk7, rfl, N7, Kp, Os7⟩

theorem ef_rm14_3 (m : MethodId) (x0 : Addr) : entryFrame m #[(.ref x0)] 1 = mkF m 0 #[.val (.ref x0)] [] := by first | (simp [entryFrame, mkF, argsToLocals, Value.category]; done) | rfl
set_option maxRecDepth 65536 in
set_option maxHeartbeats 40000000 in
theorem rm14_3 (l : Launch) (Z : State) (a0 : Array Value) (hw : ∀ d ∈ tables_1, d.before a0 Z = true) (ws : List Jvm.Cond) (a1 : Addr) (h0 : Heap) (n0 : Nat) (Z0 : n0 ≤ h0.size) (b : Addr) (kb : ClassId) (y0 y1 y2 : Int32) (O : OwnStr Z h0 a1 b kb 3 [(.int y0), (.int y1), (.int y2)]) (cs : Int32) (S_CS : Sta Z h0 "java/lang/String" "COMPACT_STRINGS" "Z" (.int cs)) (hcs : ¬ cs = (0 : Int32)) :
    MetFree l (⟨"java/lang/String", "length", "()I"⟩ : MethodName) (head1 (Jvm.Cond.code (⟨"java/lang/String", "length", "()I"⟩ : MethodName) jdk_42_method_54_code 1 (some .int) :: ws) ({ frames := 1, cells := 0, slots := 0, locals := 13 } : Room)) (fun a U => a = #[(.ref a1)] ∧ Z.Warmed39 U.vm ∧ U.heap = h0) (fun _ _ _ _ _ => True) (fun _ U o U' => ∃ v L, o = .returned v ∧ QI 3 h0 n0 v U'.heap L ∧ FrameEnd U o U' L ({ frames := 1, cells := 0, slots := 0, locals := 13 } : Room).cells ({ frames := 1, cells := 0, slots := 0, locals := 13 } : Room).slots) := by
  refine MetFree.of_bodySF (plainFor_of_name pn_14) hisR ?_
  intro p e s m args below meth c s₁ Bd hml0 hP hK
  obtain ⟨rfl, hZ, hh⟩ := hP
  have hx := Bd.exec
  have hby := Bd.bytes
  have hlk : meth.locks = false := BodyLoose.notSynchronized Bd
  have hml : c.maxLocals = 1 := hml0
  have hown : s.vm.findClass "java/lang/String" = some m.cls := findClass_of_methodNamed Bd.named
  have hnm := (name_of_methodNamed Bd.named Bd.method).1
  have X0 : Stand p l e ({ frames := 1, cells := 0, slots := 0, locals := 13 } : Room) s m #[(.ref a1)] below meth c s₁ [] 0 0 := Stand.of_body Bd
  have e0 : s₁.heap = h0 := by rw [← hh, Bd.state]; rfl
  have N0 := Fr.nil n0
  have Zz := Z0
  have Kp : Keep h0 h0 [] := Keep.refl _ _
  have V_b := O.2.2.2
  show OwnEnds p e below s (QI 3 h0 n0) ({ frames := 1, cells := 0, slots := 0, locals := 13 } : Room).cells ({ frames := 1, cells := 0, slots := 0, locals := 13 } : Room).slots s₁ (entryFrame m #[(.ref a1)] 1)
  refine own_step (T' := s₁) (f' := (mkF m 0 #[.val (.ref a1)] [])) (fun t k => castTop (ef_rm14_3 m a1) k) ?_
  refine own_step (T' := s₁) (f' := (mkF m 1 #[.val (.ref a1)] [(.ref a1)])) (fun t k => XS.aloadN X0.here hx rfl (hb hby d14_0) rfl rfl k) ?_
  obtain ⟨T1, X1, e1, st1⟩ := getF X0 hx hZ hown (host := "") (Or.inl (hw _ (List.mem_of_getElem? (i := 64) rfl))) Via.refl e0 O.2.2.1 (g := (mkF m 1 #[.val (.ref a1)] [(.ref a1)])) rfl rfl (hb hby d14_1)
  refine own_step (T' := T1) (f' := (mkF m 4 #[.val (.ref a1)] [(.ref b)])) (fun t k => st1 t k) ?_
  obtain ⟨cl2, Ar2, q2, S2, M2, H2, G2⟩ := id V_b
  refine own_step (T' := T1) (f' := (mkF m 5 #[.val (.ref a1)] [(.int (3 : Int32))])) (fun t k => X1.arraylength hx (by rw [e1]; exact Ar2.1) (State.isArrayOf_alike hZ.alike Ar2.2.1) (g := (mkF m 4 #[.val (.ref a1)] [(.ref b)])) rfl rfl (hb hby d14_4) _ (by rw [len_of S2 M2]; exact k)) ?_
  refine own_step (T' := T1) (f' := (mkF m 6 #[.val (.ref a1)] [(.ref a1), (.int (3 : Int32))])) (fun t k => XS.aloadN X1.here hx rfl (hb hby d14_5) rfl rfl k) ?_
  obtain ⟨cq3, kq3, q3a, q3b, q3c⟩ := isOf hZ e1 O.1
  obtain ⟨_, _, ⟨T3, L3, k3, n3⟩, -, X3, ⟨Lc3, hQ3, l3, y3, z3⟩, st3⟩ := X1.virtualBack hx (y := (⟨"java/lang/String", "coder", "()B"⟩ : MethodName)) (z := (⟨"java/lang/String", "coder", "()B"⟩ : MethodName)) hown (mvT hZ (hw _ (List.mem_of_getElem? (i := 76) rfl))) (mvT hZ (hw _ (List.mem_of_getElem? (i := 77) rfl))) (notFace_of_selects (args := #[]) (mvT hZ (hw _ (List.mem_of_getElem? (i := 79) rfl)))) (mvT hZ (hw _ (List.mem_of_getElem? (i := 79) rfl))) (mvT hZ (hw _ (List.mem_of_getElem? (i := 78) rfl))) (by decide) (backOf (W := 1) (rm15 l Z a0 hw [] a1 h0 n0 Zz O.2.1 cs S_CS hcs) hZ (hw _ (List.mem_of_getElem? (i := 80) rfl)) (hw _ (List.mem_of_getElem? (i := 42) rfl)) (by decide) (by decide)) q3a q3c (g := (mkF m 6 #[.val (.ref a1)] [(.ref a1), (.int (3 : Int32))])) rfl (by rw [hml]; rfl) (Steps.refl _) (argsL := []) (rest := [(.int (3 : Int32))]) (lenOf pd_14_0 rfl) rfl (by show 2 * 0 + _ ≤ _; exact Nat.le_of_eq rfl) (hb hby d14_6) (fun _ _ => ⟨rfl, e1, (by decide : 0 + 0 ≤ _), (by decide : 0 + 0 ≤ _)⟩)
  dsimp only [Pt.U, Pt.locs, Pt.cells, Pt.slots] at X3 l3 y3 z3 st3 hQ3
  subst l3 y3 z3
  obtain ⟨rfl, N3q, E3⟩ := hQ3
  have N3 := Fr.app N0 N3q
  refine own_step (T' := T3) (f' := (mkF m 9 #[.val (.ref a1)] [(.int (0 : Int32)), (.int (3 : Int32))])) (fun t k => st3.trans k) ?_
  refine own_step (T' := T3) (f' := (mkF m 10 #[.val (.ref a1)] [(.int ((3 : Int32) >>> ((0 : Int32) &&& 31)))])) (fun t k => XS.ishr X3.here hx rfl (hb hby d14_9) rfl k) ?_
  exact own_retO X3 hx hlk Bd.returns rfl (Or.inl ⟨rfl, Or.inl rfl, _, rfl⟩) (hb hby d14_10) (by decide) (by decide) ⟨rfl, N3, E3⟩

theorem ef_rm20_3_0 (m : MethodId) (x0 : Int32) (x1 : Int32) (x2 : Value) (hv : x2.category = 1) : entryFrame m #[(.int x0), (.int x1), x2] 3 = mkF m 0 #[.val (.int x0), .val (.int x1), .val x2] [] := by cases x2 <;> first | (simp [entryFrame, mkF, argsToLocals, Value.category]; done) | (simp [Value.category] at hv; done)
set_option maxRecDepth 65536 in
set_option maxHeartbeats 40000000 in
theorem rm20_3_0 (l : Launch) (Z : State) (a0 : Array Value) (hw : ∀ d ∈ tables_1, d.before a0 Z = true) (ws : List Jvm.Cond) (fm : Value) (h0 : Heap) (n0 : Nat) (Z0 : n0 ≤ h0.size) (hfc : fm.category = 1) :
    MetFree l (⟨"jdk/internal/util/Preconditions", "checkIndex", "(IILjava/util/function/BiFunction;)I"⟩ : MethodName) (head1 (Jvm.Cond.code (⟨"jdk/internal/util/Preconditions", "checkIndex", "(IILjava/util/function/BiFunction;)I"⟩ : MethodName) jdk_41_method_11_code 3 (some .int) :: ws) ({ frames := 0, cells := 0, slots := 0, locals := 0 } : Room)) (fun a U => a = #[(.int (0 : Int32)), (.int (3 : Int32)), fm] ∧ Z.Warmed39 U.vm ∧ U.heap = h0) (fun _ _ _ _ _ => True) (fun _ U o U' => ∃ v L, o = .returned v ∧ QI 0 h0 n0 v U'.heap L ∧ FrameEnd U o U' L ({ frames := 0, cells := 0, slots := 0, locals := 0 } : Room).cells ({ frames := 0, cells := 0, slots := 0, locals := 0 } : Room).slots) := by
  refine MetFree.of_bodySF (plainFor_of_name pn_20) hisR ?_
  intro p e s m args below meth c s₁ Bd hml0 hP hK
  obtain ⟨rfl, hZ, hh⟩ := hP
  have hx := Bd.exec
  have hby := Bd.bytes
  have hlk : meth.locks = false := BodyLoose.notSynchronized Bd
  have hml : c.maxLocals = 3 := hml0
  have hown : s.vm.findClass "jdk/internal/util/Preconditions" = some m.cls := findClass_of_methodNamed Bd.named
  have hnm := (name_of_methodNamed Bd.named Bd.method).1
  have X0 : Stand p l e ({ frames := 0, cells := 0, slots := 0, locals := 0 } : Room) s m #[(.int (0 : Int32)), (.int (3 : Int32)), fm] below meth c s₁ [] 0 0 := Stand.of_body Bd
  have e0 : s₁.heap = h0 := by rw [← hh, Bd.state]; rfl
  have N0 := Fr.nil n0
  show OwnEnds p e below s (QI 0 h0 n0) ({ frames := 0, cells := 0, slots := 0, locals := 0 } : Room).cells ({ frames := 0, cells := 0, slots := 0, locals := 0 } : Room).slots s₁ (entryFrame m #[(.int (0 : Int32)), (.int (3 : Int32)), fm] 3)
  refine own_step (T' := s₁) (f' := (mkF m 0 #[.val (.int (0 : Int32)), .val (.int (3 : Int32)), .val fm] [])) (fun t k => castTop (ef_rm20_3_0 m (0 : Int32) (3 : Int32) fm hfc) k) ?_
  refine own_step (T' := s₁) (f' := (mkF m 1 #[.val (.int (0 : Int32)), .val (.int (3 : Int32)), .val fm] [(.int (0 : Int32))])) (fun t k => XS.iloadN X0.here hx rfl (hb hby d20_0) rfl k) ?_
  refine own_step (T' := s₁) (f' := (mkF m 4 #[.val (.int (0 : Int32)), .val (.int (3 : Int32)), .val fm] [])) (fun t k => XS.ifNo X0.here hx rfl (hb hby d20_1) rfl ((if0 _ _).trans (flt (by decide : ¬ ((0 : Int32) < (0 : Int32)))).1) k) ?_
  refine own_step (T' := s₁) (f' := (mkF m 5 #[.val (.int (0 : Int32)), .val (.int (3 : Int32)), .val fm] [(.int (0 : Int32))])) (fun t k => XS.iloadN X0.here hx rfl (hb hby d20_4) rfl k) ?_
  refine own_step (T' := s₁) (f' := (mkF m 6 #[.val (.int (0 : Int32)), .val (.int (3 : Int32)), .val fm] [(.int (3 : Int32)), (.int (0 : Int32))])) (fun t k => XS.iloadN X0.here hx rfl (hb hby d20_5) rfl k) ?_
  refine own_step (T' := s₁) (f' := (mkF m 16 #[.val (.int (0 : Int32)), .val (.int (3 : Int32)), .val fm] [])) (fun t k => XS.icmpYes X0.here hx rfl (pc0 := 6) (pc' := 16) rfl (hb hby d20_6) rfl (tlt (by decide : (0 : Int32) < (3 : Int32))).1 (by decide) (by decide) k) ?_
  refine own_step (T' := s₁) (f' := (mkF m 17 #[.val (.int (0 : Int32)), .val (.int (3 : Int32)), .val fm] [(.int (0 : Int32))])) (fun t k => XS.iloadN X0.here hx rfl (hb hby d20_16) rfl k) ?_
  exact own_retO X0 hx hlk Bd.returns rfl (Or.inl ⟨rfl, Or.inl rfl, _, rfl⟩) (hb hby d20_17) (by decide) (by decide) ⟨rfl, N0, e0⟩

theorem ef_rm19_3_0 (m : MethodId) (x0 : Int32) (x1 : Int32) : entryFrame m #[(.int x0), (.int x1)] 2 = mkF m 0 #[.val (.int x0), .val (.int x1)] [] := by first | (simp [entryFrame, mkF, argsToLocals, Value.category]; done) | rfl
set_option maxRecDepth 65536 in
set_option maxHeartbeats 40000000 in
theorem rm19_3_0 (l : Launch) (Z : State) (a0 : Array Value) (hw : ∀ d ∈ tables_1, d.before a0 Z = true) (ws : List Jvm.Cond)  (h0 : Heap) (n0 : Nat) (Z0 : n0 ≤ h0.size) (fm : Value) (S_FM : Sta Z h0 "jdk/internal/util/Preconditions" "SIOOBE_FORMATTER" "Ljava/util/function/BiFunction;" fm) (hfc : fm.category = 1) (hfr : fm.isRef = true) :
    MetFree l (⟨"java/lang/String", "checkIndex", "(II)V"⟩ : MethodName) (head1 (Jvm.Cond.code (⟨"java/lang/String", "checkIndex", "(II)V"⟩ : MethodName) jdk_42_method_155_code 2 none :: ws) ({ frames := 1, cells := 0, slots := 0, locals := 14 } : Room)) (fun a U => a = #[(.int (0 : Int32)), (.int (3 : Int32))] ∧ Z.Warmed39 U.vm ∧ U.heap = h0) (fun _ _ _ _ _ => True) (fun _ U o U' => ∃ v L, o = .returned v ∧ QV h0 n0 v U'.heap L ∧ FrameEnd U o U' L ({ frames := 1, cells := 0, slots := 0, locals := 14 } : Room).cells ({ frames := 1, cells := 0, slots := 0, locals := 14 } : Room).slots) := by
  refine MetFree.of_bodySF (plainFor_of_name pn_19) hisR ?_
  intro p e s m args below meth c s₁ Bd hml0 hP hK
  obtain ⟨rfl, hZ, hh⟩ := hP
  have hx := Bd.exec
  have hby := Bd.bytes
  have hlk : meth.locks = false := BodyLoose.notSynchronized Bd
  have hml : c.maxLocals = 2 := hml0
  have hown : s.vm.findClass "java/lang/String" = some m.cls := findClass_of_methodNamed Bd.named
  have hnm := (name_of_methodNamed Bd.named Bd.method).1
  have X0 : Stand p l e ({ frames := 1, cells := 0, slots := 0, locals := 14 } : Room) s m #[(.int (0 : Int32)), (.int (3 : Int32))] below meth c s₁ [] 0 0 := Stand.of_body Bd
  have e0 : s₁.heap = h0 := by rw [← hh, Bd.state]; rfl
  have N0 := Fr.nil n0
  show OwnEnds p e below s (QV h0 n0) ({ frames := 1, cells := 0, slots := 0, locals := 14 } : Room).cells ({ frames := 1, cells := 0, slots := 0, locals := 14 } : Room).slots s₁ (entryFrame m #[(.int (0 : Int32)), (.int (3 : Int32))] 2)
  refine own_step (T' := s₁) (f' := (mkF m 0 #[.val (.int (0 : Int32)), .val (.int (3 : Int32))] [])) (fun t k => castTop (ef_rm19_3_0 m (0 : Int32) (3 : Int32)) k) ?_
  refine own_step (T' := s₁) (f' := (mkF m 1 #[.val (.int (0 : Int32)), .val (.int (3 : Int32))] [(.int (0 : Int32))])) (fun t k => XS.iloadN X0.here hx rfl (hb hby d19_0) rfl k) ?_
  refine own_step (T' := s₁) (f' := (mkF m 2 #[.val (.int (0 : Int32)), .val (.int (3 : Int32))] [(.int (3 : Int32)), (.int (0 : Int32))])) (fun t k => XS.iloadN X0.here hx rfl (hb hby d19_1) rfl k) ?_
  obtain ⟨T1, X1, e1, st1⟩ := getS2 X0 hx hZ hown (host := "") (Or.inl (hw _ (List.mem_of_getElem? (i := 98) rfl))) Via.refl e0 S_FM (g := (mkF m 2 #[.val (.int (0 : Int32)), .val (.int (3 : Int32))] [(.int (3 : Int32)), (.int (0 : Int32))])) rfl (hb hby d19_2)
  refine own_step (T' := T1) (f' := (mkF m 5 #[.val (.int (0 : Int32)), .val (.int (3 : Int32))] [fm, (.int (3 : Int32)), (.int (0 : Int32))])) (fun t k => st1 t k) ?_
  obtain ⟨_, _, ⟨T2, L2, k2, n2⟩, -, X2, ⟨Lc2, hQ2, l2, y2, z2⟩, st2⟩ := Jvm.LawKit.callS X1 hx (y := (⟨"jdk/internal/util/Preconditions", "checkIndex", "(IILjava/util/function/BiFunction;)I"⟩ : MethodName)) hown (mvT hZ (hw _ (List.mem_of_getElem? (i := 100) rfl))) (mvT hZ (hw _ (List.mem_of_getElem? (i := 101) rfl))) (mvT hZ (hw _ (List.mem_of_getElem? (i := 99) rfl))) (mvT hZ (hw _ (List.mem_of_getElem? (i := 102) rfl))) (by decide) (backOf (W := 0) (rm20_3_0 l Z a0 hw [] fm h0 n0 Z0 hfc) hZ (hw _ (List.mem_of_getElem? (i := 102) rfl)) (hw _ (List.mem_of_getElem? (i := 99) rfl)) (by decide) (by decide)) (g := (mkF m 5 #[.val (.int (0 : Int32)), .val (.int (3 : Int32))] [fm, (.int (3 : Int32)), (.int (0 : Int32))])) rfl (by rw [hml]; rfl) (argsL := [(.int (0 : Int32)), (.int (3 : Int32)), fm]) (rest := []) (lenOf pd_19_0 rfl) rfl (by show 2 * 0 + _ ≤ _; exact Nat.le_of_eq rfl) (hb hby d19_5) (fun _ _ => ⟨rfl, e1, (by decide : 0 + 0 ≤ _), (by decide : 0 + 0 ≤ _)⟩)
  dsimp only [Pt.U, Pt.locs, Pt.cells, Pt.slots] at X2 l2 y2 z2 st2 hQ2
  subst l2 y2 z2
  obtain ⟨rfl, N2q, E2⟩ := hQ2
  have N2 := Fr.app N0 N2q
  refine own_step (T' := T2) (f' := (mkF m 8 #[.val (.int (0 : Int32)), .val (.int (3 : Int32))] [(.int (0 : Int32))])) (fun t k => st2 t k) ?_
  refine own_step (T' := T2) (f' := (mkF m 9 #[.val (.int (0 : Int32)), .val (.int (3 : Int32))] [])) (fun t k => XS.pop X2.here hx rfl (hb hby d19_8) rfl rfl k) ?_
  exact own_retV X2 hx hlk Bd.returns (hb hby d19_9) (by decide) (by decide) ⟨rfl, N2, E2⟩

theorem ef_rm18_3_0 (m : MethodId) (x0 : Addr) (x1 : Int32) : entryFrame m #[(.ref x0), (.int x1)] 2 = mkF m 0 #[.val (.ref x0), .val (.int x1)] [] := by first | (simp [entryFrame, mkF, argsToLocals, Value.category]; done) | rfl
set_option maxRecDepth 65536 in
set_option maxHeartbeats 40000000 in
theorem rm18_3_0 (l : Launch) (Z : State) (a0 : Array Value) (hw : ∀ d ∈ tables_1, d.before a0 Z = true) (ws : List Jvm.Cond) (a1 : Addr) (h0 : Heap) (n0 : Nat) (Z0 : n0 ≤ h0.size) (kb : ClassId) (y0 y1 y2 : Int32) (V_a1 : Arv Z h0 a1 kb .byte (3 : Int32) [(.int y0), (.int y1), (.int y2)] (.int (0 : Int32))) (fm : Value) (S_FM : Sta Z h0 "jdk/internal/util/Preconditions" "SIOOBE_FORMATTER" "Ljava/util/function/BiFunction;" fm) (hfc : fm.category = 1) (hfr : fm.isRef = true) :
    MetFree l (⟨"java/lang/StringLatin1", "charAt", "([BI)C"⟩ : MethodName) (head1 (Jvm.Cond.code (⟨"java/lang/StringLatin1", "charAt", "([BI)C"⟩ : MethodName) jdk_43_method_2_code 2 (some .char) :: ws) ({ frames := 2, cells := 0, slots := 0, locals := 28 } : Room)) (fun a U => a = #[(.ref a1), (.int (0 : Int32))] ∧ Z.Warmed39 U.vm ∧ U.heap = h0) (fun _ _ _ _ _ => True) (fun _ U o U' => ∃ v L, o = .returned v ∧ QI (own_ch y0) h0 n0 v U'.heap L ∧ FrameEnd U o U' L ({ frames := 2, cells := 0, slots := 0, locals := 28 } : Room).cells ({ frames := 2, cells := 0, slots := 0, locals := 28 } : Room).slots) := by
  refine MetFree.of_bodySF (plainFor_of_name pn_18) hisR ?_
  intro p e s m args below meth c s₁ Bd hml0 hP hK
  obtain ⟨rfl, hZ, hh⟩ := hP
  have hx := Bd.exec
  have hby := Bd.bytes
  have hlk : meth.locks = false := BodyLoose.notSynchronized Bd
  have hml : c.maxLocals = 2 := hml0
  have hown : s.vm.findClass "java/lang/StringLatin1" = some m.cls := findClass_of_methodNamed Bd.named
  have hnm := (name_of_methodNamed Bd.named Bd.method).1
  have X0 : Stand p l e ({ frames := 2, cells := 0, slots := 0, locals := 28 } : Room) s m #[(.ref a1), (.int (0 : Int32))] below meth c s₁ [] 0 0 := Stand.of_body Bd
  have e0 : s₁.heap = h0 := by rw [← hh, Bd.state]; rfl
  have N0 := Fr.nil n0
  have Zz := Z0
  have Kp : Keep h0 h0 [] := Keep.refl _ _
  show OwnEnds p e below s (QI (own_ch y0) h0 n0) ({ frames := 2, cells := 0, slots := 0, locals := 28 } : Room).cells ({ frames := 2, cells := 0, slots := 0, locals := 28 } : Room).slots s₁ (entryFrame m #[(.ref a1), (.int (0 : Int32))] 2)
  refine own_step (T' := s₁) (f' := (mkF m 0 #[.val (.ref a1), .val (.int (0 : Int32))] [])) (fun t k => castTop (ef_rm18_3_0 m a1 (0 : Int32)) k) ?_
  refine own_step (T' := s₁) (f' := (mkF m 1 #[.val (.ref a1), .val (.int (0 : Int32))] [(.int (0 : Int32))])) (fun t k => XS.iloadN X0.here hx rfl (hb hby d18_0) rfl k) ?_
  refine own_step (T' := s₁) (f' := (mkF m 2 #[.val (.ref a1), .val (.int (0 : Int32))] [(.ref a1), (.int (0 : Int32))])) (fun t k => XS.aloadN X0.here hx rfl (hb hby d18_1) rfl rfl k) ?_
  obtain ⟨cl1, Ar1, q1, S1, M1, H1, G1⟩ := id V_a1
  refine own_step (T' := s₁) (f' := (mkF m 3 #[.val (.ref a1), .val (.int (0 : Int32))] [(.int (3 : Int32)), (.int (0 : Int32))])) (fun t k => X0.arraylength hx (by rw [e0]; exact Ar1.1) (State.isArrayOf_alike hZ.alike Ar1.2.1) (g := (mkF m 2 #[.val (.ref a1), .val (.int (0 : Int32))] [(.ref a1), (.int (0 : Int32))])) rfl rfl (hb hby d18_2) _ (by rw [len_of S1 M1]; exact k)) ?_
  obtain ⟨_, _, ⟨T2, L2, k2, n2⟩, -, X2, ⟨Lc2, hQ2, l2, y2, z2⟩, st2⟩ := Jvm.LawKit.callS X0 hx (y := (⟨"java/lang/String", "checkIndex", "(II)V"⟩ : MethodName)) hown (mvT hZ (hw _ (List.mem_of_getElem? (i := 95) rfl))) (mvT hZ (hw _ (List.mem_of_getElem? (i := 96) rfl))) (mvT hZ (hw _ (List.mem_of_getElem? (i := 42) rfl))) (mvT hZ (hw _ (List.mem_of_getElem? (i := 97) rfl))) (by decide) (backOf (W := 0) (rm19_3_0 l Z a0 hw [] h0 n0 Zz fm S_FM hfc hfr) hZ (hw _ (List.mem_of_getElem? (i := 97) rfl)) (hw _ (List.mem_of_getElem? (i := 42) rfl)) (by decide) (by decide)) (g := (mkF m 3 #[.val (.ref a1), .val (.int (0 : Int32))] [(.int (3 : Int32)), (.int (0 : Int32))])) rfl (by rw [hml]; rfl) (argsL := [(.int (0 : Int32)), (.int (3 : Int32))]) (rest := []) (lenOf pd_18_0 rfl) rfl (by show 2 * 0 + _ ≤ _; exact Nat.le_of_eq rfl) (hb hby d18_3) (fun _ _ => ⟨rfl, e0, (by decide : 0 + 0 ≤ _), (by decide : 0 + 0 ≤ _)⟩)
  dsimp only [Pt.U, Pt.locs, Pt.cells, Pt.slots] at X2 l2 y2 z2 st2 hQ2
  subst l2 y2 z2
  obtain ⟨rfl, N2q, E2⟩ := hQ2
  have N2 := Fr.app N0 N2q
  refine own_step (T' := T2) (f' := (mkF m 6 #[.val (.ref a1), .val (.int (0 : Int32))] [])) (fun t k => st2 t k) ?_
  refine own_step (T' := T2) (f' := (mkF m 7 #[.val (.ref a1), .val (.int (0 : Int32))] [(.ref a1)])) (fun t k => XS.aloadN X2.here hx rfl (hb hby d18_6) rfl rfl k) ?_
  refine own_step (T' := T2) (f' := (mkF m 8 #[.val (.ref a1), .val (.int (0 : Int32))] [(.int (0 : Int32)), (.ref a1)])) (fun t k => XS.iloadN X2.here hx rfl (hb hby d18_7) rfl k) ?_
  obtain ⟨cl3, Ar3, q3, S3, M3, H3, G3⟩ := id V_a1
  have hin3 : ¬ ((0 : Int32) < 0 ∨ cl3.slots.size ≤ ((0 : Int32)).toNatClampNeg) := inb_of S3 ⟨by decide, by decide⟩
  have hat3 : cl3.slots[((0 : Int32)).toNatClampNeg]? = some (.int y0) := own_at hin3 H3 0 rfl rfl
  refine own_step (T' := T2) (f' := (mkF m 9 #[.val (.ref a1), .val (.int (0 : Int32))] [(.int y0)])) (fun t k => X2.baloadBytes hx (j := (0 : Int32)) (v := (.int y0)) (by rw [E2]; exact Ar3.1) (State.isArrayOf_alike hZ.alike Ar3.2.1) Ar3.2.2 hin3 hat3 (g := (mkF m 8 #[.val (.ref a1), .val (.int (0 : Int32))] [(.int (0 : Int32)), (.ref a1)])) rfl rfl (hb hby d18_8) _ k) ?_
  refine own_step (T' := T2) (f' := (mkF m 12 #[.val (.ref a1), .val (.int (0 : Int32))] [(.int (255 : Int32)), (.int y0)])) (fun t k => XS.sipush X2.here hx rfl (hb hby d18_9) k) ?_
  refine own_step (T' := T2) (f' := (mkF m 13 #[.val (.ref a1), .val (.int (0 : Int32))] [(.int (y0 &&& (255 : Int32)))])) (fun t k => XS.iand X2.here hx rfl (hb hby d18_12) rfl k) ?_
  refine own_step (T' := T2) (f' := (mkF m 14 #[.val (.ref a1), .val (.int (0 : Int32))] [(.int ((y0 &&& (255 : Int32)).toUInt32.toUInt16.toUInt32.toInt32))])) (fun t k => XS.i2c X2.here hx rfl (hb hby d18_13) rfl k) ?_
  exact own_retN X2 hx hlk (t := .char) Bd.returns (by simp) (hb hby d18_14) (by decide) (by decide) ⟨rfl, N2, E2⟩

theorem ef_rm16_3_0 (m : MethodId) (x0 : Addr) (x1 : Int32) : entryFrame m #[(.ref x0), (.int x1)] 2 = mkF m 0 #[.val (.ref x0), .val (.int x1)] [] := by first | (simp [entryFrame, mkF, argsToLocals, Value.category]; done) | rfl
set_option maxRecDepth 65536 in
set_option maxHeartbeats 40000000 in
theorem rm16_3_0 (l : Launch) (Z : State) (a0 : Array Value) (hw : ∀ d ∈ tables_1, d.before a0 Z = true) (ws : List Jvm.Cond) (a1 : Addr) (h0 : Heap) (n0 : Nat) (Z0 : n0 ≤ h0.size) (b : Addr) (kb : ClassId) (y0 y1 y2 : Int32) (O : OwnStr Z h0 a1 b kb 3 [(.int y0), (.int y1), (.int y2)]) (cs : Int32) (S_CS : Sta Z h0 "java/lang/String" "COMPACT_STRINGS" "Z" (.int cs)) (hcs : ¬ cs = (0 : Int32)) (fm : Value) (S_FM : Sta Z h0 "jdk/internal/util/Preconditions" "SIOOBE_FORMATTER" "Ljava/util/function/BiFunction;" fm) (hfc : fm.category = 1) (hfr : fm.isRef = true) :
    MetFree l (⟨"java/lang/String", "charAt", "(I)C"⟩ : MethodName) (head1 (Jvm.Cond.code (⟨"java/lang/String", "charAt", "(I)C"⟩ : MethodName) jdk_42_method_56_code 2 (some .char) :: ws) ({ frames := 3, cells := 0, slots := 0, locals := 42 } : Room)) (fun a U => a = #[(.ref a1), (.int (0 : Int32))] ∧ Z.Warmed39 U.vm ∧ U.heap = h0) (fun _ _ _ _ _ => True) (fun _ U o U' => ∃ v L, o = .returned v ∧ QI (own_ch y0) h0 n0 v U'.heap L ∧ FrameEnd U o U' L ({ frames := 3, cells := 0, slots := 0, locals := 42 } : Room).cells ({ frames := 3, cells := 0, slots := 0, locals := 42 } : Room).slots) := by
  refine MetFree.of_bodySF (plainFor_of_name pn_16) hisR ?_
  intro p e s m args below meth c s₁ Bd hml0 hP hK
  obtain ⟨rfl, hZ, hh⟩ := hP
  have hx := Bd.exec
  have hby := Bd.bytes
  have hlk : meth.locks = false := BodyLoose.notSynchronized Bd
  have hml : c.maxLocals = 2 := hml0
  have hown : s.vm.findClass "java/lang/String" = some m.cls := findClass_of_methodNamed Bd.named
  have hnm := (name_of_methodNamed Bd.named Bd.method).1
  have X0 : Stand p l e ({ frames := 3, cells := 0, slots := 0, locals := 42 } : Room) s m #[(.ref a1), (.int (0 : Int32))] below meth c s₁ [] 0 0 := Stand.of_body Bd
  have e0 : s₁.heap = h0 := by rw [← hh, Bd.state]; rfl
  have N0 := Fr.nil n0
  show OwnEnds p e below s (QI (own_ch y0) h0 n0) ({ frames := 3, cells := 0, slots := 0, locals := 42 } : Room).cells ({ frames := 3, cells := 0, slots := 0, locals := 42 } : Room).slots s₁ (entryFrame m #[(.ref a1), (.int (0 : Int32))] 2)
  refine own_step (T' := s₁) (f' := (mkF m 0 #[.val (.ref a1), .val (.int (0 : Int32))] [])) (fun t k => castTop (ef_rm16_3_0 m a1 (0 : Int32)) k) ?_
  refine own_step (T' := s₁) (f' := (mkF m 1 #[.val (.ref a1), .val (.int (0 : Int32))] [(.ref a1)])) (fun t k => XS.aloadN X0.here hx rfl (hb hby d16_0) rfl rfl k) ?_
  obtain ⟨cq1, kq1, q1a, q1b, q1c⟩ := isOf hZ e0 O.1
  obtain ⟨_, _, ⟨T1, L1, k1, n1⟩, -, X1, ⟨Lc1, hQ1, l1, y1, z1⟩, st1⟩ := X0.virtualBack hx (y := (⟨"java/lang/String", "isLatin1", "()Z"⟩ : MethodName)) (z := (⟨"java/lang/String", "isLatin1", "()Z"⟩ : MethodName)) hown (mvT hZ (hw _ (List.mem_of_getElem? (i := 86) rfl))) (mvT hZ (hw _ (List.mem_of_getElem? (i := 87) rfl))) (notFace_of_selects (args := #[]) (mvT hZ (hw _ (List.mem_of_getElem? (i := 89) rfl)))) (mvT hZ (hw _ (List.mem_of_getElem? (i := 89) rfl))) (mvT hZ (hw _ (List.mem_of_getElem? (i := 88) rfl))) (by decide) (backOf (W := 0) (rm17 l Z a0 hw [] a1 h0 n0 Z0 O.2.1 cs S_CS hcs) hZ (hw _ (List.mem_of_getElem? (i := 90) rfl)) (hw _ (List.mem_of_getElem? (i := 42) rfl)) (by decide) (by decide)) q1a q1c (g := (mkF m 1 #[.val (.ref a1), .val (.int (0 : Int32))] [(.ref a1)])) rfl (by rw [hml]; rfl) (Steps.refl _) (argsL := []) (rest := []) (lenOf pd_16_0 rfl) rfl (by show 2 * 0 + _ ≤ _; exact Nat.le_of_eq rfl) (hb hby d16_1) (fun _ _ => ⟨rfl, e0, (by decide : 0 + 0 ≤ _), (by decide : 0 + 0 ≤ _)⟩)
  dsimp only [Pt.U, Pt.locs, Pt.cells, Pt.slots] at X1 l1 y1 z1 st1 hQ1
  subst l1 y1 z1
  obtain ⟨rfl, N1q, E1⟩ := hQ1
  have N1 := Fr.app N0 N1q
  refine own_step (T' := T1) (f' := (mkF m 4 #[.val (.ref a1), .val (.int (0 : Int32))] [(.int (1 : Int32))])) (fun t k => st1.trans k) ?_
  refine own_step (T' := T1) (f' := (mkF m 7 #[.val (.ref a1), .val (.int (0 : Int32))] [])) (fun t k => XS.ifNo X1.here hx rfl (hb hby d16_4) rfl ((if0 _ _).trans (feq (by decide : ¬ ((1 : Int32) = (0 : Int32)))).1) k) ?_
  refine own_step (T' := T1) (f' := (mkF m 8 #[.val (.ref a1), .val (.int (0 : Int32))] [(.ref a1)])) (fun t k => XS.aloadN X1.here hx rfl (hb hby d16_7) rfl rfl k) ?_
  obtain ⟨T2, X2, e2, st2⟩ := getF X1 hx hZ hown (host := "") (Or.inl (hw _ (List.mem_of_getElem? (i := 64) rfl))) Via.refl E1 O.2.2.1 (g := (mkF m 8 #[.val (.ref a1), .val (.int (0 : Int32))] [(.ref a1)])) rfl rfl (hb hby d16_8)
  refine own_step (T' := T2) (f' := (mkF m 11 #[.val (.ref a1), .val (.int (0 : Int32))] [(.ref b)])) (fun t k => st2 t k) ?_
  refine own_step (T' := T2) (f' := (mkF m 12 #[.val (.ref a1), .val (.int (0 : Int32))] [(.int (0 : Int32)), (.ref b)])) (fun t k => XS.iloadN X2.here hx rfl (hb hby d16_11) rfl k) ?_
  obtain ⟨_, _, ⟨T3, L3, k3, n3⟩, -, X3, ⟨Lc3, hQ3, l3, y3, z3⟩, st3⟩ := Jvm.LawKit.callS X2 hx (y := (⟨"java/lang/StringLatin1", "charAt", "([BI)C"⟩ : MethodName)) hown (mvT hZ (hw _ (List.mem_of_getElem? (i := 91) rfl))) (mvT hZ (hw _ (List.mem_of_getElem? (i := 92) rfl))) (mvT hZ (hw _ (List.mem_of_getElem? (i := 93) rfl))) (mvT hZ (hw _ (List.mem_of_getElem? (i := 94) rfl))) (by decide) (backOf (W := 0) (rm18_3_0 l Z a0 hw [] b h0 n0 Z0 kb y0 y1 y2 O.2.2.2 fm S_FM hfc hfr) hZ (hw _ (List.mem_of_getElem? (i := 94) rfl)) (hw _ (List.mem_of_getElem? (i := 93) rfl)) (by decide) (by decide)) (g := (mkF m 12 #[.val (.ref a1), .val (.int (0 : Int32))] [(.int (0 : Int32)), (.ref b)])) rfl (by rw [hml]; rfl) (argsL := [(.ref b), (.int (0 : Int32))]) (rest := []) (lenOf pd_16_1 rfl) rfl (by show 2 * 0 + _ ≤ _; exact Nat.le_of_eq rfl) (hb hby d16_12) (fun _ _ => ⟨rfl, e2, (by decide : 0 + 0 ≤ _), (by decide : 0 + 0 ≤ _)⟩)
  dsimp only [Pt.U, Pt.locs, Pt.cells, Pt.slots] at X3 l3 y3 z3 st3 hQ3
  subst l3 y3 z3
  obtain ⟨rfl, N3q, E3⟩ := hQ3
  have N3 := Fr.app N1 N3q
  refine own_step (T' := T3) (f' := (mkF m 15 #[.val (.ref a1), .val (.int (0 : Int32))] [(.int (own_ch y0))])) (fun t k => st3 t k) ?_
  exact own_retN X3 hx hlk (t := .char) Bd.returns (by simp) (hb hby d16_15) (by decide) (by decide) ⟨by rw [own_chn], N3, E3⟩

theorem ef_rm20_3_1 (m : MethodId) (x0 : Int32) (x1 : Int32) (x2 : Value) (hv : x2.category = 1) : entryFrame m #[(.int x0), (.int x1), x2] 3 = mkF m 0 #[.val (.int x0), .val (.int x1), .val x2] [] := by cases x2 <;> first | (simp [entryFrame, mkF, argsToLocals, Value.category]; done) | (simp [Value.category] at hv; done)
set_option maxRecDepth 65536 in
set_option maxHeartbeats 40000000 in
theorem rm20_3_1 (l : Launch) (Z : State) (a0 : Array Value) (hw : ∀ d ∈ tables_1, d.before a0 Z = true) (ws : List Jvm.Cond) (fm : Value) (h0 : Heap) (n0 : Nat) (Z0 : n0 ≤ h0.size) (hfc : fm.category = 1) :
    MetFree l (⟨"jdk/internal/util/Preconditions", "checkIndex", "(IILjava/util/function/BiFunction;)I"⟩ : MethodName) (head1 (Jvm.Cond.code (⟨"jdk/internal/util/Preconditions", "checkIndex", "(IILjava/util/function/BiFunction;)I"⟩ : MethodName) jdk_41_method_11_code 3 (some .int) :: ws) ({ frames := 0, cells := 0, slots := 0, locals := 0 } : Room)) (fun a U => a = #[(.int (1 : Int32)), (.int (3 : Int32)), fm] ∧ Z.Warmed39 U.vm ∧ U.heap = h0) (fun _ _ _ _ _ => True) (fun _ U o U' => ∃ v L, o = .returned v ∧ QI 1 h0 n0 v U'.heap L ∧ FrameEnd U o U' L ({ frames := 0, cells := 0, slots := 0, locals := 0 } : Room).cells ({ frames := 0, cells := 0, slots := 0, locals := 0 } : Room).slots) := by
  refine MetFree.of_bodySF (plainFor_of_name pn_20) hisR ?_
  intro p e s m args below meth c s₁ Bd hml0 hP hK
  obtain ⟨rfl, hZ, hh⟩ := hP
  have hx := Bd.exec
  have hby := Bd.bytes
  have hlk : meth.locks = false := BodyLoose.notSynchronized Bd
  have hml : c.maxLocals = 3 := hml0
  have hown : s.vm.findClass "jdk/internal/util/Preconditions" = some m.cls := findClass_of_methodNamed Bd.named
  have hnm := (name_of_methodNamed Bd.named Bd.method).1
  have X0 : Stand p l e ({ frames := 0, cells := 0, slots := 0, locals := 0 } : Room) s m #[(.int (1 : Int32)), (.int (3 : Int32)), fm] below meth c s₁ [] 0 0 := Stand.of_body Bd
  have e0 : s₁.heap = h0 := by rw [← hh, Bd.state]; rfl
  have N0 := Fr.nil n0
  show OwnEnds p e below s (QI 1 h0 n0) ({ frames := 0, cells := 0, slots := 0, locals := 0 } : Room).cells ({ frames := 0, cells := 0, slots := 0, locals := 0 } : Room).slots s₁ (entryFrame m #[(.int (1 : Int32)), (.int (3 : Int32)), fm] 3)
  refine own_step (T' := s₁) (f' := (mkF m 0 #[.val (.int (1 : Int32)), .val (.int (3 : Int32)), .val fm] [])) (fun t k => castTop (ef_rm20_3_1 m (1 : Int32) (3 : Int32) fm hfc) k) ?_
  refine own_step (T' := s₁) (f' := (mkF m 1 #[.val (.int (1 : Int32)), .val (.int (3 : Int32)), .val fm] [(.int (1 : Int32))])) (fun t k => XS.iloadN X0.here hx rfl (hb hby d20_0) rfl k) ?_
  refine own_step (T' := s₁) (f' := (mkF m 4 #[.val (.int (1 : Int32)), .val (.int (3 : Int32)), .val fm] [])) (fun t k => XS.ifNo X0.here hx rfl (hb hby d20_1) rfl ((if0 _ _).trans (flt (by decide : ¬ ((1 : Int32) < (0 : Int32)))).1) k) ?_
  refine own_step (T' := s₁) (f' := (mkF m 5 #[.val (.int (1 : Int32)), .val (.int (3 : Int32)), .val fm] [(.int (1 : Int32))])) (fun t k => XS.iloadN X0.here hx rfl (hb hby d20_4) rfl k) ?_
  refine own_step (T' := s₁) (f' := (mkF m 6 #[.val (.int (1 : Int32)), .val (.int (3 : Int32)), .val fm] [(.int (3 : Int32)), (.int (1 : Int32))])) (fun t k => XS.iloadN X0.here hx rfl (hb hby d20_5) rfl k) ?_
  refine own_step (T' := s₁) (f' := (mkF m 16 #[.val (.int (1 : Int32)), .val (.int (3 : Int32)), .val fm] [])) (fun t k => XS.icmpYes X0.here hx rfl (pc0 := 6) (pc' := 16) rfl (hb hby d20_6) rfl (tlt (by decide : (1 : Int32) < (3 : Int32))).1 (by decide) (by decide) k) ?_
  refine own_step (T' := s₁) (f' := (mkF m 17 #[.val (.int (1 : Int32)), .val (.int (3 : Int32)), .val fm] [(.int (1 : Int32))])) (fun t k => XS.iloadN X0.here hx rfl (hb hby d20_16) rfl k) ?_
  exact own_retO X0 hx hlk Bd.returns rfl (Or.inl ⟨rfl, Or.inl rfl, _, rfl⟩) (hb hby d20_17) (by decide) (by decide) ⟨rfl, N0, e0⟩

theorem ef_rm19_3_1 (m : MethodId) (x0 : Int32) (x1 : Int32) : entryFrame m #[(.int x0), (.int x1)] 2 = mkF m 0 #[.val (.int x0), .val (.int x1)] [] := by first | (simp [entryFrame, mkF, argsToLocals, Value.category]; done) | rfl
set_option maxRecDepth 65536 in
set_option maxHeartbeats 40000000 in
theorem rm19_3_1 (l : Launch) (Z : State) (a0 : Array Value) (hw : ∀ d ∈ tables_1, d.before a0 Z = true) (ws : List Jvm.Cond)  (h0 : Heap) (n0 : Nat) (Z0 : n0 ≤ h0.size) (fm : Value) (S_FM : Sta Z h0 "jdk/internal/util/Preconditions" "SIOOBE_FORMATTER" "Ljava/util/function/BiFunction;" fm) (hfc : fm.category = 1) (hfr : fm.isRef = true) :
    MetFree l (⟨"java/lang/String", "checkIndex", "(II)V"⟩ : MethodName) (head1 (Jvm.Cond.code (⟨"java/lang/String", "checkIndex", "(II)V"⟩ : MethodName) jdk_42_method_155_code 2 none :: ws) ({ frames := 1, cells := 0, slots := 0, locals := 14 } : Room)) (fun a U => a = #[(.int (1 : Int32)), (.int (3 : Int32))] ∧ Z.Warmed39 U.vm ∧ U.heap = h0) (fun _ _ _ _ _ => True) (fun _ U o U' => ∃ v L, o = .returned v ∧ QV h0 n0 v U'.heap L ∧ FrameEnd U o U' L ({ frames := 1, cells := 0, slots := 0, locals := 14 } : Room).cells ({ frames := 1, cells := 0, slots := 0, locals := 14 } : Room).slots) := by
  refine MetFree.of_bodySF (plainFor_of_name pn_19) hisR ?_
  intro p e s m args below meth c s₁ Bd hml0 hP hK
  obtain ⟨rfl, hZ, hh⟩ := hP
  have hx := Bd.exec
  have hby := Bd.bytes
  have hlk : meth.locks = false := BodyLoose.notSynchronized Bd
  have hml : c.maxLocals = 2 := hml0
  have hown : s.vm.findClass "java/lang/String" = some m.cls := findClass_of_methodNamed Bd.named
  have hnm := (name_of_methodNamed Bd.named Bd.method).1
  have X0 : Stand p l e ({ frames := 1, cells := 0, slots := 0, locals := 14 } : Room) s m #[(.int (1 : Int32)), (.int (3 : Int32))] below meth c s₁ [] 0 0 := Stand.of_body Bd
  have e0 : s₁.heap = h0 := by rw [← hh, Bd.state]; rfl
  have N0 := Fr.nil n0
  show OwnEnds p e below s (QV h0 n0) ({ frames := 1, cells := 0, slots := 0, locals := 14 } : Room).cells ({ frames := 1, cells := 0, slots := 0, locals := 14 } : Room).slots s₁ (entryFrame m #[(.int (1 : Int32)), (.int (3 : Int32))] 2)
  refine own_step (T' := s₁) (f' := (mkF m 0 #[.val (.int (1 : Int32)), .val (.int (3 : Int32))] [])) (fun t k => castTop (ef_rm19_3_1 m (1 : Int32) (3 : Int32)) k) ?_
  refine own_step (T' := s₁) (f' := (mkF m 1 #[.val (.int (1 : Int32)), .val (.int (3 : Int32))] [(.int (1 : Int32))])) (fun t k => XS.iloadN X0.here hx rfl (hb hby d19_0) rfl k) ?_
  refine own_step (T' := s₁) (f' := (mkF m 2 #[.val (.int (1 : Int32)), .val (.int (3 : Int32))] [(.int (3 : Int32)), (.int (1 : Int32))])) (fun t k => XS.iloadN X0.here hx rfl (hb hby d19_1) rfl k) ?_
  obtain ⟨T1, X1, e1, st1⟩ := getS2 X0 hx hZ hown (host := "") (Or.inl (hw _ (List.mem_of_getElem? (i := 98) rfl))) Via.refl e0 S_FM (g := (mkF m 2 #[.val (.int (1 : Int32)), .val (.int (3 : Int32))] [(.int (3 : Int32)), (.int (1 : Int32))])) rfl (hb hby d19_2)
  refine own_step (T' := T1) (f' := (mkF m 5 #[.val (.int (1 : Int32)), .val (.int (3 : Int32))] [fm, (.int (3 : Int32)), (.int (1 : Int32))])) (fun t k => st1 t k) ?_
  obtain ⟨_, _, ⟨T2, L2, k2, n2⟩, -, X2, ⟨Lc2, hQ2, l2, y2, z2⟩, st2⟩ := Jvm.LawKit.callS X1 hx (y := (⟨"jdk/internal/util/Preconditions", "checkIndex", "(IILjava/util/function/BiFunction;)I"⟩ : MethodName)) hown (mvT hZ (hw _ (List.mem_of_getElem? (i := 100) rfl))) (mvT hZ (hw _ (List.mem_of_getElem? (i := 101) rfl))) (mvT hZ (hw _ (List.mem_of_getElem? (i := 99) rfl))) (mvT hZ (hw _ (List.mem_of_getElem? (i := 102) rfl))) (by decide) (backOf (W := 0) (rm20_3_1 l Z a0 hw [] fm h0 n0 Z0 hfc) hZ (hw _ (List.mem_of_getElem? (i := 102) rfl)) (hw _ (List.mem_of_getElem? (i := 99) rfl)) (by decide) (by decide)) (g := (mkF m 5 #[.val (.int (1 : Int32)), .val (.int (3 : Int32))] [fm, (.int (3 : Int32)), (.int (1 : Int32))])) rfl (by rw [hml]; rfl) (argsL := [(.int (1 : Int32)), (.int (3 : Int32)), fm]) (rest := []) (lenOf pd_19_0 rfl) rfl (by show 2 * 0 + _ ≤ _; exact Nat.le_of_eq rfl) (hb hby d19_5) (fun _ _ => ⟨rfl, e1, (by decide : 0 + 0 ≤ _), (by decide : 0 + 0 ≤ _)⟩)
  dsimp only [Pt.U, Pt.locs, Pt.cells, Pt.slots] at X2 l2 y2 z2 st2 hQ2
  subst l2 y2 z2
  obtain ⟨rfl, N2q, E2⟩ := hQ2
  have N2 := Fr.app N0 N2q
  refine own_step (T' := T2) (f' := (mkF m 8 #[.val (.int (1 : Int32)), .val (.int (3 : Int32))] [(.int (1 : Int32))])) (fun t k => st2 t k) ?_
  refine own_step (T' := T2) (f' := (mkF m 9 #[.val (.int (1 : Int32)), .val (.int (3 : Int32))] [])) (fun t k => XS.pop X2.here hx rfl (hb hby d19_8) rfl rfl k) ?_
  exact own_retV X2 hx hlk Bd.returns (hb hby d19_9) (by decide) (by decide) ⟨rfl, N2, E2⟩

theorem ef_rm18_3_1 (m : MethodId) (x0 : Addr) (x1 : Int32) : entryFrame m #[(.ref x0), (.int x1)] 2 = mkF m 0 #[.val (.ref x0), .val (.int x1)] [] := by first | (simp [entryFrame, mkF, argsToLocals, Value.category]; done) | rfl
set_option maxRecDepth 65536 in
set_option maxHeartbeats 40000000 in
theorem rm18_3_1 (l : Launch) (Z : State) (a0 : Array Value) (hw : ∀ d ∈ tables_1, d.before a0 Z = true) (ws : List Jvm.Cond) (a1 : Addr) (h0 : Heap) (n0 : Nat) (Z0 : n0 ≤ h0.size) (kb : ClassId) (y0 y1 y2 : Int32) (V_a1 : Arv Z h0 a1 kb .byte (3 : Int32) [(.int y0), (.int y1), (.int y2)] (.int (0 : Int32))) (fm : Value) (S_FM : Sta Z h0 "jdk/internal/util/Preconditions" "SIOOBE_FORMATTER" "Ljava/util/function/BiFunction;" fm) (hfc : fm.category = 1) (hfr : fm.isRef = true) :
    MetFree l (⟨"java/lang/StringLatin1", "charAt", "([BI)C"⟩ : MethodName) (head1 (Jvm.Cond.code (⟨"java/lang/StringLatin1", "charAt", "([BI)C"⟩ : MethodName) jdk_43_method_2_code 2 (some .char) :: ws) ({ frames := 2, cells := 0, slots := 0, locals := 28 } : Room)) (fun a U => a = #[(.ref a1), (.int (1 : Int32))] ∧ Z.Warmed39 U.vm ∧ U.heap = h0) (fun _ _ _ _ _ => True) (fun _ U o U' => ∃ v L, o = .returned v ∧ QI (own_ch y1) h0 n0 v U'.heap L ∧ FrameEnd U o U' L ({ frames := 2, cells := 0, slots := 0, locals := 28 } : Room).cells ({ frames := 2, cells := 0, slots := 0, locals := 28 } : Room).slots) := by
  refine MetFree.of_bodySF (plainFor_of_name pn_18) hisR ?_
  intro p e s m args below meth c s₁ Bd hml0 hP hK
  obtain ⟨rfl, hZ, hh⟩ := hP
  have hx := Bd.exec
  have hby := Bd.bytes
  have hlk : meth.locks = false := BodyLoose.notSynchronized Bd
  have hml : c.maxLocals = 2 := hml0
  have hown : s.vm.findClass "java/lang/StringLatin1" = some m.cls := findClass_of_methodNamed Bd.named
  have hnm := (name_of_methodNamed Bd.named Bd.method).1
  have X0 : Stand p l e ({ frames := 2, cells := 0, slots := 0, locals := 28 } : Room) s m #[(.ref a1), (.int (1 : Int32))] below meth c s₁ [] 0 0 := Stand.of_body Bd
  have e0 : s₁.heap = h0 := by rw [← hh, Bd.state]; rfl
  have N0 := Fr.nil n0
  have Zz := Z0
  have Kp : Keep h0 h0 [] := Keep.refl _ _
  show OwnEnds p e below s (QI (own_ch y1) h0 n0) ({ frames := 2, cells := 0, slots := 0, locals := 28 } : Room).cells ({ frames := 2, cells := 0, slots := 0, locals := 28 } : Room).slots s₁ (entryFrame m #[(.ref a1), (.int (1 : Int32))] 2)
  refine own_step (T' := s₁) (f' := (mkF m 0 #[.val (.ref a1), .val (.int (1 : Int32))] [])) (fun t k => castTop (ef_rm18_3_1 m a1 (1 : Int32)) k) ?_
  refine own_step (T' := s₁) (f' := (mkF m 1 #[.val (.ref a1), .val (.int (1 : Int32))] [(.int (1 : Int32))])) (fun t k => XS.iloadN X0.here hx rfl (hb hby d18_0) rfl k) ?_
  refine own_step (T' := s₁) (f' := (mkF m 2 #[.val (.ref a1), .val (.int (1 : Int32))] [(.ref a1), (.int (1 : Int32))])) (fun t k => XS.aloadN X0.here hx rfl (hb hby d18_1) rfl rfl k) ?_
  obtain ⟨cl1, Ar1, q1, S1, M1, H1, G1⟩ := id V_a1
  refine own_step (T' := s₁) (f' := (mkF m 3 #[.val (.ref a1), .val (.int (1 : Int32))] [(.int (3 : Int32)), (.int (1 : Int32))])) (fun t k => X0.arraylength hx (by rw [e0]; exact Ar1.1) (State.isArrayOf_alike hZ.alike Ar1.2.1) (g := (mkF m 2 #[.val (.ref a1), .val (.int (1 : Int32))] [(.ref a1), (.int (1 : Int32))])) rfl rfl (hb hby d18_2) _ (by rw [len_of S1 M1]; exact k)) ?_
  obtain ⟨_, _, ⟨T2, L2, k2, n2⟩, -, X2, ⟨Lc2, hQ2, l2, y2, z2⟩, st2⟩ := Jvm.LawKit.callS X0 hx (y := (⟨"java/lang/String", "checkIndex", "(II)V"⟩ : MethodName)) hown (mvT hZ (hw _ (List.mem_of_getElem? (i := 95) rfl))) (mvT hZ (hw _ (List.mem_of_getElem? (i := 96) rfl))) (mvT hZ (hw _ (List.mem_of_getElem? (i := 42) rfl))) (mvT hZ (hw _ (List.mem_of_getElem? (i := 97) rfl))) (by decide) (backOf (W := 0) (rm19_3_1 l Z a0 hw [] h0 n0 Zz fm S_FM hfc hfr) hZ (hw _ (List.mem_of_getElem? (i := 97) rfl)) (hw _ (List.mem_of_getElem? (i := 42) rfl)) (by decide) (by decide)) (g := (mkF m 3 #[.val (.ref a1), .val (.int (1 : Int32))] [(.int (3 : Int32)), (.int (1 : Int32))])) rfl (by rw [hml]; rfl) (argsL := [(.int (1 : Int32)), (.int (3 : Int32))]) (rest := []) (lenOf pd_18_0 rfl) rfl (by show 2 * 0 + _ ≤ _; exact Nat.le_of_eq rfl) (hb hby d18_3) (fun _ _ => ⟨rfl, e0, (by decide : 0 + 0 ≤ _), (by decide : 0 + 0 ≤ _)⟩)
  dsimp only [Pt.U, Pt.locs, Pt.cells, Pt.slots] at X2 l2 y2 z2 st2 hQ2
  subst l2 y2 z2
  obtain ⟨rfl, N2q, E2⟩ := hQ2
  have N2 := Fr.app N0 N2q
  refine own_step (T' := T2) (f' := (mkF m 6 #[.val (.ref a1), .val (.int (1 : Int32))] [])) (fun t k => st2 t k) ?_
  refine own_step (T' := T2) (f' := (mkF m 7 #[.val (.ref a1), .val (.int (1 : Int32))] [(.ref a1)])) (fun t k => XS.aloadN X2.here hx rfl (hb hby d18_6) rfl rfl k) ?_
  refine own_step (T' := T2) (f' := (mkF m 8 #[.val (.ref a1), .val (.int (1 : Int32))] [(.int (1 : Int32)), (.ref a1)])) (fun t k => XS.iloadN X2.here hx rfl (hb hby d18_7) rfl k) ?_
  obtain ⟨cl3, Ar3, q3, S3, M3, H3, G3⟩ := id V_a1
  have hin3 : ¬ ((1 : Int32) < 0 ∨ cl3.slots.size ≤ ((1 : Int32)).toNatClampNeg) := inb_of S3 ⟨by decide, by decide⟩
  have hat3 : cl3.slots[((1 : Int32)).toNatClampNeg]? = some (.int y1) := own_at hin3 H3 1 rfl rfl
  refine own_step (T' := T2) (f' := (mkF m 9 #[.val (.ref a1), .val (.int (1 : Int32))] [(.int y1)])) (fun t k => X2.baloadBytes hx (j := (1 : Int32)) (v := (.int y1)) (by rw [E2]; exact Ar3.1) (State.isArrayOf_alike hZ.alike Ar3.2.1) Ar3.2.2 hin3 hat3 (g := (mkF m 8 #[.val (.ref a1), .val (.int (1 : Int32))] [(.int (1 : Int32)), (.ref a1)])) rfl rfl (hb hby d18_8) _ k) ?_
  refine own_step (T' := T2) (f' := (mkF m 12 #[.val (.ref a1), .val (.int (1 : Int32))] [(.int (255 : Int32)), (.int y1)])) (fun t k => XS.sipush X2.here hx rfl (hb hby d18_9) k) ?_
  refine own_step (T' := T2) (f' := (mkF m 13 #[.val (.ref a1), .val (.int (1 : Int32))] [(.int (y1 &&& (255 : Int32)))])) (fun t k => XS.iand X2.here hx rfl (hb hby d18_12) rfl k) ?_
  refine own_step (T' := T2) (f' := (mkF m 14 #[.val (.ref a1), .val (.int (1 : Int32))] [(.int ((y1 &&& (255 : Int32)).toUInt32.toUInt16.toUInt32.toInt32))])) (fun t k => XS.i2c X2.here hx rfl (hb hby d18_13) rfl k) ?_
  exact own_retN X2 hx hlk (t := .char) Bd.returns (by simp) (hb hby d18_14) (by decide) (by decide) ⟨rfl, N2, E2⟩

theorem ef_rm16_3_1 (m : MethodId) (x0 : Addr) (x1 : Int32) : entryFrame m #[(.ref x0), (.int x1)] 2 = mkF m 0 #[.val (.ref x0), .val (.int x1)] [] := by first | (simp [entryFrame, mkF, argsToLocals, Value.category]; done) | rfl
set_option maxRecDepth 65536 in
set_option maxHeartbeats 40000000 in
theorem rm16_3_1 (l : Launch) (Z : State) (a0 : Array Value) (hw : ∀ d ∈ tables_1, d.before a0 Z = true) (ws : List Jvm.Cond) (a1 : Addr) (h0 : Heap) (n0 : Nat) (Z0 : n0 ≤ h0.size) (b : Addr) (kb : ClassId) (y0 y1 y2 : Int32) (O : OwnStr Z h0 a1 b kb 3 [(.int y0), (.int y1), (.int y2)]) (cs : Int32) (S_CS : Sta Z h0 "java/lang/String" "COMPACT_STRINGS" "Z" (.int cs)) (hcs : ¬ cs = (0 : Int32)) (fm : Value) (S_FM : Sta Z h0 "jdk/internal/util/Preconditions" "SIOOBE_FORMATTER" "Ljava/util/function/BiFunction;" fm) (hfc : fm.category = 1) (hfr : fm.isRef = true) :
    MetFree l (⟨"java/lang/String", "charAt", "(I)C"⟩ : MethodName) (head1 (Jvm.Cond.code (⟨"java/lang/String", "charAt", "(I)C"⟩ : MethodName) jdk_42_method_56_code 2 (some .char) :: ws) ({ frames := 3, cells := 0, slots := 0, locals := 42 } : Room)) (fun a U => a = #[(.ref a1), (.int (1 : Int32))] ∧ Z.Warmed39 U.vm ∧ U.heap = h0) (fun _ _ _ _ _ => True) (fun _ U o U' => ∃ v L, o = .returned v ∧ QI (own_ch y1) h0 n0 v U'.heap L ∧ FrameEnd U o U' L ({ frames := 3, cells := 0, slots := 0, locals := 42 } : Room).cells ({ frames := 3, cells := 0, slots := 0, locals := 42 } : Room).slots) := by
  refine MetFree.of_bodySF (plainFor_of_name pn_16) hisR ?_
  intro p e s m args below meth c s₁ Bd hml0 hP hK
  obtain ⟨rfl, hZ, hh⟩ := hP
  have hx := Bd.exec
  have hby := Bd.bytes
  have hlk : meth.locks = false := BodyLoose.notSynchronized Bd
  have hml : c.maxLocals = 2 := hml0
  have hown : s.vm.findClass "java/lang/String" = some m.cls := findClass_of_methodNamed Bd.named
  have hnm := (name_of_methodNamed Bd.named Bd.method).1
  have X0 : Stand p l e ({ frames := 3, cells := 0, slots := 0, locals := 42 } : Room) s m #[(.ref a1), (.int (1 : Int32))] below meth c s₁ [] 0 0 := Stand.of_body Bd
  have e0 : s₁.heap = h0 := by rw [← hh, Bd.state]; rfl
  have N0 := Fr.nil n0
  show OwnEnds p e below s (QI (own_ch y1) h0 n0) ({ frames := 3, cells := 0, slots := 0, locals := 42 } : Room).cells ({ frames := 3, cells := 0, slots := 0, locals := 42 } : Room).slots s₁ (entryFrame m #[(.ref a1), (.int (1 : Int32))] 2)
  refine own_step (T' := s₁) (f' := (mkF m 0 #[.val (.ref a1), .val (.int (1 : Int32))] [])) (fun t k => castTop (ef_rm16_3_1 m a1 (1 : Int32)) k) ?_
  refine own_step (T' := s₁) (f' := (mkF m 1 #[.val (.ref a1), .val (.int (1 : Int32))] [(.ref a1)])) (fun t k => XS.aloadN X0.here hx rfl (hb hby d16_0) rfl rfl k) ?_
  obtain ⟨cq1, kq1, q1a, q1b, q1c⟩ := isOf hZ e0 O.1
  obtain ⟨_, _, ⟨T1, L1, k1, n1⟩, -, X1, ⟨Lc1, hQ1, l1, y1, z1⟩, st1⟩ := X0.virtualBack hx (y := (⟨"java/lang/String", "isLatin1", "()Z"⟩ : MethodName)) (z := (⟨"java/lang/String", "isLatin1", "()Z"⟩ : MethodName)) hown (mvT hZ (hw _ (List.mem_of_getElem? (i := 86) rfl))) (mvT hZ (hw _ (List.mem_of_getElem? (i := 87) rfl))) (notFace_of_selects (args := #[]) (mvT hZ (hw _ (List.mem_of_getElem? (i := 89) rfl)))) (mvT hZ (hw _ (List.mem_of_getElem? (i := 89) rfl))) (mvT hZ (hw _ (List.mem_of_getElem? (i := 88) rfl))) (by decide) (backOf (W := 0) (rm17 l Z a0 hw [] a1 h0 n0 Z0 O.2.1 cs S_CS hcs) hZ (hw _ (List.mem_of_getElem? (i := 90) rfl)) (hw _ (List.mem_of_getElem? (i := 42) rfl)) (by decide) (by decide)) q1a q1c (g := (mkF m 1 #[.val (.ref a1), .val (.int (1 : Int32))] [(.ref a1)])) rfl (by rw [hml]; rfl) (Steps.refl _) (argsL := []) (rest := []) (lenOf pd_16_0 rfl) rfl (by show 2 * 0 + _ ≤ _; exact Nat.le_of_eq rfl) (hb hby d16_1) (fun _ _ => ⟨rfl, e0, (by decide : 0 + 0 ≤ _), (by decide : 0 + 0 ≤ _)⟩)
  dsimp only [Pt.U, Pt.locs, Pt.cells, Pt.slots] at X1 l1 y1 z1 st1 hQ1
  subst l1 y1 z1
  obtain ⟨rfl, N1q, E1⟩ := hQ1
  have N1 := Fr.app N0 N1q
  refine own_step (T' := T1) (f' := (mkF m 4 #[.val (.ref a1), .val (.int (1 : Int32))] [(.int (1 : Int32))])) (fun t k => st1.trans k) ?_
  refine own_step (T' := T1) (f' := (mkF m 7 #[.val (.ref a1), .val (.int (1 : Int32))] [])) (fun t k => XS.ifNo X1.here hx rfl (hb hby d16_4) rfl ((if0 _ _).trans (feq (by decide : ¬ ((1 : Int32) = (0 : Int32)))).1) k) ?_
  refine own_step (T' := T1) (f' := (mkF m 8 #[.val (.ref a1), .val (.int (1 : Int32))] [(.ref a1)])) (fun t k => XS.aloadN X1.here hx rfl (hb hby d16_7) rfl rfl k) ?_
  obtain ⟨T2, X2, e2, st2⟩ := getF X1 hx hZ hown (host := "") (Or.inl (hw _ (List.mem_of_getElem? (i := 64) rfl))) Via.refl E1 O.2.2.1 (g := (mkF m 8 #[.val (.ref a1), .val (.int (1 : Int32))] [(.ref a1)])) rfl rfl (hb hby d16_8)
  refine own_step (T' := T2) (f' := (mkF m 11 #[.val (.ref a1), .val (.int (1 : Int32))] [(.ref b)])) (fun t k => st2 t k) ?_
  refine own_step (T' := T2) (f' := (mkF m 12 #[.val (.ref a1), .val (.int (1 : Int32))] [(.int (1 : Int32)), (.ref b)])) (fun t k => XS.iloadN X2.here hx rfl (hb hby d16_11) rfl k) ?_
  obtain ⟨_, _, ⟨T3, L3, k3, n3⟩, -, X3, ⟨Lc3, hQ3, l3, y3, z3⟩, st3⟩ := Jvm.LawKit.callS X2 hx (y := (⟨"java/lang/StringLatin1", "charAt", "([BI)C"⟩ : MethodName)) hown (mvT hZ (hw _ (List.mem_of_getElem? (i := 91) rfl))) (mvT hZ (hw _ (List.mem_of_getElem? (i := 92) rfl))) (mvT hZ (hw _ (List.mem_of_getElem? (i := 93) rfl))) (mvT hZ (hw _ (List.mem_of_getElem? (i := 94) rfl))) (by decide) (backOf (W := 0) (rm18_3_1 l Z a0 hw [] b h0 n0 Z0 kb y0 y1 y2 O.2.2.2 fm S_FM hfc hfr) hZ (hw _ (List.mem_of_getElem? (i := 94) rfl)) (hw _ (List.mem_of_getElem? (i := 93) rfl)) (by decide) (by decide)) (g := (mkF m 12 #[.val (.ref a1), .val (.int (1 : Int32))] [(.int (1 : Int32)), (.ref b)])) rfl (by rw [hml]; rfl) (argsL := [(.ref b), (.int (1 : Int32))]) (rest := []) (lenOf pd_16_1 rfl) rfl (by show 2 * 0 + _ ≤ _; exact Nat.le_of_eq rfl) (hb hby d16_12) (fun _ _ => ⟨rfl, e2, (by decide : 0 + 0 ≤ _), (by decide : 0 + 0 ≤ _)⟩)
  dsimp only [Pt.U, Pt.locs, Pt.cells, Pt.slots] at X3 l3 y3 z3 st3 hQ3
  subst l3 y3 z3
  obtain ⟨rfl, N3q, E3⟩ := hQ3
  have N3 := Fr.app N1 N3q
  refine own_step (T' := T3) (f' := (mkF m 15 #[.val (.ref a1), .val (.int (1 : Int32))] [(.int (own_ch y1))])) (fun t k => st3 t k) ?_
  exact own_retN X3 hx hlk (t := .char) Bd.returns (by simp) (hb hby d16_15) (by decide) (by decide) ⟨by rw [own_chn], N3, E3⟩

theorem ef_rm20_3_2 (m : MethodId) (x0 : Int32) (x1 : Int32) (x2 : Value) (hv : x2.category = 1) : entryFrame m #[(.int x0), (.int x1), x2] 3 = mkF m 0 #[.val (.int x0), .val (.int x1), .val x2] [] := by cases x2 <;> first | (simp [entryFrame, mkF, argsToLocals, Value.category]; done) | (simp [Value.category] at hv; done)
set_option maxRecDepth 65536 in
set_option maxHeartbeats 40000000 in
theorem rm20_3_2 (l : Launch) (Z : State) (a0 : Array Value) (hw : ∀ d ∈ tables_1, d.before a0 Z = true) (ws : List Jvm.Cond) (fm : Value) (h0 : Heap) (n0 : Nat) (Z0 : n0 ≤ h0.size) (hfc : fm.category = 1) :
    MetFree l (⟨"jdk/internal/util/Preconditions", "checkIndex", "(IILjava/util/function/BiFunction;)I"⟩ : MethodName) (head1 (Jvm.Cond.code (⟨"jdk/internal/util/Preconditions", "checkIndex", "(IILjava/util/function/BiFunction;)I"⟩ : MethodName) jdk_41_method_11_code 3 (some .int) :: ws) ({ frames := 0, cells := 0, slots := 0, locals := 0 } : Room)) (fun a U => a = #[(.int (2 : Int32)), (.int (3 : Int32)), fm] ∧ Z.Warmed39 U.vm ∧ U.heap = h0) (fun _ _ _ _ _ => True) (fun _ U o U' => ∃ v L, o = .returned v ∧ QI 2 h0 n0 v U'.heap L ∧ FrameEnd U o U' L ({ frames := 0, cells := 0, slots := 0, locals := 0 } : Room).cells ({ frames := 0, cells := 0, slots := 0, locals := 0 } : Room).slots) := by
  refine MetFree.of_bodySF (plainFor_of_name pn_20) hisR ?_
  intro p e s m args below meth c s₁ Bd hml0 hP hK
  obtain ⟨rfl, hZ, hh⟩ := hP
  have hx := Bd.exec
  have hby := Bd.bytes
  have hlk : meth.locks = false := BodyLoose.notSynchronized Bd
  have hml : c.maxLocals = 3 := hml0
  have hown : s.vm.findClass "jdk/internal/util/Preconditions" = some m.cls := findClass_of_methodNamed Bd.named
  have hnm := (name_of_methodNamed Bd.named Bd.method).1
  have X0 : Stand p l e ({ frames := 0, cells := 0, slots := 0, locals := 0 } : Room) s m #[(.int (2 : Int32)), (.int (3 : Int32)), fm] below meth c s₁ [] 0 0 := Stand.of_body Bd
  have e0 : s₁.heap = h0 := by rw [← hh, Bd.state]; rfl
  have N0 := Fr.nil n0
  show OwnEnds p e below s (QI 2 h0 n0) ({ frames := 0, cells := 0, slots := 0, locals := 0 } : Room).cells ({ frames := 0, cells := 0, slots := 0, locals := 0 } : Room).slots s₁ (entryFrame m #[(.int (2 : Int32)), (.int (3 : Int32)), fm] 3)
  refine own_step (T' := s₁) (f' := (mkF m 0 #[.val (.int (2 : Int32)), .val (.int (3 : Int32)), .val fm] [])) (fun t k => castTop (ef_rm20_3_2 m (2 : Int32) (3 : Int32) fm hfc) k) ?_
  refine own_step (T' := s₁) (f' := (mkF m 1 #[.val (.int (2 : Int32)), .val (.int (3 : Int32)), .val fm] [(.int (2 : Int32))])) (fun t k => XS.iloadN X0.here hx rfl (hb hby d20_0) rfl k) ?_
  refine own_step (T' := s₁) (f' := (mkF m 4 #[.val (.int (2 : Int32)), .val (.int (3 : Int32)), .val fm] [])) (fun t k => XS.ifNo X0.here hx rfl (hb hby d20_1) rfl ((if0 _ _).trans (flt (by decide : ¬ ((2 : Int32) < (0 : Int32)))).1) k) ?_
  refine own_step (T' := s₁) (f' := (mkF m 5 #[.val (.int (2 : Int32)), .val (.int (3 : Int32)), .val fm] [(.int (2 : Int32))])) (fun t k => XS.iloadN X0.here hx rfl (hb hby d20_4) rfl k) ?_
  refine own_step (T' := s₁) (f' := (mkF m 6 #[.val (.int (2 : Int32)), .val (.int (3 : Int32)), .val fm] [(.int (3 : Int32)), (.int (2 : Int32))])) (fun t k => XS.iloadN X0.here hx rfl (hb hby d20_5) rfl k) ?_
  refine own_step (T' := s₁) (f' := (mkF m 16 #[.val (.int (2 : Int32)), .val (.int (3 : Int32)), .val fm] [])) (fun t k => XS.icmpYes X0.here hx rfl (pc0 := 6) (pc' := 16) rfl (hb hby d20_6) rfl (tlt (by decide : (2 : Int32) < (3 : Int32))).1 (by decide) (by decide) k) ?_
  refine own_step (T' := s₁) (f' := (mkF m 17 #[.val (.int (2 : Int32)), .val (.int (3 : Int32)), .val fm] [(.int (2 : Int32))])) (fun t k => XS.iloadN X0.here hx rfl (hb hby d20_16) rfl k) ?_
  exact own_retO X0 hx hlk Bd.returns rfl (Or.inl ⟨rfl, Or.inl rfl, _, rfl⟩) (hb hby d20_17) (by decide) (by decide) ⟨rfl, N0, e0⟩

theorem ef_rm19_3_2 (m : MethodId) (x0 : Int32) (x1 : Int32) : entryFrame m #[(.int x0), (.int x1)] 2 = mkF m 0 #[.val (.int x0), .val (.int x1)] [] := by first | (simp [entryFrame, mkF, argsToLocals, Value.category]; done) | rfl
set_option maxRecDepth 65536 in
set_option maxHeartbeats 40000000 in
theorem rm19_3_2 (l : Launch) (Z : State) (a0 : Array Value) (hw : ∀ d ∈ tables_1, d.before a0 Z = true) (ws : List Jvm.Cond)  (h0 : Heap) (n0 : Nat) (Z0 : n0 ≤ h0.size) (fm : Value) (S_FM : Sta Z h0 "jdk/internal/util/Preconditions" "SIOOBE_FORMATTER" "Ljava/util/function/BiFunction;" fm) (hfc : fm.category = 1) (hfr : fm.isRef = true) :
    MetFree l (⟨"java/lang/String", "checkIndex", "(II)V"⟩ : MethodName) (head1 (Jvm.Cond.code (⟨"java/lang/String", "checkIndex", "(II)V"⟩ : MethodName) jdk_42_method_155_code 2 none :: ws) ({ frames := 1, cells := 0, slots := 0, locals := 14 } : Room)) (fun a U => a = #[(.int (2 : Int32)), (.int (3 : Int32))] ∧ Z.Warmed39 U.vm ∧ U.heap = h0) (fun _ _ _ _ _ => True) (fun _ U o U' => ∃ v L, o = .returned v ∧ QV h0 n0 v U'.heap L ∧ FrameEnd U o U' L ({ frames := 1, cells := 0, slots := 0, locals := 14 } : Room).cells ({ frames := 1, cells := 0, slots := 0, locals := 14 } : Room).slots) := by
  refine MetFree.of_bodySF (plainFor_of_name pn_19) hisR ?_
  intro p e s m args below meth c s₁ Bd hml0 hP hK
  obtain ⟨rfl, hZ, hh⟩ := hP
  have hx := Bd.exec
  have hby := Bd.bytes
  have hlk : meth.locks = false := BodyLoose.notSynchronized Bd
  have hml : c.maxLocals = 2 := hml0
  have hown : s.vm.findClass "java/lang/String" = some m.cls := findClass_of_methodNamed Bd.named
  have hnm := (name_of_methodNamed Bd.named Bd.method).1
  have X0 : Stand p l e ({ frames := 1, cells := 0, slots := 0, locals := 14 } : Room) s m #[(.int (2 : Int32)), (.int (3 : Int32))] below meth c s₁ [] 0 0 := Stand.of_body Bd
  have e0 : s₁.heap = h0 := by rw [← hh, Bd.state]; rfl
  have N0 := Fr.nil n0
  show OwnEnds p e below s (QV h0 n0) ({ frames := 1, cells := 0, slots := 0, locals := 14 } : Room).cells ({ frames := 1, cells := 0, slots := 0, locals := 14 } : Room).slots s₁ (entryFrame m #[(.int (2 : Int32)), (.int (3 : Int32))] 2)
  refine own_step (T' := s₁) (f' := (mkF m 0 #[.val (.int (2 : Int32)), .val (.int (3 : Int32))] [])) (fun t k => castTop (ef_rm19_3_2 m (2 : Int32) (3 : Int32)) k) ?_
  refine own_step (T' := s₁) (f' := (mkF m 1 #[.val (.int (2 : Int32)), .val (.int (3 : Int32))] [(.int (2 : Int32))])) (fun t k => XS.iloadN X0.here hx rfl (hb hby d19_0) rfl k) ?_
  refine own_step (T' := s₁) (f' := (mkF m 2 #[.val (.int (2 : Int32)), .val (.int (3 : Int32))] [(.int (3 : Int32)), (.int (2 : Int32))])) (fun t k => XS.iloadN X0.here hx rfl (hb hby d19_1) rfl k) ?_
  obtain ⟨T1, X1, e1, st1⟩ := getS2 X0 hx hZ hown (host := "") (Or.inl (hw _ (List.mem_of_getElem? (i := 98) rfl))) Via.refl e0 S_FM (g := (mkF m 2 #[.val (.int (2 : Int32)), .val (.int (3 : Int32))] [(.int (3 : Int32)), (.int (2 : Int32))])) rfl (hb hby d19_2)
  refine own_step (T' := T1) (f' := (mkF m 5 #[.val (.int (2 : Int32)), .val (.int (3 : Int32))] [fm, (.int (3 : Int32)), (.int (2 : Int32))])) (fun t k => st1 t k) ?_
  obtain ⟨_, _, ⟨T2, L2, k2, n2⟩, -, X2, ⟨Lc2, hQ2, l2, y2, z2⟩, st2⟩ := Jvm.LawKit.callS X1 hx (y := (⟨"jdk/internal/util/Preconditions", "checkIndex", "(IILjava/util/function/BiFunction;)I"⟩ : MethodName)) hown (mvT hZ (hw _ (List.mem_of_getElem? (i := 100) rfl))) (mvT hZ (hw _ (List.mem_of_getElem? (i := 101) rfl))) (mvT hZ (hw _ (List.mem_of_getElem? (i := 99) rfl))) (mvT hZ (hw _ (List.mem_of_getElem? (i := 102) rfl))) (by decide) (backOf (W := 0) (rm20_3_2 l Z a0 hw [] fm h0 n0 Z0 hfc) hZ (hw _ (List.mem_of_getElem? (i := 102) rfl)) (hw _ (List.mem_of_getElem? (i := 99) rfl)) (by decide) (by decide)) (g := (mkF m 5 #[.val (.int (2 : Int32)), .val (.int (3 : Int32))] [fm, (.int (3 : Int32)), (.int (2 : Int32))])) rfl (by rw [hml]; rfl) (argsL := [(.int (2 : Int32)), (.int (3 : Int32)), fm]) (rest := []) (lenOf pd_19_0 rfl) rfl (by show 2 * 0 + _ ≤ _; exact Nat.le_of_eq rfl) (hb hby d19_5) (fun _ _ => ⟨rfl, e1, (by decide : 0 + 0 ≤ _), (by decide : 0 + 0 ≤ _)⟩)
  dsimp only [Pt.U, Pt.locs, Pt.cells, Pt.slots] at X2 l2 y2 z2 st2 hQ2
  subst l2 y2 z2
  obtain ⟨rfl, N2q, E2⟩ := hQ2
  have N2 := Fr.app N0 N2q
  refine own_step (T' := T2) (f' := (mkF m 8 #[.val (.int (2 : Int32)), .val (.int (3 : Int32))] [(.int (2 : Int32))])) (fun t k => st2 t k) ?_
  refine own_step (T' := T2) (f' := (mkF m 9 #[.val (.int (2 : Int32)), .val (.int (3 : Int32))] [])) (fun t k => XS.pop X2.here hx rfl (hb hby d19_8) rfl rfl k) ?_
  exact own_retV X2 hx hlk Bd.returns (hb hby d19_9) (by decide) (by decide) ⟨rfl, N2, E2⟩

theorem ef_rm18_3_2 (m : MethodId) (x0 : Addr) (x1 : Int32) : entryFrame m #[(.ref x0), (.int x1)] 2 = mkF m 0 #[.val (.ref x0), .val (.int x1)] [] := by first | (simp [entryFrame, mkF, argsToLocals, Value.category]; done) | rfl
set_option maxRecDepth 65536 in
set_option maxHeartbeats 40000000 in
theorem rm18_3_2 (l : Launch) (Z : State) (a0 : Array Value) (hw : ∀ d ∈ tables_1, d.before a0 Z = true) (ws : List Jvm.Cond) (a1 : Addr) (h0 : Heap) (n0 : Nat) (Z0 : n0 ≤ h0.size) (kb : ClassId) (y0 y1 y2 : Int32) (V_a1 : Arv Z h0 a1 kb .byte (3 : Int32) [(.int y0), (.int y1), (.int y2)] (.int (0 : Int32))) (fm : Value) (S_FM : Sta Z h0 "jdk/internal/util/Preconditions" "SIOOBE_FORMATTER" "Ljava/util/function/BiFunction;" fm) (hfc : fm.category = 1) (hfr : fm.isRef = true) :
    MetFree l (⟨"java/lang/StringLatin1", "charAt", "([BI)C"⟩ : MethodName) (head1 (Jvm.Cond.code (⟨"java/lang/StringLatin1", "charAt", "([BI)C"⟩ : MethodName) jdk_43_method_2_code 2 (some .char) :: ws) ({ frames := 2, cells := 0, slots := 0, locals := 28 } : Room)) (fun a U => a = #[(.ref a1), (.int (2 : Int32))] ∧ Z.Warmed39 U.vm ∧ U.heap = h0) (fun _ _ _ _ _ => True) (fun _ U o U' => ∃ v L, o = .returned v ∧ QI (own_ch y2) h0 n0 v U'.heap L ∧ FrameEnd U o U' L ({ frames := 2, cells := 0, slots := 0, locals := 28 } : Room).cells ({ frames := 2, cells := 0, slots := 0, locals := 28 } : Room).slots) := by
  refine MetFree.of_bodySF (plainFor_of_name pn_18) hisR ?_
  intro p e s m args below meth c s₁ Bd hml0 hP hK
  obtain ⟨rfl, hZ, hh⟩ := hP
  have hx := Bd.exec
  have hby := Bd.bytes
  have hlk : meth.locks = false := BodyLoose.notSynchronized Bd
  have hml : c.maxLocals = 2 := hml0
  have hown : s.vm.findClass "java/lang/StringLatin1" = some m.cls := findClass_of_methodNamed Bd.named
  have hnm := (name_of_methodNamed Bd.named Bd.method).1
  have X0 : Stand p l e ({ frames := 2, cells := 0, slots := 0, locals := 28 } : Room) s m #[(.ref a1), (.int (2 : Int32))] below meth c s₁ [] 0 0 := Stand.of_body Bd
  have e0 : s₁.heap = h0 := by rw [← hh, Bd.state]; rfl
  have N0 := Fr.nil n0
  have Zz := Z0
  have Kp : Keep h0 h0 [] := Keep.refl _ _
  show OwnEnds p e below s (QI (own_ch y2) h0 n0) ({ frames := 2, cells := 0, slots := 0, locals := 28 } : Room).cells ({ frames := 2, cells := 0, slots := 0, locals := 28 } : Room).slots s₁ (entryFrame m #[(.ref a1), (.int (2 : Int32))] 2)
  refine own_step (T' := s₁) (f' := (mkF m 0 #[.val (.ref a1), .val (.int (2 : Int32))] [])) (fun t k => castTop (ef_rm18_3_2 m a1 (2 : Int32)) k) ?_
  refine own_step (T' := s₁) (f' := (mkF m 1 #[.val (.ref a1), .val (.int (2 : Int32))] [(.int (2 : Int32))])) (fun t k => XS.iloadN X0.here hx rfl (hb hby d18_0) rfl k) ?_
  refine own_step (T' := s₁) (f' := (mkF m 2 #[.val (.ref a1), .val (.int (2 : Int32))] [(.ref a1), (.int (2 : Int32))])) (fun t k => XS.aloadN X0.here hx rfl (hb hby d18_1) rfl rfl k) ?_
  obtain ⟨cl1, Ar1, q1, S1, M1, H1, G1⟩ := id V_a1
  refine own_step (T' := s₁) (f' := (mkF m 3 #[.val (.ref a1), .val (.int (2 : Int32))] [(.int (3 : Int32)), (.int (2 : Int32))])) (fun t k => X0.arraylength hx (by rw [e0]; exact Ar1.1) (State.isArrayOf_alike hZ.alike Ar1.2.1) (g := (mkF m 2 #[.val (.ref a1), .val (.int (2 : Int32))] [(.ref a1), (.int (2 : Int32))])) rfl rfl (hb hby d18_2) _ (by rw [len_of S1 M1]; exact k)) ?_
  obtain ⟨_, _, ⟨T2, L2, k2, n2⟩, -, X2, ⟨Lc2, hQ2, l2, y2, z2⟩, st2⟩ := Jvm.LawKit.callS X0 hx (y := (⟨"java/lang/String", "checkIndex", "(II)V"⟩ : MethodName)) hown (mvT hZ (hw _ (List.mem_of_getElem? (i := 95) rfl))) (mvT hZ (hw _ (List.mem_of_getElem? (i := 96) rfl))) (mvT hZ (hw _ (List.mem_of_getElem? (i := 42) rfl))) (mvT hZ (hw _ (List.mem_of_getElem? (i := 97) rfl))) (by decide) (backOf (W := 0) (rm19_3_2 l Z a0 hw [] h0 n0 Zz fm S_FM hfc hfr) hZ (hw _ (List.mem_of_getElem? (i := 97) rfl)) (hw _ (List.mem_of_getElem? (i := 42) rfl)) (by decide) (by decide)) (g := (mkF m 3 #[.val (.ref a1), .val (.int (2 : Int32))] [(.int (3 : Int32)), (.int (2 : Int32))])) rfl (by rw [hml]; rfl) (argsL := [(.int (2 : Int32)), (.int (3 : Int32))]) (rest := []) (lenOf pd_18_0 rfl) rfl (by show 2 * 0 + _ ≤ _; exact Nat.le_of_eq rfl) (hb hby d18_3) (fun _ _ => ⟨rfl, e0, (by decide : 0 + 0 ≤ _), (by decide : 0 + 0 ≤ _)⟩)
  dsimp only [Pt.U, Pt.locs, Pt.cells, Pt.slots] at X2 l2 y2 z2 st2 hQ2
  subst l2 y2 z2
  obtain ⟨rfl, N2q, E2⟩ := hQ2
  have N2 := Fr.app N0 N2q
  refine own_step (T' := T2) (f' := (mkF m 6 #[.val (.ref a1), .val (.int (2 : Int32))] [])) (fun t k => st2 t k) ?_
  refine own_step (T' := T2) (f' := (mkF m 7 #[.val (.ref a1), .val (.int (2 : Int32))] [(.ref a1)])) (fun t k => XS.aloadN X2.here hx rfl (hb hby d18_6) rfl rfl k) ?_
  refine own_step (T' := T2) (f' := (mkF m 8 #[.val (.ref a1), .val (.int (2 : Int32))] [(.int (2 : Int32)), (.ref a1)])) (fun t k => XS.iloadN X2.here hx rfl (hb hby d18_7) rfl k) ?_
  obtain ⟨cl3, Ar3, q3, S3, M3, H3, G3⟩ := id V_a1
  have hin3 : ¬ ((2 : Int32) < 0 ∨ cl3.slots.size ≤ ((2 : Int32)).toNatClampNeg) := inb_of S3 ⟨by decide, by decide⟩
  have hat3 : cl3.slots[((2 : Int32)).toNatClampNeg]? = some (.int y2) := own_at hin3 H3 2 rfl rfl
  refine own_step (T' := T2) (f' := (mkF m 9 #[.val (.ref a1), .val (.int (2 : Int32))] [(.int y2)])) (fun t k => X2.baloadBytes hx (j := (2 : Int32)) (v := (.int y2)) (by rw [E2]; exact Ar3.1) (State.isArrayOf_alike hZ.alike Ar3.2.1) Ar3.2.2 hin3 hat3 (g := (mkF m 8 #[.val (.ref a1), .val (.int (2 : Int32))] [(.int (2 : Int32)), (.ref a1)])) rfl rfl (hb hby d18_8) _ k) ?_
  refine own_step (T' := T2) (f' := (mkF m 12 #[.val (.ref a1), .val (.int (2 : Int32))] [(.int (255 : Int32)), (.int y2)])) (fun t k => XS.sipush X2.here hx rfl (hb hby d18_9) k) ?_
  refine own_step (T' := T2) (f' := (mkF m 13 #[.val (.ref a1), .val (.int (2 : Int32))] [(.int (y2 &&& (255 : Int32)))])) (fun t k => XS.iand X2.here hx rfl (hb hby d18_12) rfl k) ?_
  refine own_step (T' := T2) (f' := (mkF m 14 #[.val (.ref a1), .val (.int (2 : Int32))] [(.int ((y2 &&& (255 : Int32)).toUInt32.toUInt16.toUInt32.toInt32))])) (fun t k => XS.i2c X2.here hx rfl (hb hby d18_13) rfl k) ?_
  exact own_retN X2 hx hlk (t := .char) Bd.returns (by simp) (hb hby d18_14) (by decide) (by decide) ⟨rfl, N2, E2⟩

theorem ef_rm16_3_2 (m : MethodId) (x0 : Addr) (x1 : Int32) : entryFrame m #[(.ref x0), (.int x1)] 2 = mkF m 0 #[.val (.ref x0), .val (.int x1)] [] := by first | (simp [entryFrame, mkF, argsToLocals, Value.category]; done) | rfl
set_option maxRecDepth 65536 in
set_option maxHeartbeats 40000000 in
theorem rm16_3_2 (l : Launch) (Z : State) (a0 : Array Value) (hw : ∀ d ∈ tables_1, d.before a0 Z = true) (ws : List Jvm.Cond) (a1 : Addr) (h0 : Heap) (n0 : Nat) (Z0 : n0 ≤ h0.size) (b : Addr) (kb : ClassId) (y0 y1 y2 : Int32) (O : OwnStr Z h0 a1 b kb 3 [(.int y0), (.int y1), (.int y2)]) (cs : Int32) (S_CS : Sta Z h0 "java/lang/String" "COMPACT_STRINGS" "Z" (.int cs)) (hcs : ¬ cs = (0 : Int32)) (fm : Value) (S_FM : Sta Z h0 "jdk/internal/util/Preconditions" "SIOOBE_FORMATTER" "Ljava/util/function/BiFunction;" fm) (hfc : fm.category = 1) (hfr : fm.isRef = true) :
    MetFree l (⟨"java/lang/String", "charAt", "(I)C"⟩ : MethodName) (head1 (Jvm.Cond.code (⟨"java/lang/String", "charAt", "(I)C"⟩ : MethodName) jdk_42_method_56_code 2 (some .char) :: ws) ({ frames := 3, cells := 0, slots := 0, locals := 42 } : Room)) (fun a U => a = #[(.ref a1), (.int (2 : Int32))] ∧ Z.Warmed39 U.vm ∧ U.heap = h0) (fun _ _ _ _ _ => True) (fun _ U o U' => ∃ v L, o = .returned v ∧ QI (own_ch y2) h0 n0 v U'.heap L ∧ FrameEnd U o U' L ({ frames := 3, cells := 0, slots := 0, locals := 42 } : Room).cells ({ frames := 3, cells := 0, slots := 0, locals := 42 } : Room).slots) := by
  refine MetFree.of_bodySF (plainFor_of_name pn_16) hisR ?_
  intro p e s m args below meth c s₁ Bd hml0 hP hK
  obtain ⟨rfl, hZ, hh⟩ := hP
  have hx := Bd.exec
  have hby := Bd.bytes
  have hlk : meth.locks = false := BodyLoose.notSynchronized Bd
  have hml : c.maxLocals = 2 := hml0
  have hown : s.vm.findClass "java/lang/String" = some m.cls := findClass_of_methodNamed Bd.named
  have hnm := (name_of_methodNamed Bd.named Bd.method).1
  have X0 : Stand p l e ({ frames := 3, cells := 0, slots := 0, locals := 42 } : Room) s m #[(.ref a1), (.int (2 : Int32))] below meth c s₁ [] 0 0 := Stand.of_body Bd
  have e0 : s₁.heap = h0 := by rw [← hh, Bd.state]; rfl
  have N0 := Fr.nil n0
  show OwnEnds p e below s (QI (own_ch y2) h0 n0) ({ frames := 3, cells := 0, slots := 0, locals := 42 } : Room).cells ({ frames := 3, cells := 0, slots := 0, locals := 42 } : Room).slots s₁ (entryFrame m #[(.ref a1), (.int (2 : Int32))] 2)
  refine own_step (T' := s₁) (f' := (mkF m 0 #[.val (.ref a1), .val (.int (2 : Int32))] [])) (fun t k => castTop (ef_rm16_3_2 m a1 (2 : Int32)) k) ?_
  refine own_step (T' := s₁) (f' := (mkF m 1 #[.val (.ref a1), .val (.int (2 : Int32))] [(.ref a1)])) (fun t k => XS.aloadN X0.here hx rfl (hb hby d16_0) rfl rfl k) ?_
  obtain ⟨cq1, kq1, q1a, q1b, q1c⟩ := isOf hZ e0 O.1
  obtain ⟨_, _, ⟨T1, L1, k1, n1⟩, -, X1, ⟨Lc1, hQ1, l1, y1, z1⟩, st1⟩ := X0.virtualBack hx (y := (⟨"java/lang/String", "isLatin1", "()Z"⟩ : MethodName)) (z := (⟨"java/lang/String", "isLatin1", "()Z"⟩ : MethodName)) hown (mvT hZ (hw _ (List.mem_of_getElem? (i := 86) rfl))) (mvT hZ (hw _ (List.mem_of_getElem? (i := 87) rfl))) (notFace_of_selects (args := #[]) (mvT hZ (hw _ (List.mem_of_getElem? (i := 89) rfl)))) (mvT hZ (hw _ (List.mem_of_getElem? (i := 89) rfl))) (mvT hZ (hw _ (List.mem_of_getElem? (i := 88) rfl))) (by decide) (backOf (W := 0) (rm17 l Z a0 hw [] a1 h0 n0 Z0 O.2.1 cs S_CS hcs) hZ (hw _ (List.mem_of_getElem? (i := 90) rfl)) (hw _ (List.mem_of_getElem? (i := 42) rfl)) (by decide) (by decide)) q1a q1c (g := (mkF m 1 #[.val (.ref a1), .val (.int (2 : Int32))] [(.ref a1)])) rfl (by rw [hml]; rfl) (Steps.refl _) (argsL := []) (rest := []) (lenOf pd_16_0 rfl) rfl (by show 2 * 0 + _ ≤ _; exact Nat.le_of_eq rfl) (hb hby d16_1) (fun _ _ => ⟨rfl, e0, (by decide : 0 + 0 ≤ _), (by decide : 0 + 0 ≤ _)⟩)
  dsimp only [Pt.U, Pt.locs, Pt.cells, Pt.slots] at X1 l1 y1 z1 st1 hQ1
  subst l1 y1 z1
  obtain ⟨rfl, N1q, E1⟩ := hQ1
  have N1 := Fr.app N0 N1q
  refine own_step (T' := T1) (f' := (mkF m 4 #[.val (.ref a1), .val (.int (2 : Int32))] [(.int (1 : Int32))])) (fun t k => st1.trans k) ?_
  refine own_step (T' := T1) (f' := (mkF m 7 #[.val (.ref a1), .val (.int (2 : Int32))] [])) (fun t k => XS.ifNo X1.here hx rfl (hb hby d16_4) rfl ((if0 _ _).trans (feq (by decide : ¬ ((1 : Int32) = (0 : Int32)))).1) k) ?_
  refine own_step (T' := T1) (f' := (mkF m 8 #[.val (.ref a1), .val (.int (2 : Int32))] [(.ref a1)])) (fun t k => XS.aloadN X1.here hx rfl (hb hby d16_7) rfl rfl k) ?_
  obtain ⟨T2, X2, e2, st2⟩ := getF X1 hx hZ hown (host := "") (Or.inl (hw _ (List.mem_of_getElem? (i := 64) rfl))) Via.refl E1 O.2.2.1 (g := (mkF m 8 #[.val (.ref a1), .val (.int (2 : Int32))] [(.ref a1)])) rfl rfl (hb hby d16_8)
  refine own_step (T' := T2) (f' := (mkF m 11 #[.val (.ref a1), .val (.int (2 : Int32))] [(.ref b)])) (fun t k => st2 t k) ?_
  refine own_step (T' := T2) (f' := (mkF m 12 #[.val (.ref a1), .val (.int (2 : Int32))] [(.int (2 : Int32)), (.ref b)])) (fun t k => XS.iloadN X2.here hx rfl (hb hby d16_11) rfl k) ?_
  obtain ⟨_, _, ⟨T3, L3, k3, n3⟩, -, X3, ⟨Lc3, hQ3, l3, y3, z3⟩, st3⟩ := Jvm.LawKit.callS X2 hx (y := (⟨"java/lang/StringLatin1", "charAt", "([BI)C"⟩ : MethodName)) hown (mvT hZ (hw _ (List.mem_of_getElem? (i := 91) rfl))) (mvT hZ (hw _ (List.mem_of_getElem? (i := 92) rfl))) (mvT hZ (hw _ (List.mem_of_getElem? (i := 93) rfl))) (mvT hZ (hw _ (List.mem_of_getElem? (i := 94) rfl))) (by decide) (backOf (W := 0) (rm18_3_2 l Z a0 hw [] b h0 n0 Z0 kb y0 y1 y2 O.2.2.2 fm S_FM hfc hfr) hZ (hw _ (List.mem_of_getElem? (i := 94) rfl)) (hw _ (List.mem_of_getElem? (i := 93) rfl)) (by decide) (by decide)) (g := (mkF m 12 #[.val (.ref a1), .val (.int (2 : Int32))] [(.int (2 : Int32)), (.ref b)])) rfl (by rw [hml]; rfl) (argsL := [(.ref b), (.int (2 : Int32))]) (rest := []) (lenOf pd_16_1 rfl) rfl (by show 2 * 0 + _ ≤ _; exact Nat.le_of_eq rfl) (hb hby d16_12) (fun _ _ => ⟨rfl, e2, (by decide : 0 + 0 ≤ _), (by decide : 0 + 0 ≤ _)⟩)
  dsimp only [Pt.U, Pt.locs, Pt.cells, Pt.slots] at X3 l3 y3 z3 st3 hQ3
  subst l3 y3 z3
  obtain ⟨rfl, N3q, E3⟩ := hQ3
  have N3 := Fr.app N1 N3q
  refine own_step (T' := T3) (f' := (mkF m 15 #[.val (.ref a1), .val (.int (2 : Int32))] [(.int (own_ch y2))])) (fun t k => st3 t k) ?_
  exact own_retN X3 hx hlk (t := .char) Bd.returns (by simp) (hb hby d16_15) (by decide) (by decide) ⟨by rw [own_chn], N3, E3⟩

theorem ef_rm13_3 (m : MethodId) (x0 : Addr) (x1 : Addr) : entryFrame m #[(.ref x0), (.ref x1)] 5 = mkF m 0 #[.val (.ref x0), .val (.ref x1), .unset, .unset, .unset] [] := by first | (simp [entryFrame, mkF, argsToLocals, Value.category]; done) | rfl
set_option maxRecDepth 65536 in
set_option maxHeartbeats 40000000 in
theorem rm13_3 (l : Launch) (Z : State) (a0 : Array Value) (hw : ∀ d ∈ tables_1, d.before a0 Z = true) (ws : List Jvm.Cond) (a1 : Addr) (a2 : Addr) (h0 : Heap) (n0 : Nat) (Z0 : n0 ≤ h0.size) (y0 y1 y2 : Int32) (bv : Addr) (kv : ClassId) (O : OwnTx Z h0 a1 bv kv 3 [(.int y0), (.int y1), (.int y2)]) (b : Addr) (kb : ClassId) (O2 : OwnStr Z h0 a2 b kb 3 [(.int y0), (.int y1), (.int y2)]) (cs : Int32) (S_CS : Sta Z h0 "java/lang/String" "COMPACT_STRINGS" "Z" (.int cs)) (hcs : ¬ cs = (0 : Int32)) (fm : Value) (S_FM : Sta Z h0 "jdk/internal/util/Preconditions" "SIOOBE_FORMATTER" "Ljava/util/function/BiFunction;" fm) (hfc : fm.category = 1) (hfr : fm.isRef = true) :
    MetFree l (⟨"com/example/lit2/lit2/weave/TexOutput", "endsWith", "(Ljava/lang/String;)Z"⟩ : MethodName) (head1 (Jvm.Cond.code (⟨"com/example/lit2/lit2/weave/TexOutput", "endsWith", "(Ljava/lang/String;)Z"⟩ : MethodName) prog_135_method_10_code 5 (some .boolean) :: ws) ({ frames := 4, cells := 0, slots := 0, locals := 56 } : Room)) (fun a U => a = #[(.ref a1), (.ref a2)] ∧ Z.Warmed39 U.vm ∧ U.heap = h0) (fun _ _ _ _ _ => True) (fun _ U o U' => ∃ v L, o = .returned v ∧ QI 1 h0 n0 v U'.heap L ∧ FrameEnd U o U' L ({ frames := 4, cells := 0, slots := 0, locals := 56 } : Room).cells ({ frames := 4, cells := 0, slots := 0, locals := 56 } : Room).slots) := by
  refine MetFree.of_bodySF (plainFor_of_name pn_13) hisR ?_
  intro p e s m args below meth c s₁ Bd hml0 hP hK
  obtain ⟨rfl, hZ, hh⟩ := hP
  have hx := Bd.exec
  have hby := Bd.bytes
  have hlk : meth.locks = false := BodyLoose.notSynchronized Bd
  have hml : c.maxLocals = 5 := hml0
  have hown : s.vm.findClass "com/example/lit2/lit2/weave/TexOutput" = some m.cls := findClass_of_methodNamed Bd.named
  have hnm := (name_of_methodNamed Bd.named Bd.method).1
  have X0 : Stand p l e ({ frames := 4, cells := 0, slots := 0, locals := 56 } : Room) s m #[(.ref a1), (.ref a2)] below meth c s₁ [] 0 0 := Stand.of_body Bd
  have e0 : s₁.heap = h0 := by rw [← hh, Bd.state]; rfl
  have N0 := Fr.nil n0
  have Zz := Z0
  have Kp : Keep h0 h0 [] := Keep.refl _ _
  have V_bv := O.2.2.2.2.1
  show OwnEnds p e below s (QI 1 h0 n0) ({ frames := 4, cells := 0, slots := 0, locals := 56 } : Room).cells ({ frames := 4, cells := 0, slots := 0, locals := 56 } : Room).slots s₁ (entryFrame m #[(.ref a1), (.ref a2)] 5)
  refine own_step (T' := s₁) (f' := (mkF m 0 #[.val (.ref a1), .val (.ref a2), .unset, .unset, .unset] [])) (fun t k => castTop (ef_rm13_3 m a1 a2) k) ?_
  refine own_step (T' := s₁) (f' := (mkF m 1 #[.val (.ref a1), .val (.ref a2), .unset, .unset, .unset] [(.ref a1)])) (fun t k => XS.aloadN X0.here hx rfl (hb hby d13_0) rfl rfl k) ?_
  obtain ⟨T1, X1, e1, st1⟩ := getF X0 hx hZ hown (host := "") (Or.inl (hw _ (List.mem_of_getElem? (i := 25) rfl))) Via.refl e0 O.2.2.1 (g := (mkF m 1 #[.val (.ref a1), .val (.ref a2), .unset, .unset, .unset] [(.ref a1)])) rfl rfl (hb hby d13_1)
  refine own_step (T' := T1) (f' := (mkF m 4 #[.val (.ref a1), .val (.ref a2), .unset, .unset, .unset] [(.int (3 : Int32))])) (fun t k => st1 t k) ?_
  refine own_step (T' := T1) (f' := (mkF m 5 #[.val (.ref a1), .val (.ref a2), .unset, .unset, .unset] [(.ref a2), (.int (3 : Int32))])) (fun t k => XS.aloadN X1.here hx rfl (hb hby d13_4) rfl rfl k) ?_
  obtain ⟨cq2, kq2, q2a, q2b, q2c⟩ := isOf hZ e1 O2.1
  obtain ⟨_, _, ⟨T2, L2, k2, n2⟩, -, X2, ⟨Lc2, hQ2, l2, y2, z2⟩, st2⟩ := X1.virtualBack hx (y := (⟨"java/lang/String", "length", "()I"⟩ : MethodName)) (z := (⟨"java/lang/String", "length", "()I"⟩ : MethodName)) hown (mvT hZ (hw _ (List.mem_of_getElem? (i := 71) rfl))) (mvT hZ (hw _ (List.mem_of_getElem? (i := 72) rfl))) (notFace_of_selects (args := #[]) (mvT hZ (hw _ (List.mem_of_getElem? (i := 74) rfl)))) (mvT hZ (hw _ (List.mem_of_getElem? (i := 74) rfl))) (mvT hZ (hw _ (List.mem_of_getElem? (i := 73) rfl))) (by decide) (backOf (W := 1) (rm14_3 l Z a0 hw [] a2 h0 n0 Zz b kb y0 y1 y2 O2 cs S_CS hcs) hZ (hw _ (List.mem_of_getElem? (i := 75) rfl)) (hw _ (List.mem_of_getElem? (i := 42) rfl)) (by decide) (by decide)) q2a q2c (g := (mkF m 5 #[.val (.ref a1), .val (.ref a2), .unset, .unset, .unset] [(.ref a2), (.int (3 : Int32))])) rfl (by rw [hml]; rfl) (Steps.refl _) (argsL := []) (rest := [(.int (3 : Int32))]) (lenOf pd_13_0 rfl) rfl (by show 2 * 0 + _ ≤ _; exact Nat.le_of_eq rfl) (hb hby d13_5) (fun _ _ => ⟨rfl, e1, (by decide : 0 + 0 ≤ _), (by decide : 0 + 0 ≤ _)⟩)
  dsimp only [Pt.U, Pt.locs, Pt.cells, Pt.slots] at X2 l2 y2 z2 st2 hQ2
  subst l2 y2 z2
  obtain ⟨rfl, N2q, E2⟩ := hQ2
  have N2 := Fr.app N0 N2q
  refine own_step (T' := T2) (f' := (mkF m 8 #[.val (.ref a1), .val (.ref a2), .unset, .unset, .unset] [(.int (3 : Int32)), (.int (3 : Int32))])) (fun t k => st2.trans k) ?_
  refine own_step (T' := T2) (f' := (mkF m 9 #[.val (.ref a1), .val (.ref a2), .unset, .unset, .unset] [(.int (0 : Int32))])) (fun t k => XS.isub X2.here hx rfl (hb hby d13_8) rfl k) ?_
  refine own_step (T' := T2) (f' := (mkF m 10 #[.val (.ref a1), .val (.ref a2), .val (.int (0 : Int32)), .unset, .unset] [])) (fun t k => XS.istoreN X2.here hx rfl (hb hby d13_9) rfl (l' := #[.val (.ref a1), .val (.ref a2), .val (.int (0 : Int32)), .unset, .unset]) rfl k) ?_
  refine own_step (T' := T2) (f' := (mkF m 11 #[.val (.ref a1), .val (.ref a2), .val (.int (0 : Int32)), .unset, .unset] [(.int (0 : Int32))])) (fun t k => XS.iloadN X2.here hx rfl (hb hby d13_10) rfl k) ?_
  refine own_step (T' := T2) (f' := (mkF m 14 #[.val (.ref a1), .val (.ref a2), .val (.int (0 : Int32)), .unset, .unset] [])) (fun t k => XS.ifNo X2.here hx rfl (hb hby d13_11) rfl ((if0 _ _).trans (flt (by decide : ¬ ((0 : Int32) < (0 : Int32)))).1) k) ?_
  refine own_step (T' := T2) (f' := (mkF m 15 #[.val (.ref a1), .val (.ref a2), .val (.int (0 : Int32)), .unset, .unset] [(.int (1 : Int32))])) (fun t k => XS.iconst X2.here hx rfl (hb hby d13_14) k) ?_
  refine own_step (T' := T2) (f' := (mkF m 19 #[.val (.ref a1), .val (.ref a2), .val (.int (0 : Int32)), .unset, .unset] [(.int (1 : Int32))])) (fun t k => XS.goto X2.here hx rfl (pc0 := 15) (pc' := 19) rfl (hb hby d13_15) (by decide) (by decide) k) ?_
  refine own_step (T' := T2) (f' := (mkF m 20 #[.val (.ref a1), .val (.ref a2), .val (.int (0 : Int32)), .val (.int (1 : Int32)), .unset] [])) (fun t k => XS.istoreN X2.here hx rfl (hb hby d13_19) rfl (l' := #[.val (.ref a1), .val (.ref a2), .val (.int (0 : Int32)), .val (.int (1 : Int32)), .unset]) rfl k) ?_
  refine own_step (T' := T2) (f' := (mkF m 21 #[.val (.ref a1), .val (.ref a2), .val (.int (0 : Int32)), .val (.int (1 : Int32)), .unset] [(.int (0 : Int32))])) (fun t k => XS.iconst X2.here hx rfl (hb hby d13_20) k) ?_
  refine own_step (T' := T2) (f' := (mkF m 23 #[.val (.ref a1), .val (.ref a2), .val (.int (0 : Int32)), .val (.int (1 : Int32)), .val (.int (0 : Int32))] [])) (fun t k => XS.istore X2.here hx rfl (hb hby d13_21) rfl (l' := #[.val (.ref a1), .val (.ref a2), .val (.int (0 : Int32)), .val (.int (1 : Int32)), .val (.int (0 : Int32))]) rfl k) ?_
  refine own_step (T' := T2) (f' := (mkF m 25 #[.val (.ref a1), .val (.ref a2), .val (.int (0 : Int32)), .val (.int (1 : Int32)), .val (.int (0 : Int32))] [(.int (0 : Int32))])) (fun t k => XS.iload X2.here hx rfl (hb hby d13_23) rfl k) ?_
  refine own_step (T' := T2) (f' := (mkF m 26 #[.val (.ref a1), .val (.ref a2), .val (.int (0 : Int32)), .val (.int (1 : Int32)), .val (.int (0 : Int32))] [(.ref a2), (.int (0 : Int32))])) (fun t k => XS.aloadN X2.here hx rfl (hb hby d13_25) rfl rfl k) ?_
  obtain ⟨cq3, kq3, q3a, q3b, q3c⟩ := isOf hZ E2 O2.1
  obtain ⟨_, _, ⟨T3, L3, k3, n3⟩, -, X3, ⟨Lc3, hQ3, l3, y3, z3⟩, st3⟩ := X2.virtualBack hx (y := (⟨"java/lang/String", "length", "()I"⟩ : MethodName)) (z := (⟨"java/lang/String", "length", "()I"⟩ : MethodName)) hown (mvT hZ (hw _ (List.mem_of_getElem? (i := 71) rfl))) (mvT hZ (hw _ (List.mem_of_getElem? (i := 72) rfl))) (notFace_of_selects (args := #[]) (mvT hZ (hw _ (List.mem_of_getElem? (i := 74) rfl)))) (mvT hZ (hw _ (List.mem_of_getElem? (i := 74) rfl))) (mvT hZ (hw _ (List.mem_of_getElem? (i := 73) rfl))) (by decide) (backOf (W := 1) (rm14_3 l Z a0 hw [] a2 h0 n0 Zz b kb y0 y1 y2 O2 cs S_CS hcs) hZ (hw _ (List.mem_of_getElem? (i := 75) rfl)) (hw _ (List.mem_of_getElem? (i := 42) rfl)) (by decide) (by decide)) q3a q3c (g := (mkF m 26 #[.val (.ref a1), .val (.ref a2), .val (.int (0 : Int32)), .val (.int (1 : Int32)), .val (.int (0 : Int32))] [(.ref a2), (.int (0 : Int32))])) rfl (by rw [hml]; rfl) (Steps.refl _) (argsL := []) (rest := [(.int (0 : Int32))]) (lenOf pd_13_0 rfl) rfl (by show 2 * 0 + _ ≤ _; exact Nat.le_of_eq rfl) (hb hby d13_26) (fun _ _ => ⟨rfl, E2, (by decide : 0 + 0 ≤ _), (by decide : 0 + 0 ≤ _)⟩)
  dsimp only [Pt.U, Pt.locs, Pt.cells, Pt.slots] at X3 l3 y3 z3 st3 hQ3
  subst l3 y3 z3
  obtain ⟨rfl, N3q, E3⟩ := hQ3
  have N3 := Fr.app N2 N3q
  refine own_step (T' := T3) (f' := (mkF m 29 #[.val (.ref a1), .val (.ref a2), .val (.int (0 : Int32)), .val (.int (1 : Int32)), .val (.int (0 : Int32))] [(.int (3 : Int32)), (.int (0 : Int32))])) (fun t k => st3.trans k) ?_
  refine own_step (T' := T3) (f' := (mkF m 32 #[.val (.ref a1), .val (.ref a2), .val (.int (0 : Int32)), .val (.int (1 : Int32)), .val (.int (0 : Int32))] [])) (fun t k => XS.icmpNo X3.here hx rfl (hb hby d13_29) rfl (tlt (by decide : (0 : Int32) < (3 : Int32))).2.1 k) ?_
  refine own_step (T' := T3) (f' := (mkF m 33 #[.val (.ref a1), .val (.ref a2), .val (.int (0 : Int32)), .val (.int (1 : Int32)), .val (.int (0 : Int32))] [(.int (1 : Int32))])) (fun t k => XS.iloadN X3.here hx rfl (hb hby d13_32) rfl k) ?_
  refine own_step (T' := T3) (f' := (mkF m 36 #[.val (.ref a1), .val (.ref a2), .val (.int (0 : Int32)), .val (.int (1 : Int32)), .val (.int (0 : Int32))] [])) (fun t k => XS.ifNo X3.here hx rfl (hb hby d13_33) rfl ((if0 _ _).trans (feq (by decide : ¬ ((1 : Int32) = (0 : Int32)))).1) k) ?_
  refine own_step (T' := T3) (f' := (mkF m 37 #[.val (.ref a1), .val (.ref a2), .val (.int (0 : Int32)), .val (.int (1 : Int32)), .val (.int (0 : Int32))] [(.ref a1)])) (fun t k => XS.aloadN X3.here hx rfl (hb hby d13_36) rfl rfl k) ?_
  obtain ⟨T4, X4, e4, st4⟩ := getF X3 hx hZ hown (host := "") (Or.inl (hw _ (List.mem_of_getElem? (i := 18) rfl))) Via.refl E3 O.2.1 (g := (mkF m 37 #[.val (.ref a1), .val (.ref a2), .val (.int (0 : Int32)), .val (.int (1 : Int32)), .val (.int (0 : Int32))] [(.ref a1)])) rfl rfl (hb hby d13_37)
  refine own_step (T' := T4) (f' := (mkF m 40 #[.val (.ref a1), .val (.ref a2), .val (.int (0 : Int32)), .val (.int (1 : Int32)), .val (.int (0 : Int32))] [(.ref bv)])) (fun t k => st4 t k) ?_
  refine own_step (T' := T4) (f' := (mkF m 41 #[.val (.ref a1), .val (.ref a2), .val (.int (0 : Int32)), .val (.int (1 : Int32)), .val (.int (0 : Int32))] [(.int (0 : Int32)), (.ref bv)])) (fun t k => XS.iloadN X4.here hx rfl (hb hby d13_40) rfl k) ?_
  refine own_step (T' := T4) (f' := (mkF m 43 #[.val (.ref a1), .val (.ref a2), .val (.int (0 : Int32)), .val (.int (1 : Int32)), .val (.int (0 : Int32))] [(.int (0 : Int32)), (.int (0 : Int32)), (.ref bv)])) (fun t k => XS.iload X4.here hx rfl (hb hby d13_41) rfl k) ?_
  refine own_step (T' := T4) (f' := (mkF m 44 #[.val (.ref a1), .val (.ref a2), .val (.int (0 : Int32)), .val (.int (1 : Int32)), .val (.int (0 : Int32))] [(.int (0 : Int32)), (.ref bv)])) (fun t k => XS.iadd X4.here hx rfl (hb hby d13_43) rfl k) ?_
  obtain ⟨cl5, Ar5, q5, S5, M5, H5, G5⟩ := id V_bv
  have hin5 : ¬ ((0 : Int32) < 0 ∨ cl5.slots.size ≤ ((0 : Int32)).toNatClampNeg) := inb_of S5 ⟨by decide, by decide⟩
  have hat5 : cl5.slots[((0 : Int32)).toNatClampNeg]? = some (.int y0) := own_at hin5 H5 0 rfl rfl
  refine own_step (T' := T4) (f' := (mkF m 45 #[.val (.ref a1), .val (.ref a2), .val (.int (0 : Int32)), .val (.int (1 : Int32)), .val (.int (0 : Int32))] [(.int y0)])) (fun t k => X4.baloadBytes hx (j := (0 : Int32)) (v := (.int y0)) (by rw [e4]; exact Ar5.1) (State.isArrayOf_alike hZ.alike Ar5.2.1) Ar5.2.2 hin5 hat5 (g := (mkF m 44 #[.val (.ref a1), .val (.ref a2), .val (.int (0 : Int32)), .val (.int (1 : Int32)), .val (.int (0 : Int32))] [(.int (0 : Int32)), (.ref bv)])) rfl rfl (hb hby d13_44) _ k) ?_
  refine own_step (T' := T4) (f' := (mkF m 48 #[.val (.ref a1), .val (.ref a2), .val (.int (0 : Int32)), .val (.int (1 : Int32)), .val (.int (0 : Int32))] [(.int (255 : Int32)), (.int y0)])) (fun t k => XS.sipush X4.here hx rfl (hb hby d13_45) k) ?_
  refine own_step (T' := T4) (f' := (mkF m 49 #[.val (.ref a1), .val (.ref a2), .val (.int (0 : Int32)), .val (.int (1 : Int32)), .val (.int (0 : Int32))] [(.int (y0 &&& (255 : Int32)))])) (fun t k => XS.iand X4.here hx rfl (hb hby d13_48) rfl k) ?_
  refine own_step (T' := T4) (f' := (mkF m 50 #[.val (.ref a1), .val (.ref a2), .val (.int (0 : Int32)), .val (.int (1 : Int32)), .val (.int (0 : Int32))] [(.ref a2), (.int (y0 &&& (255 : Int32)))])) (fun t k => XS.aloadN X4.here hx rfl (hb hby d13_49) rfl rfl k) ?_
  refine own_step (T' := T4) (f' := (mkF m 52 #[.val (.ref a1), .val (.ref a2), .val (.int (0 : Int32)), .val (.int (1 : Int32)), .val (.int (0 : Int32))] [(.int (0 : Int32)), (.ref a2), (.int (y0 &&& (255 : Int32)))])) (fun t k => XS.iload X4.here hx rfl (hb hby d13_50) rfl k) ?_
  obtain ⟨cq6, kq6, q6a, q6b, q6c⟩ := isOf hZ e4 O2.1
  obtain ⟨_, _, ⟨T6, L6, k6, n6⟩, -, X6, ⟨Lc6, hQ6, l6, y6, z6⟩, st6⟩ := X4.virtualBack hx (y := (⟨"java/lang/String", "charAt", "(I)C"⟩ : MethodName)) (z := (⟨"java/lang/String", "charAt", "(I)C"⟩ : MethodName)) hown (mvT hZ (hw _ (List.mem_of_getElem? (i := 81) rfl))) (mvT hZ (hw _ (List.mem_of_getElem? (i := 82) rfl))) (notFace_of_selects (args := #[]) (mvT hZ (hw _ (List.mem_of_getElem? (i := 84) rfl)))) (mvT hZ (hw _ (List.mem_of_getElem? (i := 84) rfl))) (mvT hZ (hw _ (List.mem_of_getElem? (i := 83) rfl))) (by decide) (backOf (W := 1) (rm16_3_0 l Z a0 hw [] a2 h0 n0 Zz b kb y0 y1 y2 O2 cs S_CS hcs fm S_FM hfc hfr) hZ (hw _ (List.mem_of_getElem? (i := 85) rfl)) (hw _ (List.mem_of_getElem? (i := 42) rfl)) (by decide) (by decide)) q6a q6c (g := (mkF m 52 #[.val (.ref a1), .val (.ref a2), .val (.int (0 : Int32)), .val (.int (1 : Int32)), .val (.int (0 : Int32))] [(.int (0 : Int32)), (.ref a2), (.int (y0 &&& (255 : Int32)))])) rfl (by rw [hml]; rfl) (Steps.refl _) (argsL := [(.int (0 : Int32))]) (rest := [(.int (y0 &&& (255 : Int32)))]) (lenOf pd_13_1 rfl) rfl (by show 2 * 0 + _ ≤ _; exact Nat.le_of_eq rfl) (hb hby d13_52) (fun _ _ => ⟨rfl, e4, (by decide : 0 + 0 ≤ _), (by decide : 0 + 0 ≤ _)⟩)
  dsimp only [Pt.U, Pt.locs, Pt.cells, Pt.slots] at X6 l6 y6 z6 st6 hQ6
  subst l6 y6 z6
  obtain ⟨rfl, N6q, E6⟩ := hQ6
  have N6 := Fr.app N3 N6q
  refine own_step (T' := T6) (f' := (mkF m 55 #[.val (.ref a1), .val (.ref a2), .val (.int (0 : Int32)), .val (.int (1 : Int32)), .val (.int (0 : Int32))] [(.int (own_ch y0)), (.int (y0 &&& (255 : Int32)))])) (fun t k => st6.trans k) ?_
  refine own_step (T' := T6) (f' := (mkF m 58 #[.val (.ref a1), .val (.ref a2), .val (.int (0 : Int32)), .val (.int (1 : Int32)), .val (.int (0 : Int32))] [])) (fun t k => XS.icmpNo X6.here hx rfl (hb hby d13_55) rfl (teq (own_che _).symm).2 k) ?_
  refine own_step (T' := T6) (f' := (mkF m 59 #[.val (.ref a1), .val (.ref a2), .val (.int (0 : Int32)), .val (.int (1 : Int32)), .val (.int (0 : Int32))] [(.int (1 : Int32))])) (fun t k => XS.iconst X6.here hx rfl (hb hby d13_58) k) ?_
  refine own_step (T' := T6) (f' := (mkF m 63 #[.val (.ref a1), .val (.ref a2), .val (.int (0 : Int32)), .val (.int (1 : Int32)), .val (.int (0 : Int32))] [(.int (1 : Int32))])) (fun t k => XS.goto X6.here hx rfl (pc0 := 59) (pc' := 63) rfl (hb hby d13_59) (by decide) (by decide) k) ?_
  refine own_step (T' := T6) (f' := (mkF m 64 #[.val (.ref a1), .val (.ref a2), .val (.int (0 : Int32)), .val (.int (1 : Int32)), .val (.int (0 : Int32))] [])) (fun t k => XS.istoreN X6.here hx rfl (hb hby d13_63) rfl (l' := #[.val (.ref a1), .val (.ref a2), .val (.int (0 : Int32)), .val (.int (1 : Int32)), .val (.int (0 : Int32))]) rfl k) ?_
  refine own_step (T' := T6) (f' := (mkF m 67 #[.val (.ref a1), .val (.ref a2), .val (.int (0 : Int32)), .val (.int (1 : Int32)), .val (.int (1 : Int32))] [])) (fun t k => XS.iinc X6.here hx rfl (hb hby d13_64) rfl (l' := #[.val (.ref a1), .val (.ref a2), .val (.int (0 : Int32)), .val (.int (1 : Int32)), .val (.int (1 : Int32))]) rfl k) ?_
  refine own_step (T' := T6) (f' := (mkF m 23 #[.val (.ref a1), .val (.ref a2), .val (.int (0 : Int32)), .val (.int (1 : Int32)), .val (.int (1 : Int32))] [])) (fun t k => XS.goto X6.here hx rfl (pc0 := 67) (pc' := 23) rfl (hb hby d13_67) (by decide) (by decide) k) ?_
  refine own_step (T' := T6) (f' := (mkF m 25 #[.val (.ref a1), .val (.ref a2), .val (.int (0 : Int32)), .val (.int (1 : Int32)), .val (.int (1 : Int32))] [(.int (1 : Int32))])) (fun t k => XS.iload X6.here hx rfl (hb hby d13_23) rfl k) ?_
  refine own_step (T' := T6) (f' := (mkF m 26 #[.val (.ref a1), .val (.ref a2), .val (.int (0 : Int32)), .val (.int (1 : Int32)), .val (.int (1 : Int32))] [(.ref a2), (.int (1 : Int32))])) (fun t k => XS.aloadN X6.here hx rfl (hb hby d13_25) rfl rfl k) ?_
  obtain ⟨cq7, kq7, q7a, q7b, q7c⟩ := isOf hZ E6 O2.1
  obtain ⟨_, _, ⟨T7, L7, k7, n7⟩, -, X7, ⟨Lc7, hQ7, l7, y7, z7⟩, st7⟩ := X6.virtualBack hx (y := (⟨"java/lang/String", "length", "()I"⟩ : MethodName)) (z := (⟨"java/lang/String", "length", "()I"⟩ : MethodName)) hown (mvT hZ (hw _ (List.mem_of_getElem? (i := 71) rfl))) (mvT hZ (hw _ (List.mem_of_getElem? (i := 72) rfl))) (notFace_of_selects (args := #[]) (mvT hZ (hw _ (List.mem_of_getElem? (i := 74) rfl)))) (mvT hZ (hw _ (List.mem_of_getElem? (i := 74) rfl))) (mvT hZ (hw _ (List.mem_of_getElem? (i := 73) rfl))) (by decide) (backOf (W := 1) (rm14_3 l Z a0 hw [] a2 h0 n0 Zz b kb y0 y1 y2 O2 cs S_CS hcs) hZ (hw _ (List.mem_of_getElem? (i := 75) rfl)) (hw _ (List.mem_of_getElem? (i := 42) rfl)) (by decide) (by decide)) q7a q7c (g := (mkF m 26 #[.val (.ref a1), .val (.ref a2), .val (.int (0 : Int32)), .val (.int (1 : Int32)), .val (.int (1 : Int32))] [(.ref a2), (.int (1 : Int32))])) rfl (by rw [hml]; rfl) (Steps.refl _) (argsL := []) (rest := [(.int (1 : Int32))]) (lenOf pd_13_0 rfl) rfl (by show 2 * 0 + _ ≤ _; exact Nat.le_of_eq rfl) (hb hby d13_26) (fun _ _ => ⟨rfl, E6, (by decide : 0 + 0 ≤ _), (by decide : 0 + 0 ≤ _)⟩)
  dsimp only [Pt.U, Pt.locs, Pt.cells, Pt.slots] at X7 l7 y7 z7 st7 hQ7
  subst l7 y7 z7
  obtain ⟨rfl, N7q, E7⟩ := hQ7
  have N7 := Fr.app N6 N7q
  refine own_step (T' := T7) (f' := (mkF m 29 #[.val (.ref a1), .val (.ref a2), .val (.int (0 : Int32)), .val (.int (1 : Int32)), .val (.int (1 : Int32))] [(.int (3 : Int32)), (.int (1 : Int32))])) (fun t k => st7.trans k) ?_
  refine own_step (T' := T7) (f' := (mkF m 32 #[.val (.ref a1), .val (.ref a2), .val (.int (0 : Int32)), .val (.int (1 : Int32)), .val (.int (1 : Int32))] [])) (fun t k => XS.icmpNo X7.here hx rfl (hb hby d13_29) rfl (tlt (by decide : (1 : Int32) < (3 : Int32))).2.1 k) ?_
  refine own_step (T' := T7) (f' := (mkF m 33 #[.val (.ref a1), .val (.ref a2), .val (.int (0 : Int32)), .val (.int (1 : Int32)), .val (.int (1 : Int32))] [(.int (1 : Int32))])) (fun t k => XS.iloadN X7.here hx rfl (hb hby d13_32) rfl k) ?_
  refine own_step (T' := T7) (f' := (mkF m 36 #[.val (.ref a1), .val (.ref a2), .val (.int (0 : Int32)), .val (.int (1 : Int32)), .val (.int (1 : Int32))] [])) (fun t k => XS.ifNo X7.here hx rfl (hb hby d13_33) rfl ((if0 _ _).trans (feq (by decide : ¬ ((1 : Int32) = (0 : Int32)))).1) k) ?_
  refine own_step (T' := T7) (f' := (mkF m 37 #[.val (.ref a1), .val (.ref a2), .val (.int (0 : Int32)), .val (.int (1 : Int32)), .val (.int (1 : Int32))] [(.ref a1)])) (fun t k => XS.aloadN X7.here hx rfl (hb hby d13_36) rfl rfl k) ?_
  obtain ⟨T8, X8, e8, st8⟩ := getF X7 hx hZ hown (host := "") (Or.inl (hw _ (List.mem_of_getElem? (i := 18) rfl))) Via.refl E7 O.2.1 (g := (mkF m 37 #[.val (.ref a1), .val (.ref a2), .val (.int (0 : Int32)), .val (.int (1 : Int32)), .val (.int (1 : Int32))] [(.ref a1)])) rfl rfl (hb hby d13_37)
  refine own_step (T' := T8) (f' := (mkF m 40 #[.val (.ref a1), .val (.ref a2), .val (.int (0 : Int32)), .val (.int (1 : Int32)), .val (.int (1 : Int32))] [(.ref bv)])) (fun t k => st8 t k) ?_
  refine own_step (T' := T8) (f' := (mkF m 41 #[.val (.ref a1), .val (.ref a2), .val (.int (0 : Int32)), .val (.int (1 : Int32)), .val (.int (1 : Int32))] [(.int (0 : Int32)), (.ref bv)])) (fun t k => XS.iloadN X8.here hx rfl (hb hby d13_40) rfl k) ?_
  refine own_step (T' := T8) (f' := (mkF m 43 #[.val (.ref a1), .val (.ref a2), .val (.int (0 : Int32)), .val (.int (1 : Int32)), .val (.int (1 : Int32))] [(.int (1 : Int32)), (.int (0 : Int32)), (.ref bv)])) (fun t k => XS.iload X8.here hx rfl (hb hby d13_41) rfl k) ?_
  refine own_step (T' := T8) (f' := (mkF m 44 #[.val (.ref a1), .val (.ref a2), .val (.int (0 : Int32)), .val (.int (1 : Int32)), .val (.int (1 : Int32))] [(.int (1 : Int32)), (.ref bv)])) (fun t k => XS.iadd X8.here hx rfl (hb hby d13_43) rfl k) ?_
  obtain ⟨cl9, Ar9, q9, S9, M9, H9, G9⟩ := id V_bv
  have hin9 : ¬ ((1 : Int32) < 0 ∨ cl9.slots.size ≤ ((1 : Int32)).toNatClampNeg) := inb_of S9 ⟨by decide, by decide⟩
  have hat9 : cl9.slots[((1 : Int32)).toNatClampNeg]? = some (.int y1) := own_at hin9 H9 1 rfl rfl
  refine own_step (T' := T8) (f' := (mkF m 45 #[.val (.ref a1), .val (.ref a2), .val (.int (0 : Int32)), .val (.int (1 : Int32)), .val (.int (1 : Int32))] [(.int y1)])) (fun t k => X8.baloadBytes hx (j := (1 : Int32)) (v := (.int y1)) (by rw [e8]; exact Ar9.1) (State.isArrayOf_alike hZ.alike Ar9.2.1) Ar9.2.2 hin9 hat9 (g := (mkF m 44 #[.val (.ref a1), .val (.ref a2), .val (.int (0 : Int32)), .val (.int (1 : Int32)), .val (.int (1 : Int32))] [(.int (1 : Int32)), (.ref bv)])) rfl rfl (hb hby d13_44) _ k) ?_
  refine own_step (T' := T8) (f' := (mkF m 48 #[.val (.ref a1), .val (.ref a2), .val (.int (0 : Int32)), .val (.int (1 : Int32)), .val (.int (1 : Int32))] [(.int (255 : Int32)), (.int y1)])) (fun t k => XS.sipush X8.here hx rfl (hb hby d13_45) k) ?_
  refine own_step (T' := T8) (f' := (mkF m 49 #[.val (.ref a1), .val (.ref a2), .val (.int (0 : Int32)), .val (.int (1 : Int32)), .val (.int (1 : Int32))] [(.int (y1 &&& (255 : Int32)))])) (fun t k => XS.iand X8.here hx rfl (hb hby d13_48) rfl k) ?_
  refine own_step (T' := T8) (f' := (mkF m 50 #[.val (.ref a1), .val (.ref a2), .val (.int (0 : Int32)), .val (.int (1 : Int32)), .val (.int (1 : Int32))] [(.ref a2), (.int (y1 &&& (255 : Int32)))])) (fun t k => XS.aloadN X8.here hx rfl (hb hby d13_49) rfl rfl k) ?_
  refine own_step (T' := T8) (f' := (mkF m 52 #[.val (.ref a1), .val (.ref a2), .val (.int (0 : Int32)), .val (.int (1 : Int32)), .val (.int (1 : Int32))] [(.int (1 : Int32)), (.ref a2), (.int (y1 &&& (255 : Int32)))])) (fun t k => XS.iload X8.here hx rfl (hb hby d13_50) rfl k) ?_
  obtain ⟨cq10, kq10, q10a, q10b, q10c⟩ := isOf hZ e8 O2.1
  obtain ⟨_, _, ⟨T10, L10, k10, n10⟩, -, X10, ⟨Lc10, hQ10, l10, y10, z10⟩, st10⟩ := X8.virtualBack hx (y := (⟨"java/lang/String", "charAt", "(I)C"⟩ : MethodName)) (z := (⟨"java/lang/String", "charAt", "(I)C"⟩ : MethodName)) hown (mvT hZ (hw _ (List.mem_of_getElem? (i := 81) rfl))) (mvT hZ (hw _ (List.mem_of_getElem? (i := 82) rfl))) (notFace_of_selects (args := #[]) (mvT hZ (hw _ (List.mem_of_getElem? (i := 84) rfl)))) (mvT hZ (hw _ (List.mem_of_getElem? (i := 84) rfl))) (mvT hZ (hw _ (List.mem_of_getElem? (i := 83) rfl))) (by decide) (backOf (W := 1) (rm16_3_1 l Z a0 hw [] a2 h0 n0 Zz b kb y0 y1 y2 O2 cs S_CS hcs fm S_FM hfc hfr) hZ (hw _ (List.mem_of_getElem? (i := 85) rfl)) (hw _ (List.mem_of_getElem? (i := 42) rfl)) (by decide) (by decide)) q10a q10c (g := (mkF m 52 #[.val (.ref a1), .val (.ref a2), .val (.int (0 : Int32)), .val (.int (1 : Int32)), .val (.int (1 : Int32))] [(.int (1 : Int32)), (.ref a2), (.int (y1 &&& (255 : Int32)))])) rfl (by rw [hml]; rfl) (Steps.refl _) (argsL := [(.int (1 : Int32))]) (rest := [(.int (y1 &&& (255 : Int32)))]) (lenOf pd_13_1 rfl) rfl (by show 2 * 0 + _ ≤ _; exact Nat.le_of_eq rfl) (hb hby d13_52) (fun _ _ => ⟨rfl, e8, (by decide : 0 + 0 ≤ _), (by decide : 0 + 0 ≤ _)⟩)
  dsimp only [Pt.U, Pt.locs, Pt.cells, Pt.slots] at X10 l10 y10 z10 st10 hQ10
  subst l10 y10 z10
  obtain ⟨rfl, N10q, E10⟩ := hQ10
  have N10 := Fr.app N7 N10q
  refine own_step (T' := T10) (f' := (mkF m 55 #[.val (.ref a1), .val (.ref a2), .val (.int (0 : Int32)), .val (.int (1 : Int32)), .val (.int (1 : Int32))] [(.int (own_ch y1)), (.int (y1 &&& (255 : Int32)))])) (fun t k => st10.trans k) ?_
  refine own_step (T' := T10) (f' := (mkF m 58 #[.val (.ref a1), .val (.ref a2), .val (.int (0 : Int32)), .val (.int (1 : Int32)), .val (.int (1 : Int32))] [])) (fun t k => XS.icmpNo X10.here hx rfl (hb hby d13_55) rfl (teq (own_che _).symm).2 k) ?_
  refine own_step (T' := T10) (f' := (mkF m 59 #[.val (.ref a1), .val (.ref a2), .val (.int (0 : Int32)), .val (.int (1 : Int32)), .val (.int (1 : Int32))] [(.int (1 : Int32))])) (fun t k => XS.iconst X10.here hx rfl (hb hby d13_58) k) ?_
  refine own_step (T' := T10) (f' := (mkF m 63 #[.val (.ref a1), .val (.ref a2), .val (.int (0 : Int32)), .val (.int (1 : Int32)), .val (.int (1 : Int32))] [(.int (1 : Int32))])) (fun t k => XS.goto X10.here hx rfl (pc0 := 59) (pc' := 63) rfl (hb hby d13_59) (by decide) (by decide) k) ?_
  refine own_step (T' := T10) (f' := (mkF m 64 #[.val (.ref a1), .val (.ref a2), .val (.int (0 : Int32)), .val (.int (1 : Int32)), .val (.int (1 : Int32))] [])) (fun t k => XS.istoreN X10.here hx rfl (hb hby d13_63) rfl (l' := #[.val (.ref a1), .val (.ref a2), .val (.int (0 : Int32)), .val (.int (1 : Int32)), .val (.int (1 : Int32))]) rfl k) ?_
  refine own_step (T' := T10) (f' := (mkF m 67 #[.val (.ref a1), .val (.ref a2), .val (.int (0 : Int32)), .val (.int (1 : Int32)), .val (.int (2 : Int32))] [])) (fun t k => XS.iinc X10.here hx rfl (hb hby d13_64) rfl (l' := #[.val (.ref a1), .val (.ref a2), .val (.int (0 : Int32)), .val (.int (1 : Int32)), .val (.int (2 : Int32))]) rfl k) ?_
  refine own_step (T' := T10) (f' := (mkF m 23 #[.val (.ref a1), .val (.ref a2), .val (.int (0 : Int32)), .val (.int (1 : Int32)), .val (.int (2 : Int32))] [])) (fun t k => XS.goto X10.here hx rfl (pc0 := 67) (pc' := 23) rfl (hb hby d13_67) (by decide) (by decide) k) ?_
  refine own_step (T' := T10) (f' := (mkF m 25 #[.val (.ref a1), .val (.ref a2), .val (.int (0 : Int32)), .val (.int (1 : Int32)), .val (.int (2 : Int32))] [(.int (2 : Int32))])) (fun t k => XS.iload X10.here hx rfl (hb hby d13_23) rfl k) ?_
  refine own_step (T' := T10) (f' := (mkF m 26 #[.val (.ref a1), .val (.ref a2), .val (.int (0 : Int32)), .val (.int (1 : Int32)), .val (.int (2 : Int32))] [(.ref a2), (.int (2 : Int32))])) (fun t k => XS.aloadN X10.here hx rfl (hb hby d13_25) rfl rfl k) ?_
  obtain ⟨cq11, kq11, q11a, q11b, q11c⟩ := isOf hZ E10 O2.1
  obtain ⟨_, _, ⟨T11, L11, k11, n11⟩, -, X11, ⟨Lc11, hQ11, l11, y11, z11⟩, st11⟩ := X10.virtualBack hx (y := (⟨"java/lang/String", "length", "()I"⟩ : MethodName)) (z := (⟨"java/lang/String", "length", "()I"⟩ : MethodName)) hown (mvT hZ (hw _ (List.mem_of_getElem? (i := 71) rfl))) (mvT hZ (hw _ (List.mem_of_getElem? (i := 72) rfl))) (notFace_of_selects (args := #[]) (mvT hZ (hw _ (List.mem_of_getElem? (i := 74) rfl)))) (mvT hZ (hw _ (List.mem_of_getElem? (i := 74) rfl))) (mvT hZ (hw _ (List.mem_of_getElem? (i := 73) rfl))) (by decide) (backOf (W := 1) (rm14_3 l Z a0 hw [] a2 h0 n0 Zz b kb y0 y1 y2 O2 cs S_CS hcs) hZ (hw _ (List.mem_of_getElem? (i := 75) rfl)) (hw _ (List.mem_of_getElem? (i := 42) rfl)) (by decide) (by decide)) q11a q11c (g := (mkF m 26 #[.val (.ref a1), .val (.ref a2), .val (.int (0 : Int32)), .val (.int (1 : Int32)), .val (.int (2 : Int32))] [(.ref a2), (.int (2 : Int32))])) rfl (by rw [hml]; rfl) (Steps.refl _) (argsL := []) (rest := [(.int (2 : Int32))]) (lenOf pd_13_0 rfl) rfl (by show 2 * 0 + _ ≤ _; exact Nat.le_of_eq rfl) (hb hby d13_26) (fun _ _ => ⟨rfl, E10, (by decide : 0 + 0 ≤ _), (by decide : 0 + 0 ≤ _)⟩)
  dsimp only [Pt.U, Pt.locs, Pt.cells, Pt.slots] at X11 l11 y11 z11 st11 hQ11
  subst l11 y11 z11
  obtain ⟨rfl, N11q, E11⟩ := hQ11
  have N11 := Fr.app N10 N11q
  refine own_step (T' := T11) (f' := (mkF m 29 #[.val (.ref a1), .val (.ref a2), .val (.int (0 : Int32)), .val (.int (1 : Int32)), .val (.int (2 : Int32))] [(.int (3 : Int32)), (.int (2 : Int32))])) (fun t k => st11.trans k) ?_
  refine own_step (T' := T11) (f' := (mkF m 32 #[.val (.ref a1), .val (.ref a2), .val (.int (0 : Int32)), .val (.int (1 : Int32)), .val (.int (2 : Int32))] [])) (fun t k => XS.icmpNo X11.here hx rfl (hb hby d13_29) rfl (tlt (by decide : (2 : Int32) < (3 : Int32))).2.1 k) ?_
  refine own_step (T' := T11) (f' := (mkF m 33 #[.val (.ref a1), .val (.ref a2), .val (.int (0 : Int32)), .val (.int (1 : Int32)), .val (.int (2 : Int32))] [(.int (1 : Int32))])) (fun t k => XS.iloadN X11.here hx rfl (hb hby d13_32) rfl k) ?_
  refine own_step (T' := T11) (f' := (mkF m 36 #[.val (.ref a1), .val (.ref a2), .val (.int (0 : Int32)), .val (.int (1 : Int32)), .val (.int (2 : Int32))] [])) (fun t k => XS.ifNo X11.here hx rfl (hb hby d13_33) rfl ((if0 _ _).trans (feq (by decide : ¬ ((1 : Int32) = (0 : Int32)))).1) k) ?_
  refine own_step (T' := T11) (f' := (mkF m 37 #[.val (.ref a1), .val (.ref a2), .val (.int (0 : Int32)), .val (.int (1 : Int32)), .val (.int (2 : Int32))] [(.ref a1)])) (fun t k => XS.aloadN X11.here hx rfl (hb hby d13_36) rfl rfl k) ?_
  obtain ⟨T12, X12, e12, st12⟩ := getF X11 hx hZ hown (host := "") (Or.inl (hw _ (List.mem_of_getElem? (i := 18) rfl))) Via.refl E11 O.2.1 (g := (mkF m 37 #[.val (.ref a1), .val (.ref a2), .val (.int (0 : Int32)), .val (.int (1 : Int32)), .val (.int (2 : Int32))] [(.ref a1)])) rfl rfl (hb hby d13_37)
  refine own_step (T' := T12) (f' := (mkF m 40 #[.val (.ref a1), .val (.ref a2), .val (.int (0 : Int32)), .val (.int (1 : Int32)), .val (.int (2 : Int32))] [(.ref bv)])) (fun t k => st12 t k) ?_
  refine own_step (T' := T12) (f' := (mkF m 41 #[.val (.ref a1), .val (.ref a2), .val (.int (0 : Int32)), .val (.int (1 : Int32)), .val (.int (2 : Int32))] [(.int (0 : Int32)), (.ref bv)])) (fun t k => XS.iloadN X12.here hx rfl (hb hby d13_40) rfl k) ?_
  refine own_step (T' := T12) (f' := (mkF m 43 #[.val (.ref a1), .val (.ref a2), .val (.int (0 : Int32)), .val (.int (1 : Int32)), .val (.int (2 : Int32))] [(.int (2 : Int32)), (.int (0 : Int32)), (.ref bv)])) (fun t k => XS.iload X12.here hx rfl (hb hby d13_41) rfl k) ?_
  refine own_step (T' := T12) (f' := (mkF m 44 #[.val (.ref a1), .val (.ref a2), .val (.int (0 : Int32)), .val (.int (1 : Int32)), .val (.int (2 : Int32))] [(.int (2 : Int32)), (.ref bv)])) (fun t k => XS.iadd X12.here hx rfl (hb hby d13_43) rfl k) ?_
  obtain ⟨cl13, Ar13, q13, S13, M13, H13, G13⟩ := id V_bv
  have hin13 : ¬ ((2 : Int32) < 0 ∨ cl13.slots.size ≤ ((2 : Int32)).toNatClampNeg) := inb_of S13 ⟨by decide, by decide⟩
  have hat13 : cl13.slots[((2 : Int32)).toNatClampNeg]? = some (.int y2) := own_at hin13 H13 2 rfl rfl
  refine own_step (T' := T12) (f' := (mkF m 45 #[.val (.ref a1), .val (.ref a2), .val (.int (0 : Int32)), .val (.int (1 : Int32)), .val (.int (2 : Int32))] [(.int y2)])) (fun t k => X12.baloadBytes hx (j := (2 : Int32)) (v := (.int y2)) (by rw [e12]; exact Ar13.1) (State.isArrayOf_alike hZ.alike Ar13.2.1) Ar13.2.2 hin13 hat13 (g := (mkF m 44 #[.val (.ref a1), .val (.ref a2), .val (.int (0 : Int32)), .val (.int (1 : Int32)), .val (.int (2 : Int32))] [(.int (2 : Int32)), (.ref bv)])) rfl rfl (hb hby d13_44) _ k) ?_
  refine own_step (T' := T12) (f' := (mkF m 48 #[.val (.ref a1), .val (.ref a2), .val (.int (0 : Int32)), .val (.int (1 : Int32)), .val (.int (2 : Int32))] [(.int (255 : Int32)), (.int y2)])) (fun t k => XS.sipush X12.here hx rfl (hb hby d13_45) k) ?_
  refine own_step (T' := T12) (f' := (mkF m 49 #[.val (.ref a1), .val (.ref a2), .val (.int (0 : Int32)), .val (.int (1 : Int32)), .val (.int (2 : Int32))] [(.int (y2 &&& (255 : Int32)))])) (fun t k => XS.iand X12.here hx rfl (hb hby d13_48) rfl k) ?_
  refine own_step (T' := T12) (f' := (mkF m 50 #[.val (.ref a1), .val (.ref a2), .val (.int (0 : Int32)), .val (.int (1 : Int32)), .val (.int (2 : Int32))] [(.ref a2), (.int (y2 &&& (255 : Int32)))])) (fun t k => XS.aloadN X12.here hx rfl (hb hby d13_49) rfl rfl k) ?_
  refine own_step (T' := T12) (f' := (mkF m 52 #[.val (.ref a1), .val (.ref a2), .val (.int (0 : Int32)), .val (.int (1 : Int32)), .val (.int (2 : Int32))] [(.int (2 : Int32)), (.ref a2), (.int (y2 &&& (255 : Int32)))])) (fun t k => XS.iload X12.here hx rfl (hb hby d13_50) rfl k) ?_
  obtain ⟨cq14, kq14, q14a, q14b, q14c⟩ := isOf hZ e12 O2.1
  obtain ⟨_, _, ⟨T14, L14, k14, n14⟩, -, X14, ⟨Lc14, hQ14, l14, y14, z14⟩, st14⟩ := X12.virtualBack hx (y := (⟨"java/lang/String", "charAt", "(I)C"⟩ : MethodName)) (z := (⟨"java/lang/String", "charAt", "(I)C"⟩ : MethodName)) hown (mvT hZ (hw _ (List.mem_of_getElem? (i := 81) rfl))) (mvT hZ (hw _ (List.mem_of_getElem? (i := 82) rfl))) (notFace_of_selects (args := #[]) (mvT hZ (hw _ (List.mem_of_getElem? (i := 84) rfl)))) (mvT hZ (hw _ (List.mem_of_getElem? (i := 84) rfl))) (mvT hZ (hw _ (List.mem_of_getElem? (i := 83) rfl))) (by decide) (backOf (W := 1) (rm16_3_2 l Z a0 hw [] a2 h0 n0 Zz b kb y0 y1 y2 O2 cs S_CS hcs fm S_FM hfc hfr) hZ (hw _ (List.mem_of_getElem? (i := 85) rfl)) (hw _ (List.mem_of_getElem? (i := 42) rfl)) (by decide) (by decide)) q14a q14c (g := (mkF m 52 #[.val (.ref a1), .val (.ref a2), .val (.int (0 : Int32)), .val (.int (1 : Int32)), .val (.int (2 : Int32))] [(.int (2 : Int32)), (.ref a2), (.int (y2 &&& (255 : Int32)))])) rfl (by rw [hml]; rfl) (Steps.refl _) (argsL := [(.int (2 : Int32))]) (rest := [(.int (y2 &&& (255 : Int32)))]) (lenOf pd_13_1 rfl) rfl (by show 2 * 0 + _ ≤ _; exact Nat.le_of_eq rfl) (hb hby d13_52) (fun _ _ => ⟨rfl, e12, (by decide : 0 + 0 ≤ _), (by decide : 0 + 0 ≤ _)⟩)
  dsimp only [Pt.U, Pt.locs, Pt.cells, Pt.slots] at X14 l14 y14 z14 st14 hQ14
  subst l14 y14 z14
  obtain ⟨rfl, N14q, E14⟩ := hQ14
  have N14 := Fr.app N11 N14q
  refine own_step (T' := T14) (f' := (mkF m 55 #[.val (.ref a1), .val (.ref a2), .val (.int (0 : Int32)), .val (.int (1 : Int32)), .val (.int (2 : Int32))] [(.int (own_ch y2)), (.int (y2 &&& (255 : Int32)))])) (fun t k => st14.trans k) ?_
  refine own_step (T' := T14) (f' := (mkF m 58 #[.val (.ref a1), .val (.ref a2), .val (.int (0 : Int32)), .val (.int (1 : Int32)), .val (.int (2 : Int32))] [])) (fun t k => XS.icmpNo X14.here hx rfl (hb hby d13_55) rfl (teq (own_che _).symm).2 k) ?_
  refine own_step (T' := T14) (f' := (mkF m 59 #[.val (.ref a1), .val (.ref a2), .val (.int (0 : Int32)), .val (.int (1 : Int32)), .val (.int (2 : Int32))] [(.int (1 : Int32))])) (fun t k => XS.iconst X14.here hx rfl (hb hby d13_58) k) ?_
  refine own_step (T' := T14) (f' := (mkF m 63 #[.val (.ref a1), .val (.ref a2), .val (.int (0 : Int32)), .val (.int (1 : Int32)), .val (.int (2 : Int32))] [(.int (1 : Int32))])) (fun t k => XS.goto X14.here hx rfl (pc0 := 59) (pc' := 63) rfl (hb hby d13_59) (by decide) (by decide) k) ?_
  refine own_step (T' := T14) (f' := (mkF m 64 #[.val (.ref a1), .val (.ref a2), .val (.int (0 : Int32)), .val (.int (1 : Int32)), .val (.int (2 : Int32))] [])) (fun t k => XS.istoreN X14.here hx rfl (hb hby d13_63) rfl (l' := #[.val (.ref a1), .val (.ref a2), .val (.int (0 : Int32)), .val (.int (1 : Int32)), .val (.int (2 : Int32))]) rfl k) ?_
  refine own_step (T' := T14) (f' := (mkF m 67 #[.val (.ref a1), .val (.ref a2), .val (.int (0 : Int32)), .val (.int (1 : Int32)), .val (.int (3 : Int32))] [])) (fun t k => XS.iinc X14.here hx rfl (hb hby d13_64) rfl (l' := #[.val (.ref a1), .val (.ref a2), .val (.int (0 : Int32)), .val (.int (1 : Int32)), .val (.int (3 : Int32))]) rfl k) ?_
  refine own_step (T' := T14) (f' := (mkF m 23 #[.val (.ref a1), .val (.ref a2), .val (.int (0 : Int32)), .val (.int (1 : Int32)), .val (.int (3 : Int32))] [])) (fun t k => XS.goto X14.here hx rfl (pc0 := 67) (pc' := 23) rfl (hb hby d13_67) (by decide) (by decide) k) ?_
  refine own_step (T' := T14) (f' := (mkF m 25 #[.val (.ref a1), .val (.ref a2), .val (.int (0 : Int32)), .val (.int (1 : Int32)), .val (.int (3 : Int32))] [(.int (3 : Int32))])) (fun t k => XS.iload X14.here hx rfl (hb hby d13_23) rfl k) ?_
  refine own_step (T' := T14) (f' := (mkF m 26 #[.val (.ref a1), .val (.ref a2), .val (.int (0 : Int32)), .val (.int (1 : Int32)), .val (.int (3 : Int32))] [(.ref a2), (.int (3 : Int32))])) (fun t k => XS.aloadN X14.here hx rfl (hb hby d13_25) rfl rfl k) ?_
  obtain ⟨cq15, kq15, q15a, q15b, q15c⟩ := isOf hZ E14 O2.1
  obtain ⟨_, _, ⟨T15, L15, k15, n15⟩, -, X15, ⟨Lc15, hQ15, l15, y15, z15⟩, st15⟩ := X14.virtualBack hx (y := (⟨"java/lang/String", "length", "()I"⟩ : MethodName)) (z := (⟨"java/lang/String", "length", "()I"⟩ : MethodName)) hown (mvT hZ (hw _ (List.mem_of_getElem? (i := 71) rfl))) (mvT hZ (hw _ (List.mem_of_getElem? (i := 72) rfl))) (notFace_of_selects (args := #[]) (mvT hZ (hw _ (List.mem_of_getElem? (i := 74) rfl)))) (mvT hZ (hw _ (List.mem_of_getElem? (i := 74) rfl))) (mvT hZ (hw _ (List.mem_of_getElem? (i := 73) rfl))) (by decide) (backOf (W := 1) (rm14_3 l Z a0 hw [] a2 h0 n0 Zz b kb y0 y1 y2 O2 cs S_CS hcs) hZ (hw _ (List.mem_of_getElem? (i := 75) rfl)) (hw _ (List.mem_of_getElem? (i := 42) rfl)) (by decide) (by decide)) q15a q15c (g := (mkF m 26 #[.val (.ref a1), .val (.ref a2), .val (.int (0 : Int32)), .val (.int (1 : Int32)), .val (.int (3 : Int32))] [(.ref a2), (.int (3 : Int32))])) rfl (by rw [hml]; rfl) (Steps.refl _) (argsL := []) (rest := [(.int (3 : Int32))]) (lenOf pd_13_0 rfl) rfl (by show 2 * 0 + _ ≤ _; exact Nat.le_of_eq rfl) (hb hby d13_26) (fun _ _ => ⟨rfl, E14, (by decide : 0 + 0 ≤ _), (by decide : 0 + 0 ≤ _)⟩)
  dsimp only [Pt.U, Pt.locs, Pt.cells, Pt.slots] at X15 l15 y15 z15 st15 hQ15
  subst l15 y15 z15
  obtain ⟨rfl, N15q, E15⟩ := hQ15
  have N15 := Fr.app N14 N15q
  refine own_step (T' := T15) (f' := (mkF m 29 #[.val (.ref a1), .val (.ref a2), .val (.int (0 : Int32)), .val (.int (1 : Int32)), .val (.int (3 : Int32))] [(.int (3 : Int32)), (.int (3 : Int32))])) (fun t k => st15.trans k) ?_
  refine own_step (T' := T15) (f' := (mkF m 70 #[.val (.ref a1), .val (.ref a2), .val (.int (0 : Int32)), .val (.int (1 : Int32)), .val (.int (3 : Int32))] [])) (fun t k => XS.icmpYes X15.here hx rfl (pc0 := 29) (pc' := 70) rfl (hb hby d13_29) rfl (flt (by decide : ¬ ((3 : Int32) < (3 : Int32)))).2.1 (by decide) (by decide) k) ?_
  refine own_step (T' := T15) (f' := (mkF m 71 #[.val (.ref a1), .val (.ref a2), .val (.int (0 : Int32)), .val (.int (1 : Int32)), .val (.int (3 : Int32))] [(.int (1 : Int32))])) (fun t k => XS.iloadN X15.here hx rfl (hb hby d13_70) rfl k) ?_
  exact own_retN X15 hx hlk (t := .boolean) Bd.returns (by simp) (hb hby d13_71) (by decide) (by decide) ⟨rfl, N15, E15⟩

def Q9_3 (Z : State) (a1 : Addr) (c0 c1 c2 : Int32) (h0 : Heap) (n0 : Nat) (v : Option Value) (h : Heap) (L : List Loc) : Prop := v = none ∧ Fr n0 L ∧ Keep h0 h [a1] ∧ ∃ (b : Addr) (k : ClassId), OwnStr Z h a1 b k 3 [(.int (own_sb c0)), (.int (own_sb c1)), (.int (own_sb c2))]
def Q7_3 (Z : State) (c0 c1 c2 : Int32) (h0 : Heap) (n0 : Nat) (v : Option Value) (h : Heap) (L : List Loc) : Prop := ∃ (r b : Addr) (k : ClassId), v = some (.ref r) ∧ Fr n0 L ∧ Keep h0 h [] ∧ OwnStr Z h r b k 3 [(.int (own_sb c0)), (.int (own_sb c1)), (.int (own_sb c2))]
def Q11_3 (Z : State) (a3 : Addr) (kb : ClassId) (c0 c1 c2 : Int32) (h0 : Heap) (n0 : Nat) (v : Option Value) (h : Heap) (L : List Loc) : Prop := v = some (.int 3) ∧ Fr n0 L ∧ Keep h0 h [a3] ∧ Arv Z h a3 kb .byte (3 : Int32) [(.int (own_sb c0)), (.int (own_sb c1)), (.int (own_sb c2))] (.int (0 : Int32))
theorem ef_rm11_3 (m : MethodId) (x0 : Addr) (x1 : Int32) (x2 : Addr) (x3 : Int32) (x4 : Int32) : entryFrame m #[(.ref x0), (.int x1), (.ref x2), (.int x3), (.int x4)] 7 = mkF m 0 #[.val (.ref x0), .val (.int x1), .val (.ref x2), .val (.int x3), .val (.int x4), .unset, .unset] [] := by first | (simp [entryFrame, mkF, argsToLocals, Value.category]; done) | rfl
set_option maxRecDepth 65536 in
set_option maxHeartbeats 40000000 in
theorem rm11_3 (l : Launch) (Z : State) (a0 : Array Value) (hw : ∀ d ∈ tables_1, d.before a0 Z = true) (ws : List Jvm.Cond) (a1 : Addr) (a3 : Addr) (h0 : Heap) (n0 : Nat) (Z0 : n0 ≤ h0.size) (kc kb : ClassId) (c0 c1 c2 : Int32) (hC0 : OwnC c0) (hC1 : OwnC c1) (hC2 : OwnC c2) (V_a1 : Arv Z h0 a1 kc .char (3 : Int32) [(.int c0), (.int c1), (.int c2)] (.int (0 : Int32))) (V_a3 : Arv Z h0 a3 kb .byte (3 : Int32) [(.int (0 : Int32)), (.int (0 : Int32)), (.int (0 : Int32))] (.int (0 : Int32))) (ne13 : a1 ≠ a3) (g_a3 : n0 ≤ a3) :
    MetFree l (⟨"java/lang/StringUTF16", "compress", "([CI[BII)I"⟩ : MethodName) (head1 (Jvm.Cond.code (⟨"java/lang/StringUTF16", "compress", "([CI[BII)I"⟩ : MethodName) jdk_52_method_21_code 7 (some .int) :: ws) ({ frames := 0, cells := 0, slots := 0, locals := 0 } : Room)) (fun a U => a = #[(.ref a1), (.int (0 : Int32)), (.ref a3), (.int (0 : Int32)), (.int (3 : Int32))] ∧ Z.Warmed39 U.vm ∧ U.heap = h0) (fun _ _ _ _ _ => True) (fun _ U o U' => ∃ v L, o = .returned v ∧ Q11_3 Z a3 kb c0 c1 c2 h0 n0 v U'.heap L ∧ FrameEnd U o U' L ({ frames := 0, cells := 0, slots := 0, locals := 0 } : Room).cells ({ frames := 0, cells := 0, slots := 0, locals := 0 } : Room).slots) := by
  refine MetFree.of_bodySF (plainFor_of_name pn_11) hisR ?_
  intro p e s m args below meth c s₁ Bd hml0 hP hK
  obtain ⟨rfl, hZ, hh⟩ := hP
  have hx := Bd.exec
  have hby := Bd.bytes
  have hlk : meth.locks = false := BodyLoose.notSynchronized Bd
  have hml : c.maxLocals = 7 := hml0
  have hown : s.vm.findClass "java/lang/StringUTF16" = some m.cls := findClass_of_methodNamed Bd.named
  have hnm := (name_of_methodNamed Bd.named Bd.method).1
  have X0 : Stand p l e ({ frames := 0, cells := 0, slots := 0, locals := 0 } : Room) s m #[(.ref a1), (.int (0 : Int32)), (.ref a3), (.int (0 : Int32)), (.int (3 : Int32))] below meth c s₁ [] 0 0 := Stand.of_body Bd
  have e0 : s₁.heap = h0 := by rw [← hh, Bd.state]; rfl
  have N0 := Fr.nil n0
  have Zz := Z0
  have Kp : Keep h0 h0 [a3] := Keep.refl _ _
  show OwnEnds p e below s (Q11_3 Z a3 kb c0 c1 c2 h0 n0) ({ frames := 0, cells := 0, slots := 0, locals := 0 } : Room).cells ({ frames := 0, cells := 0, slots := 0, locals := 0 } : Room).slots s₁ (entryFrame m #[(.ref a1), (.int (0 : Int32)), (.ref a3), (.int (0 : Int32)), (.int (3 : Int32))] 7)
  refine own_step (T' := s₁) (f' := (mkF m 0 #[.val (.ref a1), .val (.int (0 : Int32)), .val (.ref a3), .val (.int (0 : Int32)), .val (.int (3 : Int32)), .unset, .unset] [])) (fun t k => castTop (ef_rm11_3 m a1 (0 : Int32) a3 (0 : Int32) (3 : Int32)) k) ?_
  refine own_step (T' := s₁) (f' := (mkF m 1 #[.val (.ref a1), .val (.int (0 : Int32)), .val (.ref a3), .val (.int (0 : Int32)), .val (.int (3 : Int32)), .unset, .unset] [(.int (0 : Int32))])) (fun t k => XS.iconst X0.here hx rfl (hb hby d11_0) k) ?_
  refine own_step (T' := s₁) (f' := (mkF m 3 #[.val (.ref a1), .val (.int (0 : Int32)), .val (.ref a3), .val (.int (0 : Int32)), .val (.int (3 : Int32)), .val (.int (0 : Int32)), .unset] [])) (fun t k => XS.istore X0.here hx rfl (hb hby d11_1) rfl (l' := #[.val (.ref a1), .val (.int (0 : Int32)), .val (.ref a3), .val (.int (0 : Int32)), .val (.int (3 : Int32)), .val (.int (0 : Int32)), .unset]) rfl k) ?_
  refine own_step (T' := s₁) (f' := (mkF m 5 #[.val (.ref a1), .val (.int (0 : Int32)), .val (.ref a3), .val (.int (0 : Int32)), .val (.int (3 : Int32)), .val (.int (0 : Int32)), .unset] [(.int (0 : Int32))])) (fun t k => XS.iload X0.here hx rfl (hb hby d11_3) rfl k) ?_
  refine own_step (T' := s₁) (f' := (mkF m 7 #[.val (.ref a1), .val (.int (0 : Int32)), .val (.ref a3), .val (.int (0 : Int32)), .val (.int (3 : Int32)), .val (.int (0 : Int32)), .unset] [(.int (3 : Int32)), (.int (0 : Int32))])) (fun t k => XS.iload X0.here hx rfl (hb hby d11_5) rfl k) ?_
  refine own_step (T' := s₁) (f' := (mkF m 10 #[.val (.ref a1), .val (.int (0 : Int32)), .val (.ref a3), .val (.int (0 : Int32)), .val (.int (3 : Int32)), .val (.int (0 : Int32)), .unset] [])) (fun t k => XS.icmpNo X0.here hx rfl (hb hby d11_7) rfl (tlt (by decide : (0 : Int32) < (3 : Int32))).2.1 k) ?_
  refine own_step (T' := s₁) (f' := (mkF m 11 #[.val (.ref a1), .val (.int (0 : Int32)), .val (.ref a3), .val (.int (0 : Int32)), .val (.int (3 : Int32)), .val (.int (0 : Int32)), .unset] [(.ref a1)])) (fun t k => XS.aloadN X0.here hx rfl (hb hby d11_10) rfl rfl k) ?_
  refine own_step (T' := s₁) (f' := (mkF m 12 #[.val (.ref a1), .val (.int (0 : Int32)), .val (.ref a3), .val (.int (0 : Int32)), .val (.int (3 : Int32)), .val (.int (0 : Int32)), .unset] [(.int (0 : Int32)), (.ref a1)])) (fun t k => XS.iloadN X0.here hx rfl (hb hby d11_11) rfl k) ?_
  obtain ⟨cl1, Ar1, q1, S1, M1, H1, G1⟩ := id V_a1
  have hin1 : ¬ ((0 : Int32) < 0 ∨ cl1.slots.size ≤ ((0 : Int32)).toNatClampNeg) := inb_of S1 ⟨by decide, by decide⟩
  have hat1 : cl1.slots[((0 : Int32)).toNatClampNeg]? = some (.int c0) := own_at hin1 H1 0 rfl rfl
  refine own_step (T' := s₁) (f' := (mkF m 13 #[.val (.ref a1), .val (.int (0 : Int32)), .val (.ref a3), .val (.int (0 : Int32)), .val (.int (3 : Int32)), .val (.int (0 : Int32)), .unset] [(.int c0)])) (fun t k => X0.caload hx (j := (0 : Int32)) (v := (.int c0)) (by rw [e0]; exact Ar1.1) (State.isArrayOf_alike hZ.alike Ar1.2.1) Ar1.2.2 hin1 hat1 (g := (mkF m 12 #[.val (.ref a1), .val (.int (0 : Int32)), .val (.ref a3), .val (.int (0 : Int32)), .val (.int (3 : Int32)), .val (.int (0 : Int32)), .unset] [(.int (0 : Int32)), (.ref a1)])) rfl rfl (hb hby d11_12) _ k) ?_
  refine own_step (T' := s₁) (f' := (mkF m 15 #[.val (.ref a1), .val (.int (0 : Int32)), .val (.ref a3), .val (.int (0 : Int32)), .val (.int (3 : Int32)), .val (.int (0 : Int32)), .val (.int c0)] [])) (fun t k => XS.istore X0.here hx rfl (hb hby d11_13) rfl (l' := #[.val (.ref a1), .val (.int (0 : Int32)), .val (.ref a3), .val (.int (0 : Int32)), .val (.int (3 : Int32)), .val (.int (0 : Int32)), .val (.int c0)]) rfl k) ?_
  refine own_step (T' := s₁) (f' := (mkF m 17 #[.val (.ref a1), .val (.int (0 : Int32)), .val (.ref a3), .val (.int (0 : Int32)), .val (.int (3 : Int32)), .val (.int (0 : Int32)), .val (.int c0)] [(.int c0)])) (fun t k => XS.iload X0.here hx rfl (hb hby d11_15) rfl k) ?_
  refine own_step (T' := s₁) (f' := (mkF m 20 #[.val (.ref a1), .val (.int (0 : Int32)), .val (.ref a3), .val (.int (0 : Int32)), .val (.int (3 : Int32)), .val (.int (0 : Int32)), .val (.int c0)] [(.int (255 : Int32)), (.int c0)])) (fun t k => XS.sipush X0.here hx rfl (hb hby d11_17) k) ?_
  refine own_step (T' := s₁) (f' := (mkF m 26 #[.val (.ref a1), .val (.int (0 : Int32)), .val (.ref a3), .val (.int (0 : Int32)), .val (.int (3 : Int32)), .val (.int (0 : Int32)), .val (.int c0)] [])) (fun t k => XS.icmpYes X0.here hx rfl (pc0 := 20) (pc' := 26) rfl (hb hby d11_20) rfl (flt (own_c255 hC0)).2.2.2 (by decide) (by decide) k) ?_
  refine own_step (T' := s₁) (f' := (mkF m 27 #[.val (.ref a1), .val (.int (0 : Int32)), .val (.ref a3), .val (.int (0 : Int32)), .val (.int (3 : Int32)), .val (.int (0 : Int32)), .val (.int c0)] [(.ref a3)])) (fun t k => XS.aloadN X0.here hx rfl (hb hby d11_26) rfl rfl k) ?_
  refine own_step (T' := s₁) (f' := (mkF m 28 #[.val (.ref a1), .val (.int (0 : Int32)), .val (.ref a3), .val (.int (0 : Int32)), .val (.int (3 : Int32)), .val (.int (0 : Int32)), .val (.int c0)] [(.int (0 : Int32)), (.ref a3)])) (fun t k => XS.iloadN X0.here hx rfl (hb hby d11_27) rfl k) ?_
  refine own_step (T' := s₁) (f' := (mkF m 30 #[.val (.ref a1), .val (.int (0 : Int32)), .val (.ref a3), .val (.int (0 : Int32)), .val (.int (3 : Int32)), .val (.int (0 : Int32)), .val (.int c0)] [(.int c0), (.int (0 : Int32)), (.ref a3)])) (fun t k => XS.iload X0.here hx rfl (hb hby d11_28) rfl k) ?_
  refine own_step (T' := s₁) (f' := (mkF m 31 #[.val (.ref a1), .val (.int (0 : Int32)), .val (.ref a3), .val (.int (0 : Int32)), .val (.int (3 : Int32)), .val (.int (0 : Int32)), .val (.int c0)] [(.int (c0.toInt8.toInt32)), (.int (0 : Int32)), (.ref a3)])) (fun t k => XS.i2b X0.here hx rfl (hb hby d11_30) rfl k) ?_
  obtain ⟨cl2, Ar2, q2, S2, M2, H2, G2⟩ := V_a3
  have hin2 : ¬ ((0 : Int32) < 0 ∨ cl2.slots.size ≤ ((0 : Int32)).toNatClampNeg) := inb_of S2 ⟨by decide, by decide⟩
  obtain ⟨T2, h2, X2, e2, W2, st2⟩ := stB X0 hx hZ e0 Ar2 (j := (0 : Int32)) hin2 (g := (mkF m 31 #[.val (.ref a1), .val (.int (0 : Int32)), .val (.ref a3), .val (.int (0 : Int32)), .val (.int (3 : Int32)), .val (.int (0 : Int32)), .val (.int c0)] [(.int (c0.toInt8.toInt32)), (.int (0 : Int32)), (.ref a3)])) rfl rfl (hb hby d11_31)
  have V_a3 : Arv Z h2 a3 kb .byte (3 : Int32) [(.int (own_sb c0)), (.int (0 : Int32)), (.int (0 : Int32))] (.int (0 : Int32)) := Arv.set Ar2 q2 S2 M2 H2 G2 (fits_nar_byte _) W2 0 rfl (Nat.le_of_ble_eq_true rfl)
  replace V_a1 := V_a1.other W2 ne13
  replace Zz := Nat.le_trans Zz (Keep.of_wr W2).1
  replace Kp := Kp.wr W2 (Or.inl (List.mem_of_getElem? (i := 0) rfl))
  have N2 := Fr.snoc X2 N0 g_a3
  refine own_step (T' := T2) (f' := (mkF m 32 #[.val (.ref a1), .val (.int (0 : Int32)), .val (.ref a3), .val (.int (0 : Int32)), .val (.int (3 : Int32)), .val (.int (0 : Int32)), .val (.int c0)] [])) (fun t k => st2 t k) ?_
  refine own_step (T' := T2) (f' := (mkF m 35 #[.val (.ref a1), .val (.int (1 : Int32)), .val (.ref a3), .val (.int (0 : Int32)), .val (.int (3 : Int32)), .val (.int (0 : Int32)), .val (.int c0)] [])) (fun t k => XS.iinc X2.here hx rfl (hb hby d11_32) rfl (l' := #[.val (.ref a1), .val (.int (1 : Int32)), .val (.ref a3), .val (.int (0 : Int32)), .val (.int (3 : Int32)), .val (.int (0 : Int32)), .val (.int c0)]) rfl k) ?_
  refine own_step (T' := T2) (f' := (mkF m 38 #[.val (.ref a1), .val (.int (1 : Int32)), .val (.ref a3), .val (.int (1 : Int32)), .val (.int (3 : Int32)), .val (.int (0 : Int32)), .val (.int c0)] [])) (fun t k => XS.iinc X2.here hx rfl (hb hby d11_35) rfl (l' := #[.val (.ref a1), .val (.int (1 : Int32)), .val (.ref a3), .val (.int (1 : Int32)), .val (.int (3 : Int32)), .val (.int (0 : Int32)), .val (.int c0)]) rfl k) ?_
  refine own_step (T' := T2) (f' := (mkF m 41 #[.val (.ref a1), .val (.int (1 : Int32)), .val (.ref a3), .val (.int (1 : Int32)), .val (.int (3 : Int32)), .val (.int (1 : Int32)), .val (.int c0)] [])) (fun t k => XS.iinc X2.here hx rfl (hb hby d11_38) rfl (l' := #[.val (.ref a1), .val (.int (1 : Int32)), .val (.ref a3), .val (.int (1 : Int32)), .val (.int (3 : Int32)), .val (.int (1 : Int32)), .val (.int c0)]) rfl k) ?_
  refine own_step (T' := T2) (f' := (mkF m 3 #[.val (.ref a1), .val (.int (1 : Int32)), .val (.ref a3), .val (.int (1 : Int32)), .val (.int (3 : Int32)), .val (.int (1 : Int32)), .val (.int c0)] [])) (fun t k => XS.goto X2.here hx rfl (pc0 := 41) (pc' := 3) rfl (hb hby d11_41) (by decide) (by decide) k) ?_
  refine own_step (T' := T2) (f' := (mkF m 5 #[.val (.ref a1), .val (.int (1 : Int32)), .val (.ref a3), .val (.int (1 : Int32)), .val (.int (3 : Int32)), .val (.int (1 : Int32)), .val (.int c0)] [(.int (1 : Int32))])) (fun t k => XS.iload X2.here hx rfl (hb hby d11_3) rfl k) ?_
  refine own_step (T' := T2) (f' := (mkF m 7 #[.val (.ref a1), .val (.int (1 : Int32)), .val (.ref a3), .val (.int (1 : Int32)), .val (.int (3 : Int32)), .val (.int (1 : Int32)), .val (.int c0)] [(.int (3 : Int32)), (.int (1 : Int32))])) (fun t k => XS.iload X2.here hx rfl (hb hby d11_5) rfl k) ?_
  refine own_step (T' := T2) (f' := (mkF m 10 #[.val (.ref a1), .val (.int (1 : Int32)), .val (.ref a3), .val (.int (1 : Int32)), .val (.int (3 : Int32)), .val (.int (1 : Int32)), .val (.int c0)] [])) (fun t k => XS.icmpNo X2.here hx rfl (hb hby d11_7) rfl (tlt (by decide : (1 : Int32) < (3 : Int32))).2.1 k) ?_
  refine own_step (T' := T2) (f' := (mkF m 11 #[.val (.ref a1), .val (.int (1 : Int32)), .val (.ref a3), .val (.int (1 : Int32)), .val (.int (3 : Int32)), .val (.int (1 : Int32)), .val (.int c0)] [(.ref a1)])) (fun t k => XS.aloadN X2.here hx rfl (hb hby d11_10) rfl rfl k) ?_
  refine own_step (T' := T2) (f' := (mkF m 12 #[.val (.ref a1), .val (.int (1 : Int32)), .val (.ref a3), .val (.int (1 : Int32)), .val (.int (3 : Int32)), .val (.int (1 : Int32)), .val (.int c0)] [(.int (1 : Int32)), (.ref a1)])) (fun t k => XS.iloadN X2.here hx rfl (hb hby d11_11) rfl k) ?_
  obtain ⟨cl3, Ar3, q3, S3, M3, H3, G3⟩ := id V_a1
  have hin3 : ¬ ((1 : Int32) < 0 ∨ cl3.slots.size ≤ ((1 : Int32)).toNatClampNeg) := inb_of S3 ⟨by decide, by decide⟩
  have hat3 : cl3.slots[((1 : Int32)).toNatClampNeg]? = some (.int c1) := own_at hin3 H3 1 rfl rfl
  refine own_step (T' := T2) (f' := (mkF m 13 #[.val (.ref a1), .val (.int (1 : Int32)), .val (.ref a3), .val (.int (1 : Int32)), .val (.int (3 : Int32)), .val (.int (1 : Int32)), .val (.int c0)] [(.int c1)])) (fun t k => X2.caload hx (j := (1 : Int32)) (v := (.int c1)) (by rw [e2]; exact Ar3.1) (State.isArrayOf_alike hZ.alike Ar3.2.1) Ar3.2.2 hin3 hat3 (g := (mkF m 12 #[.val (.ref a1), .val (.int (1 : Int32)), .val (.ref a3), .val (.int (1 : Int32)), .val (.int (3 : Int32)), .val (.int (1 : Int32)), .val (.int c0)] [(.int (1 : Int32)), (.ref a1)])) rfl rfl (hb hby d11_12) _ k) ?_
  refine own_step (T' := T2) (f' := (mkF m 15 #[.val (.ref a1), .val (.int (1 : Int32)), .val (.ref a3), .val (.int (1 : Int32)), .val (.int (3 : Int32)), .val (.int (1 : Int32)), .val (.int c1)] [])) (fun t k => XS.istore X2.here hx rfl (hb hby d11_13) rfl (l' := #[.val (.ref a1), .val (.int (1 : Int32)), .val (.ref a3), .val (.int (1 : Int32)), .val (.int (3 : Int32)), .val (.int (1 : Int32)), .val (.int c1)]) rfl k) ?_
  refine own_step (T' := T2) (f' := (mkF m 17 #[.val (.ref a1), .val (.int (1 : Int32)), .val (.ref a3), .val (.int (1 : Int32)), .val (.int (3 : Int32)), .val (.int (1 : Int32)), .val (.int c1)] [(.int c1)])) (fun t k => XS.iload X2.here hx rfl (hb hby d11_15) rfl k) ?_
  refine own_step (T' := T2) (f' := (mkF m 20 #[.val (.ref a1), .val (.int (1 : Int32)), .val (.ref a3), .val (.int (1 : Int32)), .val (.int (3 : Int32)), .val (.int (1 : Int32)), .val (.int c1)] [(.int (255 : Int32)), (.int c1)])) (fun t k => XS.sipush X2.here hx rfl (hb hby d11_17) k) ?_
  refine own_step (T' := T2) (f' := (mkF m 26 #[.val (.ref a1), .val (.int (1 : Int32)), .val (.ref a3), .val (.int (1 : Int32)), .val (.int (3 : Int32)), .val (.int (1 : Int32)), .val (.int c1)] [])) (fun t k => XS.icmpYes X2.here hx rfl (pc0 := 20) (pc' := 26) rfl (hb hby d11_20) rfl (flt (own_c255 hC1)).2.2.2 (by decide) (by decide) k) ?_
  refine own_step (T' := T2) (f' := (mkF m 27 #[.val (.ref a1), .val (.int (1 : Int32)), .val (.ref a3), .val (.int (1 : Int32)), .val (.int (3 : Int32)), .val (.int (1 : Int32)), .val (.int c1)] [(.ref a3)])) (fun t k => XS.aloadN X2.here hx rfl (hb hby d11_26) rfl rfl k) ?_
  refine own_step (T' := T2) (f' := (mkF m 28 #[.val (.ref a1), .val (.int (1 : Int32)), .val (.ref a3), .val (.int (1 : Int32)), .val (.int (3 : Int32)), .val (.int (1 : Int32)), .val (.int c1)] [(.int (1 : Int32)), (.ref a3)])) (fun t k => XS.iloadN X2.here hx rfl (hb hby d11_27) rfl k) ?_
  refine own_step (T' := T2) (f' := (mkF m 30 #[.val (.ref a1), .val (.int (1 : Int32)), .val (.ref a3), .val (.int (1 : Int32)), .val (.int (3 : Int32)), .val (.int (1 : Int32)), .val (.int c1)] [(.int c1), (.int (1 : Int32)), (.ref a3)])) (fun t k => XS.iload X2.here hx rfl (hb hby d11_28) rfl k) ?_
  refine own_step (T' := T2) (f' := (mkF m 31 #[.val (.ref a1), .val (.int (1 : Int32)), .val (.ref a3), .val (.int (1 : Int32)), .val (.int (3 : Int32)), .val (.int (1 : Int32)), .val (.int c1)] [(.int (c1.toInt8.toInt32)), (.int (1 : Int32)), (.ref a3)])) (fun t k => XS.i2b X2.here hx rfl (hb hby d11_30) rfl k) ?_
  obtain ⟨cl4, Ar4, q4, S4, M4, H4, G4⟩ := V_a3
  have hin4 : ¬ ((1 : Int32) < 0 ∨ cl4.slots.size ≤ ((1 : Int32)).toNatClampNeg) := inb_of S4 ⟨by decide, by decide⟩
  obtain ⟨T4, h4, X4, e4, W4, st4⟩ := stB X2 hx hZ e2 Ar4 (j := (1 : Int32)) hin4 (g := (mkF m 31 #[.val (.ref a1), .val (.int (1 : Int32)), .val (.ref a3), .val (.int (1 : Int32)), .val (.int (3 : Int32)), .val (.int (1 : Int32)), .val (.int c1)] [(.int (c1.toInt8.toInt32)), (.int (1 : Int32)), (.ref a3)])) rfl rfl (hb hby d11_31)
  have V_a3 : Arv Z h4 a3 kb .byte (3 : Int32) [(.int (own_sb c0)), (.int (own_sb c1)), (.int (0 : Int32))] (.int (0 : Int32)) := Arv.set Ar4 q4 S4 M4 H4 G4 (fits_nar_byte _) W4 1 rfl (Nat.le_of_ble_eq_true rfl)
  replace V_a1 := V_a1.other W4 ne13
  replace Zz := Nat.le_trans Zz (Keep.of_wr W4).1
  replace Kp := Kp.wr W4 (Or.inl (List.mem_of_getElem? (i := 0) rfl))
  have N4 := Fr.snoc X4 N2 g_a3
  refine own_step (T' := T4) (f' := (mkF m 32 #[.val (.ref a1), .val (.int (1 : Int32)), .val (.ref a3), .val (.int (1 : Int32)), .val (.int (3 : Int32)), .val (.int (1 : Int32)), .val (.int c1)] [])) (fun t k => st4 t k) ?_
  refine own_step (T' := T4) (f' := (mkF m 35 #[.val (.ref a1), .val (.int (2 : Int32)), .val (.ref a3), .val (.int (1 : Int32)), .val (.int (3 : Int32)), .val (.int (1 : Int32)), .val (.int c1)] [])) (fun t k => XS.iinc X4.here hx rfl (hb hby d11_32) rfl (l' := #[.val (.ref a1), .val (.int (2 : Int32)), .val (.ref a3), .val (.int (1 : Int32)), .val (.int (3 : Int32)), .val (.int (1 : Int32)), .val (.int c1)]) rfl k) ?_
  refine own_step (T' := T4) (f' := (mkF m 38 #[.val (.ref a1), .val (.int (2 : Int32)), .val (.ref a3), .val (.int (2 : Int32)), .val (.int (3 : Int32)), .val (.int (1 : Int32)), .val (.int c1)] [])) (fun t k => XS.iinc X4.here hx rfl (hb hby d11_35) rfl (l' := #[.val (.ref a1), .val (.int (2 : Int32)), .val (.ref a3), .val (.int (2 : Int32)), .val (.int (3 : Int32)), .val (.int (1 : Int32)), .val (.int c1)]) rfl k) ?_
  refine own_step (T' := T4) (f' := (mkF m 41 #[.val (.ref a1), .val (.int (2 : Int32)), .val (.ref a3), .val (.int (2 : Int32)), .val (.int (3 : Int32)), .val (.int (2 : Int32)), .val (.int c1)] [])) (fun t k => XS.iinc X4.here hx rfl (hb hby d11_38) rfl (l' := #[.val (.ref a1), .val (.int (2 : Int32)), .val (.ref a3), .val (.int (2 : Int32)), .val (.int (3 : Int32)), .val (.int (2 : Int32)), .val (.int c1)]) rfl k) ?_
  refine own_step (T' := T4) (f' := (mkF m 3 #[.val (.ref a1), .val (.int (2 : Int32)), .val (.ref a3), .val (.int (2 : Int32)), .val (.int (3 : Int32)), .val (.int (2 : Int32)), .val (.int c1)] [])) (fun t k => XS.goto X4.here hx rfl (pc0 := 41) (pc' := 3) rfl (hb hby d11_41) (by decide) (by decide) k) ?_
  refine own_step (T' := T4) (f' := (mkF m 5 #[.val (.ref a1), .val (.int (2 : Int32)), .val (.ref a3), .val (.int (2 : Int32)), .val (.int (3 : Int32)), .val (.int (2 : Int32)), .val (.int c1)] [(.int (2 : Int32))])) (fun t k => XS.iload X4.here hx rfl (hb hby d11_3) rfl k) ?_
  refine own_step (T' := T4) (f' := (mkF m 7 #[.val (.ref a1), .val (.int (2 : Int32)), .val (.ref a3), .val (.int (2 : Int32)), .val (.int (3 : Int32)), .val (.int (2 : Int32)), .val (.int c1)] [(.int (3 : Int32)), (.int (2 : Int32))])) (fun t k => XS.iload X4.here hx rfl (hb hby d11_5) rfl k) ?_
  refine own_step (T' := T4) (f' := (mkF m 10 #[.val (.ref a1), .val (.int (2 : Int32)), .val (.ref a3), .val (.int (2 : Int32)), .val (.int (3 : Int32)), .val (.int (2 : Int32)), .val (.int c1)] [])) (fun t k => XS.icmpNo X4.here hx rfl (hb hby d11_7) rfl (tlt (by decide : (2 : Int32) < (3 : Int32))).2.1 k) ?_
  refine own_step (T' := T4) (f' := (mkF m 11 #[.val (.ref a1), .val (.int (2 : Int32)), .val (.ref a3), .val (.int (2 : Int32)), .val (.int (3 : Int32)), .val (.int (2 : Int32)), .val (.int c1)] [(.ref a1)])) (fun t k => XS.aloadN X4.here hx rfl (hb hby d11_10) rfl rfl k) ?_
  refine own_step (T' := T4) (f' := (mkF m 12 #[.val (.ref a1), .val (.int (2 : Int32)), .val (.ref a3), .val (.int (2 : Int32)), .val (.int (3 : Int32)), .val (.int (2 : Int32)), .val (.int c1)] [(.int (2 : Int32)), (.ref a1)])) (fun t k => XS.iloadN X4.here hx rfl (hb hby d11_11) rfl k) ?_
  obtain ⟨cl5, Ar5, q5, S5, M5, H5, G5⟩ := id V_a1
  have hin5 : ¬ ((2 : Int32) < 0 ∨ cl5.slots.size ≤ ((2 : Int32)).toNatClampNeg) := inb_of S5 ⟨by decide, by decide⟩
  have hat5 : cl5.slots[((2 : Int32)).toNatClampNeg]? = some (.int c2) := own_at hin5 H5 2 rfl rfl
  refine own_step (T' := T4) (f' := (mkF m 13 #[.val (.ref a1), .val (.int (2 : Int32)), .val (.ref a3), .val (.int (2 : Int32)), .val (.int (3 : Int32)), .val (.int (2 : Int32)), .val (.int c1)] [(.int c2)])) (fun t k => X4.caload hx (j := (2 : Int32)) (v := (.int c2)) (by rw [e4]; exact Ar5.1) (State.isArrayOf_alike hZ.alike Ar5.2.1) Ar5.2.2 hin5 hat5 (g := (mkF m 12 #[.val (.ref a1), .val (.int (2 : Int32)), .val (.ref a3), .val (.int (2 : Int32)), .val (.int (3 : Int32)), .val (.int (2 : Int32)), .val (.int c1)] [(.int (2 : Int32)), (.ref a1)])) rfl rfl (hb hby d11_12) _ k) ?_
  refine own_step (T' := T4) (f' := (mkF m 15 #[.val (.ref a1), .val (.int (2 : Int32)), .val (.ref a3), .val (.int (2 : Int32)), .val (.int (3 : Int32)), .val (.int (2 : Int32)), .val (.int c2)] [])) (fun t k => XS.istore X4.here hx rfl (hb hby d11_13) rfl (l' := #[.val (.ref a1), .val (.int (2 : Int32)), .val (.ref a3), .val (.int (2 : Int32)), .val (.int (3 : Int32)), .val (.int (2 : Int32)), .val (.int c2)]) rfl k) ?_
  refine own_step (T' := T4) (f' := (mkF m 17 #[.val (.ref a1), .val (.int (2 : Int32)), .val (.ref a3), .val (.int (2 : Int32)), .val (.int (3 : Int32)), .val (.int (2 : Int32)), .val (.int c2)] [(.int c2)])) (fun t k => XS.iload X4.here hx rfl (hb hby d11_15) rfl k) ?_
  refine own_step (T' := T4) (f' := (mkF m 20 #[.val (.ref a1), .val (.int (2 : Int32)), .val (.ref a3), .val (.int (2 : Int32)), .val (.int (3 : Int32)), .val (.int (2 : Int32)), .val (.int c2)] [(.int (255 : Int32)), (.int c2)])) (fun t k => XS.sipush X4.here hx rfl (hb hby d11_17) k) ?_
  refine own_step (T' := T4) (f' := (mkF m 26 #[.val (.ref a1), .val (.int (2 : Int32)), .val (.ref a3), .val (.int (2 : Int32)), .val (.int (3 : Int32)), .val (.int (2 : Int32)), .val (.int c2)] [])) (fun t k => XS.icmpYes X4.here hx rfl (pc0 := 20) (pc' := 26) rfl (hb hby d11_20) rfl (flt (own_c255 hC2)).2.2.2 (by decide) (by decide) k) ?_
  refine own_step (T' := T4) (f' := (mkF m 27 #[.val (.ref a1), .val (.int (2 : Int32)), .val (.ref a3), .val (.int (2 : Int32)), .val (.int (3 : Int32)), .val (.int (2 : Int32)), .val (.int c2)] [(.ref a3)])) (fun t k => XS.aloadN X4.here hx rfl (hb hby d11_26) rfl rfl k) ?_
  refine own_step (T' := T4) (f' := (mkF m 28 #[.val (.ref a1), .val (.int (2 : Int32)), .val (.ref a3), .val (.int (2 : Int32)), .val (.int (3 : Int32)), .val (.int (2 : Int32)), .val (.int c2)] [(.int (2 : Int32)), (.ref a3)])) (fun t k => XS.iloadN X4.here hx rfl (hb hby d11_27) rfl k) ?_
  refine own_step (T' := T4) (f' := (mkF m 30 #[.val (.ref a1), .val (.int (2 : Int32)), .val (.ref a3), .val (.int (2 : Int32)), .val (.int (3 : Int32)), .val (.int (2 : Int32)), .val (.int c2)] [(.int c2), (.int (2 : Int32)), (.ref a3)])) (fun t k => XS.iload X4.here hx rfl (hb hby d11_28) rfl k) ?_
  refine own_step (T' := T4) (f' := (mkF m 31 #[.val (.ref a1), .val (.int (2 : Int32)), .val (.ref a3), .val (.int (2 : Int32)), .val (.int (3 : Int32)), .val (.int (2 : Int32)), .val (.int c2)] [(.int (c2.toInt8.toInt32)), (.int (2 : Int32)), (.ref a3)])) (fun t k => XS.i2b X4.here hx rfl (hb hby d11_30) rfl k) ?_
  obtain ⟨cl6, Ar6, q6, S6, M6, H6, G6⟩ := V_a3
  have hin6 : ¬ ((2 : Int32) < 0 ∨ cl6.slots.size ≤ ((2 : Int32)).toNatClampNeg) := inb_of S6 ⟨by decide, by decide⟩
  obtain ⟨T6, h6, X6, e6, W6, st6⟩ := stB X4 hx hZ e4 Ar6 (j := (2 : Int32)) hin6 (g := (mkF m 31 #[.val (.ref a1), .val (.int (2 : Int32)), .val (.ref a3), .val (.int (2 : Int32)), .val (.int (3 : Int32)), .val (.int (2 : Int32)), .val (.int c2)] [(.int (c2.toInt8.toInt32)), (.int (2 : Int32)), (.ref a3)])) rfl rfl (hb hby d11_31)
  have V_a3 : Arv Z h6 a3 kb .byte (3 : Int32) [(.int (own_sb c0)), (.int (own_sb c1)), (.int (own_sb c2))] (.int (0 : Int32)) := Arv.set Ar6 q6 S6 M6 H6 G6 (fits_nar_byte _) W6 2 rfl (Nat.le_of_ble_eq_true rfl)
  replace V_a1 := V_a1.other W6 ne13
  replace Zz := Nat.le_trans Zz (Keep.of_wr W6).1
  replace Kp := Kp.wr W6 (Or.inl (List.mem_of_getElem? (i := 0) rfl))
  have N6 := Fr.snoc X6 N4 g_a3
  refine own_step (T' := T6) (f' := (mkF m 32 #[.val (.ref a1), .val (.int (2 : Int32)), .val (.ref a3), .val (.int (2 : Int32)), .val (.int (3 : Int32)), .val (.int (2 : Int32)), .val (.int c2)] [])) (fun t k => st6 t k) ?_
  refine own_step (T' := T6) (f' := (mkF m 35 #[.val (.ref a1), .val (.int (3 : Int32)), .val (.ref a3), .val (.int (2 : Int32)), .val (.int (3 : Int32)), .val (.int (2 : Int32)), .val (.int c2)] [])) (fun t k => XS.iinc X6.here hx rfl (hb hby d11_32) rfl (l' := #[.val (.ref a1), .val (.int (3 : Int32)), .val (.ref a3), .val (.int (2 : Int32)), .val (.int (3 : Int32)), .val (.int (2 : Int32)), .val (.int c2)]) rfl k) ?_
  refine own_step (T' := T6) (f' := (mkF m 38 #[.val (.ref a1), .val (.int (3 : Int32)), .val (.ref a3), .val (.int (3 : Int32)), .val (.int (3 : Int32)), .val (.int (2 : Int32)), .val (.int c2)] [])) (fun t k => XS.iinc X6.here hx rfl (hb hby d11_35) rfl (l' := #[.val (.ref a1), .val (.int (3 : Int32)), .val (.ref a3), .val (.int (3 : Int32)), .val (.int (3 : Int32)), .val (.int (2 : Int32)), .val (.int c2)]) rfl k) ?_
  refine own_step (T' := T6) (f' := (mkF m 41 #[.val (.ref a1), .val (.int (3 : Int32)), .val (.ref a3), .val (.int (3 : Int32)), .val (.int (3 : Int32)), .val (.int (3 : Int32)), .val (.int c2)] [])) (fun t k => XS.iinc X6.here hx rfl (hb hby d11_38) rfl (l' := #[.val (.ref a1), .val (.int (3 : Int32)), .val (.ref a3), .val (.int (3 : Int32)), .val (.int (3 : Int32)), .val (.int (3 : Int32)), .val (.int c2)]) rfl k) ?_
  refine own_step (T' := T6) (f' := (mkF m 3 #[.val (.ref a1), .val (.int (3 : Int32)), .val (.ref a3), .val (.int (3 : Int32)), .val (.int (3 : Int32)), .val (.int (3 : Int32)), .val (.int c2)] [])) (fun t k => XS.goto X6.here hx rfl (pc0 := 41) (pc' := 3) rfl (hb hby d11_41) (by decide) (by decide) k) ?_
  refine own_step (T' := T6) (f' := (mkF m 5 #[.val (.ref a1), .val (.int (3 : Int32)), .val (.ref a3), .val (.int (3 : Int32)), .val (.int (3 : Int32)), .val (.int (3 : Int32)), .val (.int c2)] [(.int (3 : Int32))])) (fun t k => XS.iload X6.here hx rfl (hb hby d11_3) rfl k) ?_
  refine own_step (T' := T6) (f' := (mkF m 7 #[.val (.ref a1), .val (.int (3 : Int32)), .val (.ref a3), .val (.int (3 : Int32)), .val (.int (3 : Int32)), .val (.int (3 : Int32)), .val (.int c2)] [(.int (3 : Int32)), (.int (3 : Int32))])) (fun t k => XS.iload X6.here hx rfl (hb hby d11_5) rfl k) ?_
  refine own_step (T' := T6) (f' := (mkF m 44 #[.val (.ref a1), .val (.int (3 : Int32)), .val (.ref a3), .val (.int (3 : Int32)), .val (.int (3 : Int32)), .val (.int (3 : Int32)), .val (.int c2)] [])) (fun t k => XS.icmpYes X6.here hx rfl (pc0 := 7) (pc' := 44) rfl (hb hby d11_7) rfl (flt (by decide : ¬ ((3 : Int32) < (3 : Int32)))).2.1 (by decide) (by decide) k) ?_
  refine own_step (T' := T6) (f' := (mkF m 46 #[.val (.ref a1), .val (.int (3 : Int32)), .val (.ref a3), .val (.int (3 : Int32)), .val (.int (3 : Int32)), .val (.int (3 : Int32)), .val (.int c2)] [(.int (3 : Int32))])) (fun t k => XS.iload X6.here hx rfl (hb hby d11_44) rfl k) ?_
  exact own_retO X6 hx hlk Bd.returns rfl (Or.inl ⟨rfl, Or.inl rfl, _, rfl⟩) (hb hby d11_46) (by decide) (by decide) (by rw [e6]; exact ⟨rfl, N6, Kp, V_a3⟩)

def Q10_3 (Z : State) (c0 c1 c2 : Int32) (h0 : Heap) (n0 : Nat) (v : Option Value) (h : Heap) (L : List Loc) : Prop := ∃ (b : Addr) (k : ClassId), v = some (.ref b) ∧ Fr n0 L ∧ Keep h0 h [] ∧ h0.size ≤ b ∧ Arv Z h b k .byte (3 : Int32) [(.int (own_sb c0)), (.int (own_sb c1)), (.int (own_sb c2))] (.int (0 : Int32))
theorem ef_rm10_3 (m : MethodId) (x0 : Addr) (x1 : Int32) (x2 : Int32) : entryFrame m #[(.ref x0), (.int x1), (.int x2)] 6 = mkF m 0 #[.val (.ref x0), .val (.int x1), .val (.int x2), .unset, .unset, .unset] [] := by first | (simp [entryFrame, mkF, argsToLocals, Value.category]; done) | rfl
set_option maxRecDepth 65536 in
set_option maxHeartbeats 40000000 in
theorem rm10_3 (l : Launch) (Z : State) (a0 : Array Value) (hw : ∀ d ∈ tables_1, d.before a0 Z = true) (ws : List Jvm.Cond) (a1 : Addr) (h0 : Heap) (n0 : Nat) (Z0 : n0 ≤ h0.size) (kc : ClassId) (c0 c1 c2 : Int32) (hC0 : OwnC c0) (hC1 : OwnC c1) (hC2 : OwnC c2) (V_a1 : Arv Z h0 a1 kc .char (3 : Int32) [(.int c0), (.int c1), (.int c2)] (.int (0 : Int32))) :
    MetFree l (⟨"java/lang/StringUTF16", "compress", "([CII)[B"⟩ : MethodName) (head1 (Jvm.Cond.code (⟨"java/lang/StringUTF16", "compress", "([CII)[B"⟩ : MethodName) jdk_52_method_16_code 6 (some (.array .byte)) :: ws) ({ frames := 1, cells := 1, slots := 3, locals := 18 } : Room)) (fun a U => a = #[(.ref a1), (.int (0 : Int32)), (.int (3 : Int32))] ∧ Z.Warmed39 U.vm ∧ U.heap = h0) (fun _ _ _ _ _ => True) (fun _ U o U' => ∃ v L, o = .returned v ∧ Q10_3 Z c0 c1 c2 h0 n0 v U'.heap L ∧ FrameEnd U o U' L ({ frames := 1, cells := 1, slots := 3, locals := 18 } : Room).cells ({ frames := 1, cells := 1, slots := 3, locals := 18 } : Room).slots) := by
  refine MetFree.of_bodySF (plainFor_of_name pn_10) hisR ?_
  intro p e s m args below meth c s₁ Bd hml0 hP hK
  obtain ⟨rfl, hZ, hh⟩ := hP
  have hx := Bd.exec
  have hby := Bd.bytes
  have hlk : meth.locks = false := BodyLoose.notSynchronized Bd
  have hml : c.maxLocals = 6 := hml0
  have hown : s.vm.findClass "java/lang/StringUTF16" = some m.cls := findClass_of_methodNamed Bd.named
  have hnm := (name_of_methodNamed Bd.named Bd.method).1
  have X0 : Stand p l e ({ frames := 1, cells := 1, slots := 3, locals := 18 } : Room) s m #[(.ref a1), (.int (0 : Int32)), (.int (3 : Int32))] below meth c s₁ [] 0 0 := Stand.of_body Bd
  have e0 : s₁.heap = h0 := by rw [← hh, Bd.state]; rfl
  have N0 := Fr.nil n0
  have Zz := Z0
  have Kp : Keep h0 h0 [] := Keep.refl _ _
  show OwnEnds p e below s (Q10_3 Z c0 c1 c2 h0 n0) ({ frames := 1, cells := 1, slots := 3, locals := 18 } : Room).cells ({ frames := 1, cells := 1, slots := 3, locals := 18 } : Room).slots s₁ (entryFrame m #[(.ref a1), (.int (0 : Int32)), (.int (3 : Int32))] 6)
  refine own_step (T' := s₁) (f' := (mkF m 0 #[.val (.ref a1), .val (.int (0 : Int32)), .val (.int (3 : Int32)), .unset, .unset, .unset] [])) (fun t k => castTop (ef_rm10_3 m a1 (0 : Int32) (3 : Int32)) k) ?_
  refine own_step (T' := s₁) (f' := (mkF m 1 #[.val (.ref a1), .val (.int (0 : Int32)), .val (.int (3 : Int32)), .unset, .unset, .unset] [(.int (3 : Int32))])) (fun t k => XS.iloadN X0.here hx rfl (hb hby d10_0) rfl k) ?_
  obtain ⟨T1, h1, k1, X1, e1, E1, A1, EX1, st1⟩ := newPE X0 hx hZ (hw _ (List.mem_of_getElem? (i := 15) rfl)) e0 (g := (mkF m 1 #[.val (.ref a1), .val (.int (0 : Int32)), .val (.int (3 : Int32)), .unset, .unset, .unset] [(.int (3 : Int32))])) rfl (hb hby d10_1) rfl (by decide) (cap := 3) (by decide) (by decide) (by decide) (by decide) (ad := "[B") rfl
  obtain ⟨b1, g1⟩ : ∃ z, z = h0.size := ⟨_, rfl⟩
  rw [← g1] at A1 EX1 st1
  have ne_a1_b1 : a1 ≠ b1 := Nat.ne_of_lt (Nat.lt_of_lt_of_le V_a1.lt (Nat.le_of_eq g1.symm))
  have g_b1 : n0 ≤ b1 := Nat.le_trans Zz (Nat.le_of_eq g1.symm)
  have sz_b1 : h0.size ≤ b1 := Nat.le_trans Kp.1 (Nat.le_of_eq g1.symm)
  replace V_a1 := V_a1.ext E1
  replace Zz := Nat.le_trans Zz E1.1
  replace Kp := Kp.ext E1
  have V_b1 : Arv Z h1 b1 k1 .byte (3 : Int32) [(.int (0 : Int32)), (.int (0 : Int32)), (.int (0 : Int32))] (.int (0 : Int32)) := (Arv.new A1 (by decide)).pad (pad_rep [] (.int (0 : Int32)) 3)
  have EX_b1 := EX1
  refine own_step (T' := T1) (f' := (mkF m 3 #[.val (.ref a1), .val (.int (0 : Int32)), .val (.int (3 : Int32)), .unset, .unset, .unset] [(.ref b1)])) (fun t k => st1 t k) ?_
  refine own_step (T' := T1) (f' := (mkF m 4 #[.val (.ref a1), .val (.int (0 : Int32)), .val (.int (3 : Int32)), .val (.ref b1), .unset, .unset] [])) (fun t k => XS.astoreN X1.here hx rfl (hb hby d10_3) rfl rfl (l' := #[.val (.ref a1), .val (.int (0 : Int32)), .val (.int (3 : Int32)), .val (.ref b1), .unset, .unset]) rfl k) ?_
  refine own_step (T' := T1) (f' := (mkF m 5 #[.val (.ref a1), .val (.int (0 : Int32)), .val (.int (3 : Int32)), .val (.ref b1), .unset, .unset] [(.ref a1)])) (fun t k => XS.aloadN X1.here hx rfl (hb hby d10_4) rfl rfl k) ?_
  refine own_step (T' := T1) (f' := (mkF m 6 #[.val (.ref a1), .val (.int (0 : Int32)), .val (.int (3 : Int32)), .val (.ref b1), .unset, .unset] [(.int (0 : Int32)), (.ref a1)])) (fun t k => XS.iloadN X1.here hx rfl (hb hby d10_5) rfl k) ?_
  refine own_step (T' := T1) (f' := (mkF m 7 #[.val (.ref a1), .val (.int (0 : Int32)), .val (.int (3 : Int32)), .val (.ref b1), .unset, .unset] [(.ref b1), (.int (0 : Int32)), (.ref a1)])) (fun t k => XS.aloadN X1.here hx rfl (hb hby d10_6) rfl rfl k) ?_
  refine own_step (T' := T1) (f' := (mkF m 8 #[.val (.ref a1), .val (.int (0 : Int32)), .val (.int (3 : Int32)), .val (.ref b1), .unset, .unset] [(.int (0 : Int32)), (.ref b1), (.int (0 : Int32)), (.ref a1)])) (fun t k => XS.iconst X1.here hx rfl (hb hby d10_7) k) ?_
  refine own_step (T' := T1) (f' := (mkF m 9 #[.val (.ref a1), .val (.int (0 : Int32)), .val (.int (3 : Int32)), .val (.ref b1), .unset, .unset] [(.int (3 : Int32)), (.int (0 : Int32)), (.ref b1), (.int (0 : Int32)), (.ref a1)])) (fun t k => XS.iloadN X1.here hx rfl (hb hby d10_8) rfl k) ?_
  obtain ⟨_, _, ⟨T2, L2, k2, n2⟩, -, X2, ⟨Lc2, hQ2, l2, y2, z2⟩, st2⟩ := Jvm.LawKit.callS X1 hx (y := (⟨"java/lang/StringUTF16", "compress", "([CI[BII)I"⟩ : MethodName)) hown (mvT hZ (hw _ (List.mem_of_getElem? (i := 56) rfl))) (mvT hZ (hw _ (List.mem_of_getElem? (i := 57) rfl))) (mvT hZ (hw _ (List.mem_of_getElem? (i := 54) rfl))) (mvT hZ (hw _ (List.mem_of_getElem? (i := 58) rfl))) (by decide) (backOf (W := 0) (rm11_3 l Z a0 hw [] a1 b1 h1 n0 Zz kc k1 c0 c1 c2 hC0 hC1 hC2 V_a1 V_b1 ne_a1_b1 g_b1) hZ (hw _ (List.mem_of_getElem? (i := 58) rfl)) (hw _ (List.mem_of_getElem? (i := 54) rfl)) (by decide) (by decide)) (g := (mkF m 9 #[.val (.ref a1), .val (.int (0 : Int32)), .val (.int (3 : Int32)), .val (.ref b1), .unset, .unset] [(.int (3 : Int32)), (.int (0 : Int32)), (.ref b1), (.int (0 : Int32)), (.ref a1)])) rfl (by rw [hml]; rfl) (argsL := [(.ref a1), (.int (0 : Int32)), (.ref b1), (.int (0 : Int32)), (.int (3 : Int32))]) (rest := []) (lenOf pd_10_0 rfl) rfl (by show 2 * 0 + _ ≤ _; exact Nat.le_of_eq rfl) (hb hby d10_9) (fun _ _ => ⟨rfl, e1, (by decide : 1 + 0 ≤ _), (by decide : 3 + 0 ≤ _)⟩)
  dsimp only [Pt.U, Pt.locs, Pt.cells, Pt.slots] at X2 l2 y2 z2 st2 hQ2
  subst l2 y2 z2
  obtain ⟨rfl, N2q, K2, Vr2⟩ := hQ2
  have N2 := Fr.app N0 N2q
  replace V_a1 := V_a1.keep K2 (ninS ne_a1_b1 nin0)
  replace EX_b1 := EX_b1.keep K2
  replace Zz := Nat.le_trans Zz K2.1
  replace Kp := Kp.trans K2 (allS (Or.inr sz_b1) all0)
  refine own_step (T' := T2) (f' := (mkF m 12 #[.val (.ref a1), .val (.int (0 : Int32)), .val (.int (3 : Int32)), .val (.ref b1), .unset, .unset] [(.int (3 : Int32))])) (fun t k => st2 t k) ?_
  refine own_step (T' := T2) (f' := (mkF m 14 #[.val (.ref a1), .val (.int (0 : Int32)), .val (.int (3 : Int32)), .val (.ref b1), .val (.int (3 : Int32)), .unset] [])) (fun t k => XS.istore X2.here hx rfl (hb hby d10_12) rfl (l' := #[.val (.ref a1), .val (.int (0 : Int32)), .val (.int (3 : Int32)), .val (.ref b1), .val (.int (3 : Int32)), .unset]) rfl k) ?_
  refine own_step (T' := T2) (f' := (mkF m 16 #[.val (.ref a1), .val (.int (0 : Int32)), .val (.int (3 : Int32)), .val (.ref b1), .val (.int (3 : Int32)), .unset] [(.int (3 : Int32))])) (fun t k => XS.iload X2.here hx rfl (hb hby d10_14) rfl k) ?_
  refine own_step (T' := T2) (f' := (mkF m 17 #[.val (.ref a1), .val (.int (0 : Int32)), .val (.int (3 : Int32)), .val (.ref b1), .val (.int (3 : Int32)), .unset] [(.int (3 : Int32)), (.int (3 : Int32))])) (fun t k => XS.iloadN X2.here hx rfl (hb hby d10_16) rfl k) ?_
  refine own_step (T' := T2) (f' := (mkF m 57 #[.val (.ref a1), .val (.int (0 : Int32)), .val (.int (3 : Int32)), .val (.ref b1), .val (.int (3 : Int32)), .unset] [])) (fun t k => XS.icmpYes X2.here hx rfl (pc0 := 17) (pc' := 57) rfl (hb hby d10_17) rfl (teq (by decide : (3 : Int32) = (3 : Int32))).1 (by decide) (by decide) k) ?_
  refine own_step (T' := T2) (f' := (mkF m 58 #[.val (.ref a1), .val (.int (0 : Int32)), .val (.int (3 : Int32)), .val (.ref b1), .val (.int (3 : Int32)), .unset] [(.ref b1)])) (fun t k => XS.aloadN X2.here hx rfl (hb hby d10_57) rfl rfl k) ?_
  exact own_retO X2 hx hlk Bd.returns rfl (Or.inr (Or.inr (Or.inr (Or.inr ⟨rfl, rfl, rfl⟩)))) (hb hby d10_58) (by decide) (by decide) ⟨b1, k1, rfl, N2, Kp, sz_b1, Vr2⟩

theorem ef_rm12_3 (m : MethodId) (x0 : Addr) (x1 : Int32) : entryFrame m #[(.ref x0), (.int x1)] 2 = mkF m 0 #[.val (.ref x0), .val (.int x1)] [] := by first | (simp [entryFrame, mkF, argsToLocals, Value.category]; done) | rfl
set_option maxRecDepth 65536 in
set_option maxHeartbeats 40000000 in
theorem rm12_3 (l : Launch) (Z : State) (a0 : Array Value) (hw : ∀ d ∈ tables_1, d.before a0 Z = true) (ws : List Jvm.Cond) (a1 : Addr) (h0 : Heap) (n0 : Nat) (Z0 : n0 ≤ h0.size) (kb : ClassId) (c0 c1 c2 : Int32) (V_a1 : Arv Z h0 a1 kb .byte (3 : Int32) [(.int (own_sb c0)), (.int (own_sb c1)), (.int (own_sb c2))] (.int (0 : Int32))) :
    MetFree l (⟨"java/lang/StringUTF16", "coderFromArrayLen", "([BI)B"⟩ : MethodName) (head1 (Jvm.Cond.code (⟨"java/lang/StringUTF16", "coderFromArrayLen", "([BI)B"⟩ : MethodName) jdk_52_method_15_code 2 (some .byte) :: ws) ({ frames := 0, cells := 0, slots := 0, locals := 0 } : Room)) (fun a U => a = #[(.ref a1), (.int (3 : Int32))] ∧ Z.Warmed39 U.vm ∧ U.heap = h0) (fun _ _ _ _ _ => True) (fun _ U o U' => ∃ v L, o = .returned v ∧ QI 0 h0 n0 v U'.heap L ∧ FrameEnd U o U' L ({ frames := 0, cells := 0, slots := 0, locals := 0 } : Room).cells ({ frames := 0, cells := 0, slots := 0, locals := 0 } : Room).slots) := by
  refine MetFree.of_bodySF (plainFor_of_name pn_12) hisR ?_
  intro p e s m args below meth c s₁ Bd hml0 hP hK
  obtain ⟨rfl, hZ, hh⟩ := hP
  have hx := Bd.exec
  have hby := Bd.bytes
  have hlk : meth.locks = false := BodyLoose.notSynchronized Bd
  have hml : c.maxLocals = 2 := hml0
  have hown : s.vm.findClass "java/lang/StringUTF16" = some m.cls := findClass_of_methodNamed Bd.named
  have hnm := (name_of_methodNamed Bd.named Bd.method).1
  have X0 : Stand p l e ({ frames := 0, cells := 0, slots := 0, locals := 0 } : Room) s m #[(.ref a1), (.int (3 : Int32))] below meth c s₁ [] 0 0 := Stand.of_body Bd
  have e0 : s₁.heap = h0 := by rw [← hh, Bd.state]; rfl
  have N0 := Fr.nil n0
  have Zz := Z0
  have Kp : Keep h0 h0 [] := Keep.refl _ _
  show OwnEnds p e below s (QI 0 h0 n0) ({ frames := 0, cells := 0, slots := 0, locals := 0 } : Room).cells ({ frames := 0, cells := 0, slots := 0, locals := 0 } : Room).slots s₁ (entryFrame m #[(.ref a1), (.int (3 : Int32))] 2)
  refine own_step (T' := s₁) (f' := (mkF m 0 #[.val (.ref a1), .val (.int (3 : Int32))] [])) (fun t k => castTop (ef_rm12_3 m a1 (3 : Int32)) k) ?_
  refine own_step (T' := s₁) (f' := (mkF m 1 #[.val (.ref a1), .val (.int (3 : Int32))] [(.int (3 : Int32))])) (fun t k => XS.iloadN X0.here hx rfl (hb hby d12_0) rfl k) ?_
  refine own_step (T' := s₁) (f' := (mkF m 2 #[.val (.ref a1), .val (.int (3 : Int32))] [(.ref a1), (.int (3 : Int32))])) (fun t k => XS.aloadN X0.here hx rfl (hb hby d12_1) rfl rfl k) ?_
  obtain ⟨cl1, Ar1, q1, S1, M1, H1, G1⟩ := id V_a1
  refine own_step (T' := s₁) (f' := (mkF m 3 #[.val (.ref a1), .val (.int (3 : Int32))] [(.int (3 : Int32)), (.int (3 : Int32))])) (fun t k => X0.arraylength hx (by rw [e0]; exact Ar1.1) (State.isArrayOf_alike hZ.alike Ar1.2.1) (g := (mkF m 2 #[.val (.ref a1), .val (.int (3 : Int32))] [(.ref a1), (.int (3 : Int32))])) rfl rfl (hb hby d12_2) _ (by rw [len_of S1 M1]; exact k)) ?_
  refine own_step (T' := s₁) (f' := (mkF m 4 #[.val (.ref a1), .val (.int (3 : Int32))] [(.int (0 : Int32))])) (fun t k => XS.isub X0.here hx rfl (hb hby d12_3) rfl k) ?_
  refine own_step (T' := s₁) (f' := (mkF m 6 #[.val (.ref a1), .val (.int (3 : Int32))] [(.int (31 : Int32)), (.int (0 : Int32))])) (fun t k => XS.bipush X0.here hx rfl (hb hby d12_4) k) ?_
  refine own_step (T' := s₁) (f' := (mkF m 7 #[.val (.ref a1), .val (.int (3 : Int32))] [(.int (((0 : Int32).toUInt32 >>> ((31 : Int32) &&& 31).toUInt32).toInt32))])) (fun t k => XS.iushr X0.here hx rfl (hb hby d12_6) rfl k) ?_
  refine own_step (T' := s₁) (f' := (mkF m 8 #[.val (.ref a1), .val (.int (3 : Int32))] [(.int ((((0 : Int32).toUInt32 >>> ((31 : Int32) &&& 31).toUInt32).toInt32).toInt8.toInt32))])) (fun t k => XS.i2b X0.here hx rfl (hb hby d12_7) rfl k) ?_
  exact own_retN X0 hx hlk (t := .byte) Bd.returns (by simp) (hb hby d12_8) (by decide) (by decide) ⟨by decide, N0, e0⟩

theorem ef_rm9_3 (m : MethodId) (x0 : Addr) (x1 : Addr) (x2 : Int32) (x3 : Int32) : entryFrame m #[(.ref x0), (.ref x1), (.int x2), (.int x3), .null] 6 = mkF m 0 #[.val (.ref x0), .val (.ref x1), .val (.int x2), .val (.int x3), .val .null, .unset] [] := by first | (simp [entryFrame, mkF, argsToLocals, Value.category]; done) | rfl
set_option maxRecDepth 65536 in
set_option maxHeartbeats 40000000 in
theorem rm9_3 (l : Launch) (Z : State) (a0 : Array Value) (hw : ∀ d ∈ tables_1, d.before a0 Z = true) (ws : List Jvm.Cond) (a1 : Addr) (a2 : Addr) (h0 : Heap) (n0 : Nat) (Z0 : n0 ≤ h0.size) (E_a1 : Exa Z h0 a1 "java/lang/String") (F_value_a1 : Fld Z h0 a1 "java/lang/String" "value" "[B" .null) (F_coder_a1 : Fld Z h0 a1 "java/lang/String" "coder" "B" (.int (0 : Int32))) (g_a1 : n0 ≤ a1) (kc : ClassId) (c0 c1 c2 : Int32) (hC0 : OwnC c0) (hC1 : OwnC c1) (hC2 : OwnC c2) (V_a2 : Arv Z h0 a2 kc .char (3 : Int32) [(.int c0), (.int c1), (.int c2)] (.int (0 : Int32))) (cs : Int32) (S_CS : Sta Z h0 "java/lang/String" "COMPACT_STRINGS" "Z" (.int cs)) (hcs : ¬ cs = (0 : Int32)) (n12 : a1 ≠ a2) :
    MetFree l (⟨"java/lang/String", "<init>", "([CIILjava/lang/Void;)V"⟩ : MethodName) (head1 (Jvm.Cond.code (⟨"java/lang/String", "<init>", "([CIILjava/lang/Void;)V"⟩ : MethodName) jdk_42_method_149_code 6 none :: ws) ({ frames := 2, cells := 1, slots := 3, locals := 36 } : Room)) (fun a U => a = #[(.ref a1), (.ref a2), (.int (0 : Int32)), (.int (3 : Int32)), .null] ∧ Z.Warmed39 U.vm ∧ U.heap = h0) (fun _ _ _ _ _ => True) (fun _ U o U' => ∃ v L, o = .returned v ∧ Q9_3 Z a1 c0 c1 c2 h0 n0 v U'.heap L ∧ FrameEnd U o U' L ({ frames := 2, cells := 1, slots := 3, locals := 36 } : Room).cells ({ frames := 2, cells := 1, slots := 3, locals := 36 } : Room).slots) := by
  refine MetFree.of_bodySF (plainFor_of_name pn_9) hisR ?_
  intro p e s m args below meth c s₁ Bd hml0 hP hK
  obtain ⟨rfl, hZ, hh⟩ := hP
  have hx := Bd.exec
  have hby := Bd.bytes
  have hlk : meth.locks = false := BodyLoose.notSynchronized Bd
  have hml : c.maxLocals = 6 := hml0
  have hown : s.vm.findClass "java/lang/String" = some m.cls := findClass_of_methodNamed Bd.named
  have hnm := (name_of_methodNamed Bd.named Bd.method).1
  have X0 : Stand p l e ({ frames := 2, cells := 1, slots := 3, locals := 36 } : Room) s m #[(.ref a1), (.ref a2), (.int (0 : Int32)), (.int (3 : Int32)), .null] below meth c s₁ [] 0 0 := Stand.of_body Bd
  have e0 : s₁.heap = h0 := by rw [← hh, Bd.state]; rfl
  have N0 := Fr.nil n0
  have Zz := Z0
  have Kp : Keep h0 h0 [a1] := Keep.refl _ _
  show OwnEnds p e below s (Q9_3 Z a1 c0 c1 c2 h0 n0) ({ frames := 2, cells := 1, slots := 3, locals := 36 } : Room).cells ({ frames := 2, cells := 1, slots := 3, locals := 36 } : Room).slots s₁ (entryFrame m #[(.ref a1), (.ref a2), (.int (0 : Int32)), (.int (3 : Int32)), .null] 6)
  refine own_step (T' := s₁) (f' := (mkF m 0 #[.val (.ref a1), .val (.ref a2), .val (.int (0 : Int32)), .val (.int (3 : Int32)), .val .null, .unset] [])) (fun t k => castTop (ef_rm9_3 m a1 a2 (0 : Int32) (3 : Int32)) k) ?_
  refine own_step (T' := s₁) (f' := (mkF m 1 #[.val (.ref a1), .val (.ref a2), .val (.int (0 : Int32)), .val (.int (3 : Int32)), .val .null, .unset] [(.ref a1)])) (fun t k => XS.aloadN X0.here hx rfl (hb hby d9_0) rfl rfl k) ?_
  obtain ⟨T1, X1, e1, st1⟩ := initO X0 hx hZ hown (hw _ (List.mem_of_getElem? (i := 50) rfl)) (hw _ (List.mem_of_getElem? (i := 12) rfl)) (hw _ (List.mem_of_getElem? (i := 13) rfl)) e0 (g := (mkF m 1 #[.val (.ref a1), .val (.ref a2), .val (.int (0 : Int32)), .val (.int (3 : Int32)), .val .null, .unset] [(.ref a1)])) rfl (by rw [hml]; rfl) rfl (hb hby d9_1) (by decide) (W := 0) (by show 2 * 0 + _ ≤ _; exact Nat.le_of_eq rfl) (by decide)
  refine own_step (T' := T1) (f' := (mkF m 4 #[.val (.ref a1), .val (.ref a2), .val (.int (0 : Int32)), .val (.int (3 : Int32)), .val .null, .unset] [])) (fun t k => st1 t k) ?_
  refine own_step (T' := T1) (f' := (mkF m 5 #[.val (.ref a1), .val (.ref a2), .val (.int (0 : Int32)), .val (.int (3 : Int32)), .val .null, .unset] [(.int (3 : Int32))])) (fun t k => XS.iloadN X1.here hx rfl (hb hby d9_4) rfl k) ?_
  refine own_step (T' := T1) (f' := (mkF m 27 #[.val (.ref a1), .val (.ref a2), .val (.int (0 : Int32)), .val (.int (3 : Int32)), .val .null, .unset] [])) (fun t k => XS.ifYes X1.here hx rfl (pc0 := 5) (pc' := 27) rfl (hb hby d9_5) rfl ((if0 _ _).trans (feq (by decide : ¬ ((3 : Int32) = (0 : Int32)))).2) (by decide) (by decide) k) ?_
  obtain ⟨T2, X2, e2, st2⟩ := getS2 X1 hx hZ hown (host := "") (Or.inl (hw _ (List.mem_of_getElem? (i := 51) rfl))) Via.refl e1 S_CS (g := (mkF m 27 #[.val (.ref a1), .val (.ref a2), .val (.int (0 : Int32)), .val (.int (3 : Int32)), .val .null, .unset] [])) rfl (hb hby d9_27)
  refine own_step (T' := T2) (f' := (mkF m 30 #[.val (.ref a1), .val (.ref a2), .val (.int (0 : Int32)), .val (.int (3 : Int32)), .val .null, .unset] [(.int cs)])) (fun t k => st2 t k) ?_
  refine own_step (T' := T2) (f' := (mkF m 33 #[.val (.ref a1), .val (.ref a2), .val (.int (0 : Int32)), .val (.int (3 : Int32)), .val .null, .unset] [])) (fun t k => XS.ifNo X2.here hx rfl (hb hby d9_30) rfl ((if0 _ _).trans (feq hcs).1) k) ?_
  refine own_step (T' := T2) (f' := (mkF m 34 #[.val (.ref a1), .val (.ref a2), .val (.int (0 : Int32)), .val (.int (3 : Int32)), .val .null, .unset] [(.ref a2)])) (fun t k => XS.aloadN X2.here hx rfl (hb hby d9_33) rfl rfl k) ?_
  refine own_step (T' := T2) (f' := (mkF m 35 #[.val (.ref a1), .val (.ref a2), .val (.int (0 : Int32)), .val (.int (3 : Int32)), .val .null, .unset] [(.int (0 : Int32)), (.ref a2)])) (fun t k => XS.iloadN X2.here hx rfl (hb hby d9_34) rfl k) ?_
  refine own_step (T' := T2) (f' := (mkF m 36 #[.val (.ref a1), .val (.ref a2), .val (.int (0 : Int32)), .val (.int (3 : Int32)), .val .null, .unset] [(.int (3 : Int32)), (.int (0 : Int32)), (.ref a2)])) (fun t k => XS.iloadN X2.here hx rfl (hb hby d9_35) rfl k) ?_
  obtain ⟨_, _, ⟨T3, L3, k3, n3⟩, -, X3, ⟨Lc3, hQ3, l3, y3, z3⟩, st3⟩ := Jvm.LawKit.callS X2 hx (y := (⟨"java/lang/StringUTF16", "compress", "([CII)[B"⟩ : MethodName)) hown (mvT hZ (hw _ (List.mem_of_getElem? (i := 52) rfl))) (mvT hZ (hw _ (List.mem_of_getElem? (i := 53) rfl))) (mvT hZ (hw _ (List.mem_of_getElem? (i := 54) rfl))) (mvT hZ (hw _ (List.mem_of_getElem? (i := 55) rfl))) (by decide) (backOf (W := 0) (rm10_3 l Z a0 hw [] a2 h0 n0 Zz kc c0 c1 c2 hC0 hC1 hC2 V_a2) hZ (hw _ (List.mem_of_getElem? (i := 55) rfl)) (hw _ (List.mem_of_getElem? (i := 54) rfl)) (by decide) (by decide)) (g := (mkF m 36 #[.val (.ref a1), .val (.ref a2), .val (.int (0 : Int32)), .val (.int (3 : Int32)), .val .null, .unset] [(.int (3 : Int32)), (.int (0 : Int32)), (.ref a2)])) rfl (by rw [hml]; rfl) (argsL := [(.ref a2), (.int (0 : Int32)), (.int (3 : Int32))]) (rest := []) (lenOf pd_9_0 rfl) rfl (by show 2 * 0 + _ ≤ _; exact Nat.le_of_eq rfl) (hb hby d9_36) (fun _ _ => ⟨rfl, e2, (by decide : 0 + 1 ≤ _), (by decide : 0 + 3 ≤ _)⟩)
  dsimp only [Pt.U, Pt.locs, Pt.cells, Pt.slots] at X3 l3 y3 z3 st3 hQ3
  subst l3 y3 z3
  obtain ⟨rb3, rk3, rfl, N3q, K3, zz3, Vr3⟩ := hQ3
  have N3 := Fr.app N0 N3q
  have ne_a1_rb3 : a1 ≠ rb3 := Nat.ne_of_lt (Nat.lt_of_lt_of_le E_a1.lt zz3)
  have ne_a2_rb3 : a2 ≠ rb3 := Nat.ne_of_lt (Nat.lt_of_lt_of_le V_a2.lt zz3)
  replace S_CS := own_sta_keep S_CS K3 all0
  replace E_a1 := E_a1.keep K3
  replace F_value_a1 := F_value_a1.keep K3 nin0
  replace F_coder_a1 := F_coder_a1.keep K3 nin0
  replace V_a2 := V_a2.keep K3 nin0
  replace Zz := Nat.le_trans Zz K3.1
  replace Kp := Kp.trans K3 all0
  refine own_step (T' := T3) (f' := (mkF m 39 #[.val (.ref a1), .val (.ref a2), .val (.int (0 : Int32)), .val (.int (3 : Int32)), .val .null, .unset] [(.ref rb3)])) (fun t k => st3 t k) ?_
  refine own_step (T' := T3) (f' := (mkF m 41 #[.val (.ref a1), .val (.ref a2), .val (.int (0 : Int32)), .val (.int (3 : Int32)), .val .null, .val (.ref rb3)] [])) (fun t k => XS.astore X3.here hx rfl (hb hby d9_39) rfl rfl (l' := #[.val (.ref a1), .val (.ref a2), .val (.int (0 : Int32)), .val (.int (3 : Int32)), .val .null, .val (.ref rb3)]) rfl k) ?_
  refine own_step (T' := T3) (f' := (mkF m 42 #[.val (.ref a1), .val (.ref a2), .val (.int (0 : Int32)), .val (.int (3 : Int32)), .val .null, .val (.ref rb3)] [(.ref a1)])) (fun t k => XS.aloadN X3.here hx rfl (hb hby d9_41) rfl rfl k) ?_
  refine own_step (T' := T3) (f' := (mkF m 44 #[.val (.ref a1), .val (.ref a2), .val (.int (0 : Int32)), .val (.int (3 : Int32)), .val .null, .val (.ref rb3)] [(.ref rb3), (.ref a1)])) (fun t k => XS.aload X3.here hx rfl (hb hby d9_42) rfl rfl k) ?_
  refine own_step (T' := T3) (f' := (mkF m 45 #[.val (.ref a1), .val (.ref a2), .val (.int (0 : Int32)), .val (.int (3 : Int32)), .val .null, .val (.ref rb3)] [(.int (3 : Int32)), (.ref rb3), (.ref a1)])) (fun t k => XS.iloadN X3.here hx rfl (hb hby d9_44) rfl k) ?_
  obtain ⟨_, _, ⟨T4, L4, k4, n4⟩, -, X4, ⟨Lc4, hQ4, l4, y4, z4⟩, st4⟩ := Jvm.LawKit.callS X3 hx (y := (⟨"java/lang/StringUTF16", "coderFromArrayLen", "([BI)B"⟩ : MethodName)) hown (mvT hZ (hw _ (List.mem_of_getElem? (i := 59) rfl))) (mvT hZ (hw _ (List.mem_of_getElem? (i := 60) rfl))) (mvT hZ (hw _ (List.mem_of_getElem? (i := 54) rfl))) (mvT hZ (hw _ (List.mem_of_getElem? (i := 61) rfl))) (by decide) (backOf (W := 1) (rm12_3 l Z a0 hw [] rb3 T3.heap n0 Zz rk3 c0 c1 c2 Vr3) hZ (hw _ (List.mem_of_getElem? (i := 61) rfl)) (hw _ (List.mem_of_getElem? (i := 54) rfl)) (by decide) (by decide)) (g := (mkF m 45 #[.val (.ref a1), .val (.ref a2), .val (.int (0 : Int32)), .val (.int (3 : Int32)), .val .null, .val (.ref rb3)] [(.int (3 : Int32)), (.ref rb3), (.ref a1)])) rfl (by rw [hml]; rfl) (argsL := [(.ref rb3), (.int (3 : Int32))]) (rest := [(.ref a1)]) (lenOf pd_9_1 rfl) rfl (by show 2 * 0 + _ ≤ _; exact Nat.le_of_eq rfl) (hb hby d9_45) (fun _ _ => ⟨rfl, rfl, (by decide : 1 + 0 ≤ _), (by decide : 3 + 0 ≤ _)⟩)
  dsimp only [Pt.U, Pt.locs, Pt.cells, Pt.slots] at X4 l4 y4 z4 st4 hQ4
  subst l4 y4 z4
  obtain ⟨rfl, N4q, E4⟩ := hQ4
  have N4 := Fr.app N3 N4q
  refine own_step (T' := T4) (f' := (mkF m 48 #[.val (.ref a1), .val (.ref a2), .val (.int (0 : Int32)), .val (.int (3 : Int32)), .val .null, .val (.ref rb3)] [(.int (0 : Int32)), (.ref a1)])) (fun t k => st4 t k) ?_
  obtain ⟨T5, h5, X5, e5, W5, st5⟩ := putFN X4 hx hZ hown (hw _ (List.mem_of_getElem? (i := 62) rfl)) Via.refl E4 F_coder_a1 E_a1 (Or.inr ⟨(hw _ (List.mem_of_getElem? (i := 63) rfl)), rfl, hnm⟩) (hw _ (List.mem_of_getElem? (i := 41) rfl)) (ty := .byte) (v' := (.int (0 : Int32))) (by decide) rfl (by decide) (g := (mkF m 48 #[.val (.ref a1), .val (.ref a2), .val (.int (0 : Int32)), .val (.int (3 : Int32)), .val .null, .val (.ref rb3)] [(.int (0 : Int32)), (.ref a1)])) rfl rfl (hb hby d9_48)
  replace E_a1 := E_a1.wr W5
  replace F_value_a1 := F_value_a1.other W5 (Or.inr (Jvm.RoadKit.slot_ne (Or.inr (hw _ (List.mem_of_getElem? (i := 65) rfl))) (Or.inr (hw _ (List.mem_of_getElem? (i := 63) rfl))) (by decide) (t := (.array .byte)) (t' := .byte) (by decide) (by decide)))
  replace F_coder_a1 := F_coder_a1.same W5
  replace V_a2 := V_a2.other W5 (Ne.symm n12)
  replace S_CS := S_CS.wr W5
  replace Vr3 := Vr3.other W5 (Ne.symm ne_a1_rb3)
  replace Zz := Nat.le_trans Zz (Keep.of_wr W5).1
  replace Kp := Kp.wr W5 (Or.inl (List.mem_of_getElem? (i := 0) rfl))
  have N5 := Fr.snoc X5 N4 g_a1
  refine own_step (T' := T5) (f' := (mkF m 51 #[.val (.ref a1), .val (.ref a2), .val (.int (0 : Int32)), .val (.int (3 : Int32)), .val .null, .val (.ref rb3)] [])) (fun t k => st5 t k) ?_
  refine own_step (T' := T5) (f' := (mkF m 52 #[.val (.ref a1), .val (.ref a2), .val (.int (0 : Int32)), .val (.int (3 : Int32)), .val .null, .val (.ref rb3)] [(.ref a1)])) (fun t k => XS.aloadN X5.here hx rfl (hb hby d9_51) rfl rfl k) ?_
  refine own_step (T' := T5) (f' := (mkF m 54 #[.val (.ref a1), .val (.ref a2), .val (.int (0 : Int32)), .val (.int (3 : Int32)), .val .null, .val (.ref rb3)] [(.ref rb3), (.ref a1)])) (fun t k => XS.aload X5.here hx rfl (hb hby d9_52) rfl rfl k) ?_
  obtain ⟨T6, h6, X6, e6, W6, st6⟩ := putF X5 hx hZ hown (host := "") (Or.inl (hw _ (List.mem_of_getElem? (i := 64) rfl))) Via.refl e5 F_value_a1 E_a1 (Or.inr ⟨(hw _ (List.mem_of_getElem? (i := 65) rfl)), rfl, hnm⟩) (hw _ (List.mem_of_getElem? (i := 41) rfl)) (ty := (.array .byte)) (by decide) rfl rfl (g := (mkF m 54 #[.val (.ref a1), .val (.ref a2), .val (.int (0 : Int32)), .val (.int (3 : Int32)), .val .null, .val (.ref rb3)] [(.ref rb3), (.ref a1)])) rfl rfl (hb hby d9_54)
  replace E_a1 := E_a1.wr W6
  replace F_value_a1 := F_value_a1.same W6
  replace F_coder_a1 := F_coder_a1.other W6 (Or.inr (Jvm.RoadKit.slot_ne (Or.inr (hw _ (List.mem_of_getElem? (i := 63) rfl))) (Or.inr (hw _ (List.mem_of_getElem? (i := 65) rfl))) (by decide) (t := .byte) (t' := (.array .byte)) (by decide) (by decide)))
  replace V_a2 := V_a2.other W6 (Ne.symm n12)
  replace S_CS := S_CS.wr W6
  replace Vr3 := Vr3.other W6 (Ne.symm ne_a1_rb3)
  replace Zz := Nat.le_trans Zz (Keep.of_wr W6).1
  replace Kp := Kp.wr W6 (Or.inl (List.mem_of_getElem? (i := 0) rfl))
  have N6 := Fr.snoc X6 N5 g_a1
  refine own_step (T' := T6) (f' := (mkF m 57 #[.val (.ref a1), .val (.ref a2), .val (.int (0 : Int32)), .val (.int (3 : Int32)), .val .null, .val (.ref rb3)] [])) (fun t k => st6 t k) ?_
  exact own_retV X6 hx hlk Bd.returns (hb hby d9_57) (by decide) (by decide) (by rw [e6]; exact ⟨rfl, N6, Kp, rb3, rk3, E_a1, F_coder_a1, F_value_a1, Vr3⟩)

theorem ef_rm8_3 (m : MethodId) (x0 : Addr) (x1 : Addr) : entryFrame m #[(.ref x0), (.ref x1)] 2 = mkF m 0 #[.val (.ref x0), .val (.ref x1)] [] := by first | (simp [entryFrame, mkF, argsToLocals, Value.category]; done) | rfl
set_option maxRecDepth 65536 in
set_option maxHeartbeats 40000000 in
theorem rm8_3 (l : Launch) (Z : State) (a0 : Array Value) (hw : ∀ d ∈ tables_1, d.before a0 Z = true) (ws : List Jvm.Cond) (a1 : Addr) (a2 : Addr) (h0 : Heap) (n0 : Nat) (Z0 : n0 ≤ h0.size) (E_a1 : Exa Z h0 a1 "java/lang/String") (F_value_a1 : Fld Z h0 a1 "java/lang/String" "value" "[B" .null) (F_coder_a1 : Fld Z h0 a1 "java/lang/String" "coder" "B" (.int (0 : Int32))) (g_a1 : n0 ≤ a1) (kc : ClassId) (c0 c1 c2 : Int32) (hC0 : OwnC c0) (hC1 : OwnC c1) (hC2 : OwnC c2) (V_a2 : Arv Z h0 a2 kc .char (3 : Int32) [(.int c0), (.int c1), (.int c2)] (.int (0 : Int32))) (cs : Int32) (S_CS : Sta Z h0 "java/lang/String" "COMPACT_STRINGS" "Z" (.int cs)) (hcs : ¬ cs = (0 : Int32)) (n12 : a1 ≠ a2) :
    MetFree l (⟨"java/lang/String", "<init>", "([C)V"⟩ : MethodName) (head1 (Jvm.Cond.code (⟨"java/lang/String", "<init>", "([C)V"⟩ : MethodName) jdk_42_method_3_code 2 none :: ws) ({ frames := 3, cells := 1, slots := 3, locals := 54 } : Room)) (fun a U => a = #[(.ref a1), (.ref a2)] ∧ Z.Warmed39 U.vm ∧ U.heap = h0) (fun _ _ _ _ _ => True) (fun _ U o U' => ∃ v L, o = .returned v ∧ Q9_3 Z a1 c0 c1 c2 h0 n0 v U'.heap L ∧ FrameEnd U o U' L ({ frames := 3, cells := 1, slots := 3, locals := 54 } : Room).cells ({ frames := 3, cells := 1, slots := 3, locals := 54 } : Room).slots) := by
  refine MetFree.of_bodySF (plainFor_of_name pn_8) hisR ?_
  intro p e s m args below meth c s₁ Bd hml0 hP hK
  obtain ⟨rfl, hZ, hh⟩ := hP
  have hx := Bd.exec
  have hby := Bd.bytes
  have hlk : meth.locks = false := BodyLoose.notSynchronized Bd
  have hml : c.maxLocals = 2 := hml0
  have hown : s.vm.findClass "java/lang/String" = some m.cls := findClass_of_methodNamed Bd.named
  have hnm := (name_of_methodNamed Bd.named Bd.method).1
  have X0 : Stand p l e ({ frames := 3, cells := 1, slots := 3, locals := 54 } : Room) s m #[(.ref a1), (.ref a2)] below meth c s₁ [] 0 0 := Stand.of_body Bd
  have e0 : s₁.heap = h0 := by rw [← hh, Bd.state]; rfl
  have N0 := Fr.nil n0
  have Zz := Z0
  have Kp : Keep h0 h0 [] := Keep.refl _ _
  show OwnEnds p e below s (Q9_3 Z a1 c0 c1 c2 h0 n0) ({ frames := 3, cells := 1, slots := 3, locals := 54 } : Room).cells ({ frames := 3, cells := 1, slots := 3, locals := 54 } : Room).slots s₁ (entryFrame m #[(.ref a1), (.ref a2)] 2)
  refine own_step (T' := s₁) (f' := (mkF m 0 #[.val (.ref a1), .val (.ref a2)] [])) (fun t k => castTop (ef_rm8_3 m a1 a2) k) ?_
  refine own_step (T' := s₁) (f' := (mkF m 1 #[.val (.ref a1), .val (.ref a2)] [(.ref a1)])) (fun t k => XS.aloadN X0.here hx rfl (hb hby d8_0) rfl rfl k) ?_
  refine own_step (T' := s₁) (f' := (mkF m 2 #[.val (.ref a1), .val (.ref a2)] [(.ref a2), (.ref a1)])) (fun t k => XS.aloadN X0.here hx rfl (hb hby d8_1) rfl rfl k) ?_
  refine own_step (T' := s₁) (f' := (mkF m 3 #[.val (.ref a1), .val (.ref a2)] [(.int (0 : Int32)), (.ref a2), (.ref a1)])) (fun t k => XS.iconst X0.here hx rfl (hb hby d8_2) k) ?_
  refine own_step (T' := s₁) (f' := (mkF m 4 #[.val (.ref a1), .val (.ref a2)] [(.ref a2), (.int (0 : Int32)), (.ref a2), (.ref a1)])) (fun t k => XS.aloadN X0.here hx rfl (hb hby d8_3) rfl rfl k) ?_
  obtain ⟨cl1, Ar1, q1, S1, M1, H1, G1⟩ := id V_a2
  refine own_step (T' := s₁) (f' := (mkF m 5 #[.val (.ref a1), .val (.ref a2)] [(.int (3 : Int32)), (.int (0 : Int32)), (.ref a2), (.ref a1)])) (fun t k => X0.arraylength hx (by rw [e0]; exact Ar1.1) (State.isArrayOf_alike hZ.alike Ar1.2.1) (g := (mkF m 4 #[.val (.ref a1), .val (.ref a2)] [(.ref a2), (.int (0 : Int32)), (.ref a2), (.ref a1)])) rfl rfl (hb hby d8_4) _ (by rw [len_of S1 M1]; exact k)) ?_
  refine own_step (T' := s₁) (f' := (mkF m 6 #[.val (.ref a1), .val (.ref a2)] [.null, (.int (3 : Int32)), (.int (0 : Int32)), (.ref a2), (.ref a1)])) (fun t k => XS.aconstNull X0.here hx rfl (hb hby d8_5) k) ?_
  obtain ⟨_, _, ⟨T2, L2, k2, n2⟩, -, X2, ⟨Lc2, hQ2, l2, y2, z2⟩, st2⟩ := X0.specialBack hx (y := (⟨"java/lang/String", "<init>", "([CIILjava/lang/Void;)V"⟩ : MethodName)) rfl hown (mvT hZ (hw _ (List.mem_of_getElem? (i := 46) rfl))) (mvT hZ (hw _ (List.mem_of_getElem? (i := 47) rfl))) (mvT hZ (hw _ (List.mem_of_getElem? (i := 49) rfl))) (by decide) (backOf (W := 0) (rm9_3 l Z a0 hw [] a1 a2 h0 n0 Zz E_a1 F_value_a1 F_coder_a1 g_a1 kc c0 c1 c2 hC0 hC1 hC2 V_a2 cs S_CS hcs n12) hZ (hw _ (List.mem_of_getElem? (i := 49) rfl)) (hw _ (List.mem_of_getElem? (i := 42) rfl)) (by decide) (by decide)) (g := (mkF m 6 #[.val (.ref a1), .val (.ref a2)] [.null, (.int (3 : Int32)), (.int (0 : Int32)), (.ref a2), (.ref a1)])) rfl (by rw [hml]; rfl) (Steps.refl _) (a := a1) (argsL := [(.ref a2), (.int (0 : Int32)), (.int (3 : Int32)), .null]) (rest := []) (lenOf pd_8_0 rfl) rfl (by show 2 * 0 + _ ≤ _; exact Nat.le_of_eq rfl) (hb hby d8_6) (fun _ _ => ⟨rfl, e0, (by decide : 0 + 1 ≤ _), (by decide : 0 + 3 ≤ _)⟩)
  dsimp only [Pt.U, Pt.locs, Pt.cells, Pt.slots] at X2 l2 y2 z2 st2 hQ2
  subst l2 y2 z2
  obtain ⟨rfl, N2q, K2, Ow2⟩ := hQ2
  have N2 := Fr.app N0 N2q
  refine own_step (T' := T2) (f' := (mkF m 9 #[.val (.ref a1), .val (.ref a2)] [])) (fun t k => st2.trans k) ?_
  exact own_retV X2 hx hlk Bd.returns (hb hby d8_9) (by decide) (by decide) ⟨rfl, N2, K2, Ow2⟩

theorem d7_65 : decode method_3_code 65 = .ok (.new 7, 3) := by decide +kernel
theorem d7_68 : decode method_3_code 68 = .ok (.dup, 1) := by decide +kernel
theorem d7_69 : decode method_3_code 69 = .ok (.iconst 3, 1) := by decide +kernel
theorem d7_70 : decode method_3_code 70 = .ok (.newarray .char, 2) := by decide +kernel
theorem d7_72 : decode method_3_code 72 = .ok (.dup, 1) := by decide +kernel
theorem d7_73 : decode method_3_code 73 = .ok (.iconst 0, 1) := by decide +kernel
theorem d7_74 : decode method_3_code 74 = .ok (.aload_n 1, 1) := by decide +kernel
theorem d7_75 : decode method_3_code 75 = .ok (.iconst 0, 1) := by decide +kernel
theorem d7_76 : decode method_3_code 76 = .ok (.caload, 1) := by decide +kernel
theorem d7_77 : decode method_3_code 77 = .ok (.castore, 1) := by decide +kernel
theorem d7_78 : decode method_3_code 78 = .ok (.dup, 1) := by decide +kernel
theorem d7_79 : decode method_3_code 79 = .ok (.iconst 1, 1) := by decide +kernel
theorem d7_80 : decode method_3_code 80 = .ok (.aload_n 1, 1) := by decide +kernel
theorem d7_81 : decode method_3_code 81 = .ok (.iconst 1, 1) := by decide +kernel
theorem d7_82 : decode method_3_code 82 = .ok (.caload, 1) := by decide +kernel
theorem d7_83 : decode method_3_code 83 = .ok (.castore, 1) := by decide +kernel
theorem d7_84 : decode method_3_code 84 = .ok (.dup, 1) := by decide +kernel
theorem d7_85 : decode method_3_code 85 = .ok (.iconst 2, 1) := by decide +kernel
theorem d7_86 : decode method_3_code 86 = .ok (.aload_n 1, 1) := by decide +kernel
theorem d7_87 : decode method_3_code 87 = .ok (.iconst 2, 1) := by decide +kernel
theorem d7_88 : decode method_3_code 88 = .ok (.caload, 1) := by decide +kernel
theorem d7_89 : decode method_3_code 89 = .ok (.castore, 1) := by decide +kernel
theorem d7_90 : decode method_3_code 90 = .ok (.invokespecial 9, 3) := by decide +kernel
theorem d7_93 : decode method_3_code 93 = .ok (.areturn, 1) := by decide +kernel
theorem ef_rm7_3 (m : MethodId) (x0 : Int32) (x1 : Addr) : entryFrame m #[(.int x0), (.ref x1)] 2 = mkF m 0 #[.val (.int x0), .val (.ref x1)] [] := by first | (simp [entryFrame, mkF, argsToLocals, Value.category]; done) | rfl
set_option maxRecDepth 65536 in
set_option maxHeartbeats 40000000 in
theorem rm7_3 (l : Launch) (Z : State) (a0 : Array Value) (hw : ∀ d ∈ tables_1, d.before a0 Z = true) (ws : List Jvm.Cond) (a2 : Addr) (h0 : Heap) (n0 : Nat) (Z0 : n0 ≤ h0.size) (c0 c1 c2 : Int32) (hC0 : OwnC c0) (hC1 : OwnC c1) (hC2 : OwnC c2) (ks : ClassId) (V_a2 : Arv Z h0 a2 ks .char (3 : Int32) [(.int c0), (.int c1), (.int c2)] (.int (0 : Int32))) (cs : Int32) (S_CS : Sta Z h0 "java/lang/String" "COMPACT_STRINGS" "Z" (.int cs)) (hcs : ¬ cs = (0 : Int32)) :
    MetFree l (⟨"com/example/lit2/lit2/weave/TexOutputDropFinalBreakPinLaw", "str", "(I[C)Ljava/lang/String;"⟩ : MethodName) (head1 (Jvm.Cond.code (⟨"com/example/lit2/lit2/weave/TexOutputDropFinalBreakPinLaw", "str", "(I[C)Ljava/lang/String;"⟩ : MethodName) method_3_code 2 (some (.object "java/lang/String")) :: ws) ({ frames := 4, cells := 3, slots := 10, locals := 70 } : Room)) (fun a U => a = #[(.int (3 : Int32)), (.ref a2)] ∧ Z.Warmed39 U.vm ∧ U.heap = h0) (fun _ _ _ _ _ => True) (fun _ U o U' => ∃ v L, o = .returned v ∧ Q7_3 Z c0 c1 c2 h0 n0 v U'.heap L ∧ FrameEnd U o U' L ({ frames := 4, cells := 3, slots := 10, locals := 70 } : Room).cells ({ frames := 4, cells := 3, slots := 10, locals := 70 } : Room).slots) := by
  refine MetFree.of_bodySF (plainFor_of_name pn_7) hisR ?_
  intro p e s m args below meth c s₁ Bd hml0 hP hK
  obtain ⟨rfl, hZ, hh⟩ := hP
  have hx := Bd.exec
  have hby := Bd.bytes
  have hlk : meth.locks = false := BodyLoose.notSynchronized Bd
  have hml : c.maxLocals = 2 := hml0
  have hown : s.vm.findClass "com/example/lit2/lit2/weave/TexOutputDropFinalBreakPinLaw" = some m.cls := findClass_of_methodNamed Bd.named
  have hnm := (name_of_methodNamed Bd.named Bd.method).1
  have X0 : Stand p l e ({ frames := 4, cells := 3, slots := 10, locals := 70 } : Room) s m #[(.int (3 : Int32)), (.ref a2)] below meth c s₁ [] 0 0 := Stand.of_body Bd
  have e0 : s₁.heap = h0 := by rw [← hh, Bd.state]; rfl
  have N0 := Fr.nil n0
  have Zz := Z0
  have Kp : Keep h0 h0 [] := Keep.refl _ _
  show OwnEnds p e below s (Q7_3 Z c0 c1 c2 h0 n0) ({ frames := 4, cells := 3, slots := 10, locals := 70 } : Room).cells ({ frames := 4, cells := 3, slots := 10, locals := 70 } : Room).slots s₁ (entryFrame m #[(.int (3 : Int32)), (.ref a2)] 2)
  refine own_step (T' := s₁) (f' := (mkF m 0 #[.val (.int (3 : Int32)), .val (.ref a2)] [])) (fun t k => castTop (ef_rm7_3 m (3 : Int32) a2) k) ?_
  refine own_step (T' := s₁) (f' := (mkF m 1 #[.val (.int (3 : Int32)), .val (.ref a2)] [(.int (3 : Int32))])) (fun t k => XS.iloadN X0.here hx rfl (hb hby d7_0) rfl k) ?_
  refine own_step (T' := s₁) (f' := (mkF m 15 #[.val (.int (3 : Int32)), .val (.ref a2)] [])) (fun t k => XS.ifYes X0.here hx rfl (pc0 := 1) (pc' := 15) rfl (hb hby d7_1) rfl ((if0 _ _).trans (tlt (by decide : (0 : Int32) < (3 : Int32))).2.2.1) (by decide) (by decide) k) ?_
  refine own_step (T' := s₁) (f' := (mkF m 16 #[.val (.int (3 : Int32)), .val (.ref a2)] [(.int (3 : Int32))])) (fun t k => XS.iloadN X0.here hx rfl (hb hby d7_15) rfl k) ?_
  refine own_step (T' := s₁) (f' := (mkF m 17 #[.val (.int (3 : Int32)), .val (.ref a2)] [(.int (1 : Int32)), (.int (3 : Int32))])) (fun t k => XS.iconst X0.here hx rfl (hb hby d7_16) k) ?_
  refine own_step (T' := s₁) (f' := (mkF m 37 #[.val (.int (3 : Int32)), .val (.ref a2)] [])) (fun t k => XS.icmpYes X0.here hx rfl (pc0 := 17) (pc' := 37) rfl (hb hby d7_17) rfl (feq (by decide : ¬ ((3 : Int32) = (1 : Int32)))).2 (by decide) (by decide) k) ?_
  refine own_step (T' := s₁) (f' := (mkF m 38 #[.val (.int (3 : Int32)), .val (.ref a2)] [(.int (3 : Int32))])) (fun t k => XS.iloadN X0.here hx rfl (hb hby d7_37) rfl k) ?_
  refine own_step (T' := s₁) (f' := (mkF m 39 #[.val (.int (3 : Int32)), .val (.ref a2)] [(.int (2 : Int32)), (.int (3 : Int32))])) (fun t k => XS.iconst X0.here hx rfl (hb hby d7_38) k) ?_
  refine own_step (T' := s₁) (f' := (mkF m 65 #[.val (.int (3 : Int32)), .val (.ref a2)] [])) (fun t k => XS.icmpYes X0.here hx rfl (pc0 := 39) (pc' := 65) rfl (hb hby d7_39) rfl (feq (by decide : ¬ ((3 : Int32) = (2 : Int32)))).2 (by decide) (by decide) k) ?_
  obtain ⟨T1, h1, X1, e1, E1, A1, D1, -, st1⟩ := newO X0 hx hZ hown (hw _ (List.mem_of_getElem? (i := 40) rfl)) (hw _ (List.mem_of_getElem? (i := 41) rfl)) (hw _ (List.mem_of_getElem? (i := 42) rfl)) e0 (g := (mkF m 65 #[.val (.int (3 : Int32)), .val (.ref a2)] [])) rfl (hb hby d7_65) (by decide) (by decide)
  obtain ⟨b1, g1⟩ : ∃ z, z = h0.size := ⟨_, rfl⟩
  rw [← g1] at A1 D1 st1
  have ne_a2_b1 : a2 ≠ b1 := Nat.ne_of_lt (Nat.lt_of_lt_of_le V_a2.lt (Nat.le_of_eq g1.symm))
  have g_b1 : n0 ≤ b1 := Nat.le_trans Zz (Nat.le_of_eq g1.symm)
  have sz_b1 : h0.size ≤ b1 := Nat.le_trans Kp.1 (Nat.le_of_eq g1.symm)
  replace V_a2 := V_a2.ext E1
  replace S_CS := S_CS.ext E1
  replace Zz := Nat.le_trans Zz E1.1
  replace Kp := Kp.ext E1
  have E_b1 := A1
  have F_coder_b1 : Fld Z h1 b1 "java/lang/String" "coder" "B" (.int (0 : Int32)) := D1 (Or.inr (hw _ (List.mem_of_getElem? (i := 63) rfl))) (ty := .byte) (by decide)
  have F_value_b1 : Fld Z h1 b1 "java/lang/String" "value" "[B" .null := D1 (Or.inr (hw _ (List.mem_of_getElem? (i := 65) rfl))) (ty := (.array .byte)) (by decide)
  refine own_step (T' := T1) (f' := (mkF m 68 #[.val (.int (3 : Int32)), .val (.ref a2)] [(.ref b1)])) (fun t k => st1 t k) ?_
  refine own_step (T' := T1) (f' := (mkF m 69 #[.val (.int (3 : Int32)), .val (.ref a2)] [(.ref b1), (.ref b1)])) (fun t k => XS.dup X1.here hx rfl (hb hby d7_68) rfl rfl k) ?_
  refine own_step (T' := T1) (f' := (mkF m 70 #[.val (.int (3 : Int32)), .val (.ref a2)] [(.int (3 : Int32)), (.ref b1), (.ref b1)])) (fun t k => XS.iconst X1.here hx rfl (hb hby d7_69) k) ?_
  obtain ⟨T2, h2, k2, X2, e2, E2, A2, EX2, st2⟩ := newPE X1 hx hZ (hw _ (List.mem_of_getElem? (i := 0) rfl)) e1 (g := (mkF m 70 #[.val (.int (3 : Int32)), .val (.ref a2)] [(.int (3 : Int32)), (.ref b1), (.ref b1)])) rfl (hb hby d7_70) rfl (by decide) (cap := 3) (by decide) (by decide) (by decide) (by decide) (ad := "[C") rfl
  obtain ⟨b2, g2⟩ : ∃ z, z = h1.size := ⟨_, rfl⟩
  rw [← g2] at A2 EX2 st2
  have ne_a2_b2 : a2 ≠ b2 := Nat.ne_of_lt (Nat.lt_of_lt_of_le V_a2.lt (Nat.le_of_eq g2.symm))
  have ne_b1_b2 : b1 ≠ b2 := Nat.ne_of_lt (Nat.lt_of_lt_of_le E_b1.lt (Nat.le_of_eq g2.symm))
  have g_b2 : n0 ≤ b2 := Nat.le_trans Zz (Nat.le_of_eq g2.symm)
  have sz_b2 : h0.size ≤ b2 := Nat.le_trans Kp.1 (Nat.le_of_eq g2.symm)
  replace V_a2 := V_a2.ext E2
  replace S_CS := S_CS.ext E2
  replace E_b1 := E_b1.ext E2
  replace F_coder_b1 := F_coder_b1.ext E2
  replace F_value_b1 := F_value_b1.ext E2
  replace Zz := Nat.le_trans Zz E2.1
  replace Kp := Kp.ext E2
  have V_b2 : Arv Z h2 b2 k2 .char (3 : Int32) [(.int (0 : Int32)), (.int (0 : Int32)), (.int (0 : Int32))] (.int (0 : Int32)) := (Arv.new A2 (by decide)).pad (pad_rep [] (.int (0 : Int32)) 3)
  have EX_b2 := EX2
  refine own_step (T' := T2) (f' := (mkF m 72 #[.val (.int (3 : Int32)), .val (.ref a2)] [(.ref b2), (.ref b1), (.ref b1)])) (fun t k => st2 t k) ?_
  refine own_step (T' := T2) (f' := (mkF m 73 #[.val (.int (3 : Int32)), .val (.ref a2)] [(.ref b2), (.ref b2), (.ref b1), (.ref b1)])) (fun t k => XS.dup X2.here hx rfl (hb hby d7_72) rfl rfl k) ?_
  refine own_step (T' := T2) (f' := (mkF m 74 #[.val (.int (3 : Int32)), .val (.ref a2)] [(.int (0 : Int32)), (.ref b2), (.ref b2), (.ref b1), (.ref b1)])) (fun t k => XS.iconst X2.here hx rfl (hb hby d7_73) k) ?_
  refine own_step (T' := T2) (f' := (mkF m 75 #[.val (.int (3 : Int32)), .val (.ref a2)] [(.ref a2), (.int (0 : Int32)), (.ref b2), (.ref b2), (.ref b1), (.ref b1)])) (fun t k => XS.aloadN X2.here hx rfl (hb hby d7_74) rfl rfl k) ?_
  refine own_step (T' := T2) (f' := (mkF m 76 #[.val (.int (3 : Int32)), .val (.ref a2)] [(.int (0 : Int32)), (.ref a2), (.int (0 : Int32)), (.ref b2), (.ref b2), (.ref b1), (.ref b1)])) (fun t k => XS.iconst X2.here hx rfl (hb hby d7_75) k) ?_
  obtain ⟨cl3, Ar3, q3, S3, M3, H3, G3⟩ := id V_a2
  have hin3 : ¬ ((0 : Int32) < 0 ∨ cl3.slots.size ≤ ((0 : Int32)).toNatClampNeg) := inb_of S3 ⟨by decide, by decide⟩
  have hat3 : cl3.slots[((0 : Int32)).toNatClampNeg]? = some (.int c0) := own_at hin3 H3 0 rfl rfl
  refine own_step (T' := T2) (f' := (mkF m 77 #[.val (.int (3 : Int32)), .val (.ref a2)] [(.int c0), (.int (0 : Int32)), (.ref b2), (.ref b2), (.ref b1), (.ref b1)])) (fun t k => X2.caload hx (j := (0 : Int32)) (v := (.int c0)) (by rw [e2]; exact Ar3.1) (State.isArrayOf_alike hZ.alike Ar3.2.1) Ar3.2.2 hin3 hat3 (g := (mkF m 76 #[.val (.int (3 : Int32)), .val (.ref a2)] [(.int (0 : Int32)), (.ref a2), (.int (0 : Int32)), (.ref b2), (.ref b2), (.ref b1), (.ref b1)])) rfl rfl (hb hby d7_76) _ k) ?_
  obtain ⟨cl4, Ar4, q4, S4, M4, H4, G4⟩ := V_b2
  have hin4 : ¬ ((0 : Int32) < 0 ∨ cl4.slots.size ≤ ((0 : Int32)).toNatClampNeg) := inb_of S4 ⟨by decide, by decide⟩
  obtain ⟨T4, h4, X4, e4, W4, st4⟩ := stC X2 hx hZ e2 Ar4 (j := (0 : Int32)) hin4 (g := (mkF m 77 #[.val (.int (3 : Int32)), .val (.ref a2)] [(.int c0), (.int (0 : Int32)), (.ref b2), (.ref b2), (.ref b1), (.ref b1)])) rfl rfl (hb hby d7_77)
  have V_b2 : Arv Z h4 b2 k2 .char (3 : Int32) [(.int c0), (.int (0 : Int32)), (.int (0 : Int32))] (.int (0 : Int32)) := by have q := Arv.set Ar4 q4 S4 M4 H4 G4 (fits_nar_char _) W4 0 rfl (Nat.le_of_ble_eq_true rfl); rw [own_nc hC0] at q; exact q
  replace V_a2 := V_a2.other W4 ne_a2_b2
  replace S_CS := S_CS.wr W4
  replace E_b1 := E_b1.wr W4
  replace F_coder_b1 := F_coder_b1.other W4 (Or.inl ne_b1_b2)
  replace F_value_b1 := F_value_b1.other W4 (Or.inl ne_b1_b2)
  replace EX_b2 := EX_b2.wr W4
  replace Zz := Nat.le_trans Zz (Keep.of_wr W4).1
  replace Kp := Kp.wr W4 (Or.inr sz_b2)
  have N4 := Fr.snoc X4 N0 g_b2
  refine own_step (T' := T4) (f' := (mkF m 78 #[.val (.int (3 : Int32)), .val (.ref a2)] [(.ref b2), (.ref b1), (.ref b1)])) (fun t k => st4 t k) ?_
  refine own_step (T' := T4) (f' := (mkF m 79 #[.val (.int (3 : Int32)), .val (.ref a2)] [(.ref b2), (.ref b2), (.ref b1), (.ref b1)])) (fun t k => XS.dup X4.here hx rfl (hb hby d7_78) rfl rfl k) ?_
  refine own_step (T' := T4) (f' := (mkF m 80 #[.val (.int (3 : Int32)), .val (.ref a2)] [(.int (1 : Int32)), (.ref b2), (.ref b2), (.ref b1), (.ref b1)])) (fun t k => XS.iconst X4.here hx rfl (hb hby d7_79) k) ?_
  refine own_step (T' := T4) (f' := (mkF m 81 #[.val (.int (3 : Int32)), .val (.ref a2)] [(.ref a2), (.int (1 : Int32)), (.ref b2), (.ref b2), (.ref b1), (.ref b1)])) (fun t k => XS.aloadN X4.here hx rfl (hb hby d7_80) rfl rfl k) ?_
  refine own_step (T' := T4) (f' := (mkF m 82 #[.val (.int (3 : Int32)), .val (.ref a2)] [(.int (1 : Int32)), (.ref a2), (.int (1 : Int32)), (.ref b2), (.ref b2), (.ref b1), (.ref b1)])) (fun t k => XS.iconst X4.here hx rfl (hb hby d7_81) k) ?_
  obtain ⟨cl5, Ar5, q5, S5, M5, H5, G5⟩ := id V_a2
  have hin5 : ¬ ((1 : Int32) < 0 ∨ cl5.slots.size ≤ ((1 : Int32)).toNatClampNeg) := inb_of S5 ⟨by decide, by decide⟩
  have hat5 : cl5.slots[((1 : Int32)).toNatClampNeg]? = some (.int c1) := own_at hin5 H5 1 rfl rfl
  refine own_step (T' := T4) (f' := (mkF m 83 #[.val (.int (3 : Int32)), .val (.ref a2)] [(.int c1), (.int (1 : Int32)), (.ref b2), (.ref b2), (.ref b1), (.ref b1)])) (fun t k => X4.caload hx (j := (1 : Int32)) (v := (.int c1)) (by rw [e4]; exact Ar5.1) (State.isArrayOf_alike hZ.alike Ar5.2.1) Ar5.2.2 hin5 hat5 (g := (mkF m 82 #[.val (.int (3 : Int32)), .val (.ref a2)] [(.int (1 : Int32)), (.ref a2), (.int (1 : Int32)), (.ref b2), (.ref b2), (.ref b1), (.ref b1)])) rfl rfl (hb hby d7_82) _ k) ?_
  obtain ⟨cl6, Ar6, q6, S6, M6, H6, G6⟩ := V_b2
  have hin6 : ¬ ((1 : Int32) < 0 ∨ cl6.slots.size ≤ ((1 : Int32)).toNatClampNeg) := inb_of S6 ⟨by decide, by decide⟩
  obtain ⟨T6, h6, X6, e6, W6, st6⟩ := stC X4 hx hZ e4 Ar6 (j := (1 : Int32)) hin6 (g := (mkF m 83 #[.val (.int (3 : Int32)), .val (.ref a2)] [(.int c1), (.int (1 : Int32)), (.ref b2), (.ref b2), (.ref b1), (.ref b1)])) rfl rfl (hb hby d7_83)
  have V_b2 : Arv Z h6 b2 k2 .char (3 : Int32) [(.int c0), (.int c1), (.int (0 : Int32))] (.int (0 : Int32)) := by have q := Arv.set Ar6 q6 S6 M6 H6 G6 (fits_nar_char _) W6 1 rfl (Nat.le_of_ble_eq_true rfl); rw [own_nc hC1] at q; exact q
  replace V_a2 := V_a2.other W6 ne_a2_b2
  replace S_CS := S_CS.wr W6
  replace E_b1 := E_b1.wr W6
  replace F_coder_b1 := F_coder_b1.other W6 (Or.inl ne_b1_b2)
  replace F_value_b1 := F_value_b1.other W6 (Or.inl ne_b1_b2)
  replace EX_b2 := EX_b2.wr W6
  replace Zz := Nat.le_trans Zz (Keep.of_wr W6).1
  replace Kp := Kp.wr W6 (Or.inr sz_b2)
  have N6 := Fr.snoc X6 N4 g_b2
  refine own_step (T' := T6) (f' := (mkF m 84 #[.val (.int (3 : Int32)), .val (.ref a2)] [(.ref b2), (.ref b1), (.ref b1)])) (fun t k => st6 t k) ?_
  refine own_step (T' := T6) (f' := (mkF m 85 #[.val (.int (3 : Int32)), .val (.ref a2)] [(.ref b2), (.ref b2), (.ref b1), (.ref b1)])) (fun t k => XS.dup X6.here hx rfl (hb hby d7_84) rfl rfl k) ?_
  refine own_step (T' := T6) (f' := (mkF m 86 #[.val (.int (3 : Int32)), .val (.ref a2)] [(.int (2 : Int32)), (.ref b2), (.ref b2), (.ref b1), (.ref b1)])) (fun t k => XS.iconst X6.here hx rfl (hb hby d7_85) k) ?_
  refine own_step (T' := T6) (f' := (mkF m 87 #[.val (.int (3 : Int32)), .val (.ref a2)] [(.ref a2), (.int (2 : Int32)), (.ref b2), (.ref b2), (.ref b1), (.ref b1)])) (fun t k => XS.aloadN X6.here hx rfl (hb hby d7_86) rfl rfl k) ?_
  refine own_step (T' := T6) (f' := (mkF m 88 #[.val (.int (3 : Int32)), .val (.ref a2)] [(.int (2 : Int32)), (.ref a2), (.int (2 : Int32)), (.ref b2), (.ref b2), (.ref b1), (.ref b1)])) (fun t k => XS.iconst X6.here hx rfl (hb hby d7_87) k) ?_
  obtain ⟨cl7, Ar7, q7, S7, M7, H7, G7⟩ := id V_a2
  have hin7 : ¬ ((2 : Int32) < 0 ∨ cl7.slots.size ≤ ((2 : Int32)).toNatClampNeg) := inb_of S7 ⟨by decide, by decide⟩
  have hat7 : cl7.slots[((2 : Int32)).toNatClampNeg]? = some (.int c2) := own_at hin7 H7 2 rfl rfl
  refine own_step (T' := T6) (f' := (mkF m 89 #[.val (.int (3 : Int32)), .val (.ref a2)] [(.int c2), (.int (2 : Int32)), (.ref b2), (.ref b2), (.ref b1), (.ref b1)])) (fun t k => X6.caload hx (j := (2 : Int32)) (v := (.int c2)) (by rw [e6]; exact Ar7.1) (State.isArrayOf_alike hZ.alike Ar7.2.1) Ar7.2.2 hin7 hat7 (g := (mkF m 88 #[.val (.int (3 : Int32)), .val (.ref a2)] [(.int (2 : Int32)), (.ref a2), (.int (2 : Int32)), (.ref b2), (.ref b2), (.ref b1), (.ref b1)])) rfl rfl (hb hby d7_88) _ k) ?_
  obtain ⟨cl8, Ar8, q8, S8, M8, H8, G8⟩ := V_b2
  have hin8 : ¬ ((2 : Int32) < 0 ∨ cl8.slots.size ≤ ((2 : Int32)).toNatClampNeg) := inb_of S8 ⟨by decide, by decide⟩
  obtain ⟨T8, h8, X8, e8, W8, st8⟩ := stC X6 hx hZ e6 Ar8 (j := (2 : Int32)) hin8 (g := (mkF m 89 #[.val (.int (3 : Int32)), .val (.ref a2)] [(.int c2), (.int (2 : Int32)), (.ref b2), (.ref b2), (.ref b1), (.ref b1)])) rfl rfl (hb hby d7_89)
  have V_b2 : Arv Z h8 b2 k2 .char (3 : Int32) [(.int c0), (.int c1), (.int c2)] (.int (0 : Int32)) := by have q := Arv.set Ar8 q8 S8 M8 H8 G8 (fits_nar_char _) W8 2 rfl (Nat.le_of_ble_eq_true rfl); rw [own_nc hC2] at q; exact q
  replace V_a2 := V_a2.other W8 ne_a2_b2
  replace S_CS := S_CS.wr W8
  replace E_b1 := E_b1.wr W8
  replace F_coder_b1 := F_coder_b1.other W8 (Or.inl ne_b1_b2)
  replace F_value_b1 := F_value_b1.other W8 (Or.inl ne_b1_b2)
  replace EX_b2 := EX_b2.wr W8
  replace Zz := Nat.le_trans Zz (Keep.of_wr W8).1
  replace Kp := Kp.wr W8 (Or.inr sz_b2)
  have N8 := Fr.snoc X8 N6 g_b2
  refine own_step (T' := T8) (f' := (mkF m 90 #[.val (.int (3 : Int32)), .val (.ref a2)] [(.ref b2), (.ref b1), (.ref b1)])) (fun t k => st8 t k) ?_
  obtain ⟨_, _, ⟨T9, L9, k9, n9⟩, -, X9, ⟨Lc9, hQ9, l9, y9, z9⟩, st9⟩ := X8.specialBack hx (y := (⟨"java/lang/String", "<init>", "([C)V"⟩ : MethodName)) rfl hown (mvT hZ (hw _ (List.mem_of_getElem? (i := 43) rfl))) (mvT hZ (hw _ (List.mem_of_getElem? (i := 44) rfl))) (mvT hZ (hw _ (List.mem_of_getElem? (i := 45) rfl))) (by decide) (backOf (W := 1) (rm8_3 l Z a0 hw [] b1 b2 h8 n0 Zz E_b1 F_value_b1 F_coder_b1 g_b1 k2 c0 c1 c2 hC0 hC1 hC2 V_b2 cs S_CS hcs ne_b1_b2) hZ (hw _ (List.mem_of_getElem? (i := 45) rfl)) (hw _ (List.mem_of_getElem? (i := 42) rfl)) (by decide) (by decide)) (g := (mkF m 90 #[.val (.int (3 : Int32)), .val (.ref a2)] [(.ref b2), (.ref b1), (.ref b1)])) rfl (by rw [hml]; rfl) (Steps.refl _) (a := b1) (argsL := [(.ref b2)]) (rest := [(.ref b1)]) (lenOf pd_7_0 rfl) rfl (by show 2 * 0 + _ ≤ _; exact Nat.le_of_eq rfl) (hb hby d7_90) (fun _ _ => ⟨rfl, e8, (by decide : 2 + 1 ≤ _), (by decide : 7 + 3 ≤ _)⟩)
  dsimp only [Pt.U, Pt.locs, Pt.cells, Pt.slots] at X9 l9 y9 z9 st9 hQ9
  subst l9 y9 z9
  obtain ⟨rfl, N9q, K9, sb9, sk9, Os9⟩ := hQ9
  have N9 := Fr.app N8 N9q
  replace S_CS := own_sta_keep S_CS K9 (allS ⟨_, E_b1⟩ all0)
  replace V_a2 := V_a2.keep K9 (ninS ne_a2_b1 nin0)
  replace E_b1 := E_b1.keep K9
  replace V_b2 := V_b2.keep K9 (ninS (Ne.symm ne_b1_b2) nin0)
  replace EX_b2 := EX_b2.keep K9
  replace Zz := Nat.le_trans Zz K9.1
  replace Kp := Kp.trans K9 (allS (Or.inr sz_b1) all0)
  refine own_step (T' := T9) (f' := (mkF m 93 #[.val (.int (3 : Int32)), .val (.ref a2)] [(.ref b1)])) (fun t k => st9.trans k) ?_
  exact own_retO X9 hx hlk Bd.returns rfl (Or.inr (Or.inr (Or.inr (Or.inr ⟨rfl, rfl, rfl⟩)))) (hb hby d7_93) (by decide) (by decide) ⟨b1, sb9, sk9, rfl, N9, Kp, Os9⟩

theorem pn_0 : plainName "com/example/lit2/lit2/weave/TexOutputDropFinalBreakPinLaw" = true := by first | (simp [plainName, overriddenIn]; done) | decide +kernel
theorem pd_0_0 : parseMethodDescriptor "(I)C" = some ⟨[.int], some .char⟩ := by decide +kernel
theorem pd_0_1 : parseMethodDescriptor "()V" = some ⟨[], none⟩ := by decide +kernel
theorem pd_0_2 : parseMethodDescriptor "()I" = some ⟨[], some .int⟩ := by decide +kernel
theorem pd_0_3 : parseMethodDescriptor "(I[C)Ljava/lang/String;" = some ⟨[.int, (.array .char)], some (.object "java/lang/String")⟩ := by decide +kernel
theorem pd_0_4 : parseMethodDescriptor "(Ljava/lang/String;)Z" = some ⟨[(.object "java/lang/String")], some .boolean⟩ := by decide +kernel
theorem pd_0_5 : parseMethodDescriptor "(C)V" = some ⟨[.char], none⟩ := by decide +kernel
theorem ef_rm0 (m : MethodId) (x0 : Int32) (x1 : Int32) (x2 : Int32) (x3 : Int32) : entryFrame m #[(.int x0), (.int x1), (.int x2), (.int x3)] maxLocals = mkF m 0 #[.val (.int x0), .val (.int x1), .val (.int x2), .val (.int x3), .unset, .unset, .unset, .unset] [] := by first | (simp [entryFrame, mkF, argsToLocals, Value.category, maxLocals]; done) | rfl
def Q0 (n0 : Nat) (v : Option Value) (h : Heap) (L : List Loc) : Prop := v = some (.int 1) ∧ Fr n0 L
set_option maxRecDepth 65536 in
set_option maxHeartbeats 40000000 in
theorem rm0 (l : Launch) (Z : State) (a0 : Array Value) (hw : ∀ d ∈ tables_1, d.before a0 Z = true) (ws : List Jvm.Cond) (p1 : Int32) (p2 : Int32) (p3 : Int32) (p4 : Int32) (h0 : Heap) (n0 : Nat) (Z0 : n0 ≤ h0.size) (cs : Int32) (S_CS : Sta Z h0 "java/lang/String" "COMPACT_STRINGS" "Z" (.int cs)) (hcs : ¬ cs = (0 : Int32)) (fm : Value) (S_FM : Sta Z h0 "jdk/internal/util/Preconditions" "SIOOBE_FORMATTER" "Ljava/util/function/BiFunction;" fm) (hfc : fm.category = 1) (hfr : fm.isRef = true) (hEL : EW Z a0 ownEL) (hn0 : n0 = Z.heap.size) (hCH : CHv Z ownEL Z.vm Z.heap) (hh0 : h0 = Z.heap) :
    MetFree l x (head1 (Jvm.Cond.code x code maxLocals ret :: ws) room_1) (fun a U => a = #[(.int p1), (.int p2), (.int p3), (.int p4)] ∧ U = Z ∧ U.heap = h0) (fun _ _ _ _ _ => True) (fun _ U o U' => ∃ v L, o = .returned v ∧ Q0 n0 v U'.heap L ∧ ReturnedEndW U o U' L room_1.cells room_1.slots) := by
  refine MetFree.of_bodySF (plainFor_of_name pn_0) hisR ?_
  intro p e s m args below meth c s₁ Bd hml0 hP hK
  obtain ⟨rfl, hUZ, hh⟩ := hP
  have hZ : Z.Warmed39 s.vm := by rw [hUZ]; exact State.Warmed39.refl Z
  have hx := Bd.exec
  have hby := Bd.bytes
  have hlk : meth.locks = false := BodyLoose.notSynchronized Bd
  have hml : c.maxLocals = 8 := hml0
  have hown : s.vm.findClass "com/example/lit2/lit2/weave/TexOutputDropFinalBreakPinLaw" = some m.cls := findClass_of_methodNamed Bd.named
  have hnm := (name_of_methodNamed Bd.named Bd.method).1
  have X0 : Stand p l e room_1 s m #[(.int p1), (.int p2), (.int p3), (.int p4)] below meth c s₁ [] 0 0 := Stand.of_body Bd
  have e0 : s₁.heap = h0 := by rw [← hh, Bd.state]; rfl
  have N0 := Fr.nil n0
  have Zz := Z0
  have Kp : Keep h0 h0 [] := Keep.refl _ _
  have own_chv : ∀ {hh : Heap}, Keep h0 hh [] → CHv Z ownEL s.vm hh := fun K => by rw [hUZ]; exact (hh0 ▸ hCH).keep K all0
  show OwnEndsW p e below s (Q0 n0) room_1.cells room_1.slots s₁ (entryFrame m #[(.int p1), (.int p2), (.int p3), (.int p4)] maxLocals)
  refine ownW_step (T' := s₁) (f' := (mkF m 0 #[.val (.int p1), .val (.int p2), .val (.int p3), .val (.int p4), .unset, .unset, .unset, .unset] [])) (fun t k => castTop (ef_rm0 m p1 p2 p3 p4) k) ?_
  refine ownW_step (T' := s₁) (f' := (mkF m 1 #[.val (.int p1), .val (.int p2), .val (.int p3), .val (.int p4), .unset, .unset, .unset, .unset] [(.int p4)])) (fun t k => XS.iloadN X0.here hx rfl (hb hby at_0) rfl k) ?_
  refine ownW_step (T' := s₁) (f' := (mkF m 2 #[.val (.int p1), .val (.int p2), .val (.int p3), .val (.int p4), .unset, .unset, .unset, .unset] [(.int (3 : Int32)), (.int p4)])) (fun t k => XS.iconst X0.here hx rfl (hb hby at_1) k) ?_
  refine ownW_step (T' := s₁) (f' := (mkF m 3 #[.val (.int p1), .val (.int p2), .val (.int p3), .val (.int p4), .unset, .unset, .unset, .unset] [(.int (p4 &&& (3 : Int32)))])) (fun t k => XS.iand X0.here hx rfl (hb hby at_2) rfl k) ?_
  let F1 : Nat → List Value → JFrame := fun a b => mkF m a #[.val (.int p1), .val (.int p2), .val (.int p3), .val (.int p4), .val (.int (p4 &&& (3 : Int32))), .unset, .unset, .unset] b
  refine ownW_step (T' := s₁) (f' := (F1 5 [])) (fun t k => XS.istore X0.here hx rfl (hb hby at_3) rfl (l' := #[.val (.int p1), .val (.int p2), .val (.int p3), .val (.int p4), .val (.int (p4 &&& (3 : Int32))), .unset, .unset, .unset]) rfl k) ?_
  have J5_2 : ∀ (T_2 : State) (l_2 : List Loc) (X_2 : Stand p l e room_1 s m #[(.int p1), (.int p2), (.int p3), (.int p4)] below meth c T_2 l_2 0 0) (e_2 : T_2.heap = h0) (N_2 : Fr n0 l_2) (nn : Int32) (hnn : nn = 0 ∨ nn = 1 ∨ nn = 2 ∨ nn = 3), OwnEndsW p e below s (Q0 n0) room_1.cells room_1.slots T_2 (mkF m 5 #[.val (.int p1), .val (.int p2), .val (.int p3), .val (.int p4), .val (.int nn), .unset, .unset, .unset] []) := by
    intro T_2 l_2 X_2 e_2 N_2 nn hnn
    rcases hnn with rfl | rfl | rfl | rfl
    · skip
      let F3 : Nat → List Value → JFrame := fun a b => mkF m a #[.val (.int p1), .val (.int p2), .val (.int p3), .val (.int p4), .val (.int (0 : Int32)), .unset, .unset, .unset] b
      refine ownW_step (T' := T_2) (f' := (F3 6 [(.int (3 : Int32))])) (fun t k => XS.iconst X_2.here hx rfl (hb hby at_5) k) ?_
      obtain ⟨T4, h4, k4, X4, e4, E4, A4, EX4, st4⟩ := newPE X_2 hx hZ (hw _ (List.mem_of_getElem? (i := 0) rfl)) e_2 (g := (F3 6 [(.int (3 : Int32))])) rfl (hb hby at_6) rfl (by decide) (cap := 3) (by decide) (by decide) (by decide) (by decide) (ad := "[C") rfl
      obtain ⟨b4, g4⟩ : ∃ z, z = h0.size := ⟨_, rfl⟩
      rw [← g4] at A4 EX4 st4
      have g_b4 : n0 ≤ b4 := Nat.le_trans Zz (Nat.le_of_eq g4.symm)
      have sz_b4 : h0.size ≤ b4 := Nat.le_trans Kp.1 (Nat.le_of_eq g4.symm)
      replace S_CS := S_CS.ext E4
      replace S_FM := S_FM.ext E4
      replace Zz := Nat.le_trans Zz E4.1
      replace Kp := Kp.ext E4
      have V_b4 : Arv Z h4 b4 k4 .char (3 : Int32) [(.int (0 : Int32)), (.int (0 : Int32)), (.int (0 : Int32))] (.int (0 : Int32)) := (Arv.new A4 (by decide)).pad (pad_rep [] (.int (0 : Int32)) 3)
      have EX_b4 := EX4
      refine ownW_step (T' := T4) (f' := (F3 8 [(.ref b4)])) (fun t k => st4 t k) ?_
      refine ownW_step (T' := T4) (f' := (F3 9 [(.ref b4), (.ref b4)])) (fun t k => XS.dup X4.here hx rfl (hb hby at_8) rfl rfl k) ?_
      refine ownW_step (T' := T4) (f' := (F3 10 [(.int (0 : Int32)), (.ref b4), (.ref b4)])) (fun t k => XS.iconst X4.here hx rfl (hb hby at_9) k) ?_
      refine ownW_step (T' := T4) (f' := (F3 11 [(.int p1), (.int (0 : Int32)), (.ref b4), (.ref b4)])) (fun t k => XS.iloadN X4.here hx rfl (hb hby at_10) rfl k) ?_
      obtain ⟨_, _, ⟨T5, L5, k5, n5⟩, -, X5, ⟨Lc5, hQ5, l5, y5, z5⟩, st5⟩ := Jvm.LawKit.callS X4 hx (y := (⟨"com/example/lit2/lit2/weave/TexOutputDropFinalBreakPinLaw", "pick", "(I)C"⟩ : MethodName)) hown (mvT hZ (hw _ (List.mem_of_getElem? (i := 1) rfl))) (mvT hZ (hw _ (List.mem_of_getElem? (i := 2) rfl))) (mvT hZ (hw _ (List.mem_of_getElem? (i := 3) rfl))) (mvT hZ (hw _ (List.mem_of_getElem? (i := 4) rfl))) (by decide) (backOf (W := 3) (rm1 l Z a0 hw [] p1 h4 n0 Zz) hZ (hw _ (List.mem_of_getElem? (i := 4) rfl)) (hw _ (List.mem_of_getElem? (i := 3) rfl)) (by decide) (by decide)) (g := (F3 11 [(.int p1), (.int (0 : Int32)), (.ref b4), (.ref b4)])) rfl (by rw [hml]; rfl) (argsL := [(.int p1)]) (rest := [(.int (0 : Int32)), (.ref b4), (.ref b4)]) (lenOf pd_0_0 rfl) rfl (by show 2 * 0 + _ ≤ _; exact Nat.le_of_eq rfl) (hb hby at_11) (fun _ _ => ⟨rfl, e4, (by decide : 1 + 0 ≤ _), (by decide : 3 + 0 ≤ _)⟩)
      dsimp only [Pt.U, Pt.locs, Pt.cells, Pt.slots] at X5 l5 y5 z5 st5 hQ5
      subst l5 y5 z5
      obtain ⟨c5, rfl, N5q, E5, hC5⟩ := hQ5
      have N5 := Fr.app N_2 N5q
      refine ownW_step (T' := T5) (f' := (F3 14 [(.int c5), (.int (0 : Int32)), (.ref b4), (.ref b4)])) (fun t k => st5 t k) ?_
      obtain ⟨cl6, Ar6, q6, S6, M6, H6, G6⟩ := V_b4
      have hin6 : ¬ ((0 : Int32) < 0 ∨ cl6.slots.size ≤ ((0 : Int32)).toNatClampNeg) := inb_of S6 ⟨by decide, by decide⟩
      obtain ⟨T6, h6, X6, e6, W6, st6⟩ := stC X5 hx hZ E5 Ar6 (j := (0 : Int32)) hin6 (g := (F3 14 [(.int c5), (.int (0 : Int32)), (.ref b4), (.ref b4)])) rfl rfl (hb hby at_14)
      have V_b4 : Arv Z h6 b4 k4 .char (3 : Int32) [(.int c5), (.int (0 : Int32)), (.int (0 : Int32))] (.int (0 : Int32)) := by have q := Arv.set Ar6 q6 S6 M6 H6 G6 (fits_nar_char _) W6 0 rfl (Nat.le_of_ble_eq_true rfl); rw [own_nc hC5] at q; exact q
      replace S_CS := S_CS.wr W6
      replace S_FM := S_FM.wr W6
      replace EX_b4 := EX_b4.wr W6
      replace Zz := Nat.le_trans Zz (Keep.of_wr W6).1
      replace Kp := Kp.wr W6 (Or.inr sz_b4)
      have N6 := Fr.snoc X6 N5 g_b4
      refine ownW_step (T' := T6) (f' := (F3 15 [(.ref b4)])) (fun t k => st6 t k) ?_
      refine ownW_step (T' := T6) (f' := (F3 16 [(.ref b4), (.ref b4)])) (fun t k => XS.dup X6.here hx rfl (hb hby at_15) rfl rfl k) ?_
      refine ownW_step (T' := T6) (f' := (F3 17 [(.int (1 : Int32)), (.ref b4), (.ref b4)])) (fun t k => XS.iconst X6.here hx rfl (hb hby at_16) k) ?_
      refine ownW_step (T' := T6) (f' := (F3 18 [(.int p2), (.int (1 : Int32)), (.ref b4), (.ref b4)])) (fun t k => XS.iloadN X6.here hx rfl (hb hby at_17) rfl k) ?_
      obtain ⟨_, _, ⟨T7, L7, k7, n7⟩, -, X7, ⟨Lc7, hQ7, l7, y7, z7⟩, st7⟩ := Jvm.LawKit.callS X6 hx (y := (⟨"com/example/lit2/lit2/weave/TexOutputDropFinalBreakPinLaw", "pick", "(I)C"⟩ : MethodName)) hown (mvT hZ (hw _ (List.mem_of_getElem? (i := 1) rfl))) (mvT hZ (hw _ (List.mem_of_getElem? (i := 2) rfl))) (mvT hZ (hw _ (List.mem_of_getElem? (i := 3) rfl))) (mvT hZ (hw _ (List.mem_of_getElem? (i := 4) rfl))) (by decide) (backOf (W := 3) (rm1 l Z a0 hw [] p2 h6 n0 Zz) hZ (hw _ (List.mem_of_getElem? (i := 4) rfl)) (hw _ (List.mem_of_getElem? (i := 3) rfl)) (by decide) (by decide)) (g := (F3 18 [(.int p2), (.int (1 : Int32)), (.ref b4), (.ref b4)])) rfl (by rw [hml]; rfl) (argsL := [(.int p2)]) (rest := [(.int (1 : Int32)), (.ref b4), (.ref b4)]) (lenOf pd_0_0 rfl) rfl (by show 2 * 0 + _ ≤ _; exact Nat.le_of_eq rfl) (hb hby at_18) (fun _ _ => ⟨rfl, e6, (by decide : 1 + 0 ≤ _), (by decide : 3 + 0 ≤ _)⟩)
      dsimp only [Pt.U, Pt.locs, Pt.cells, Pt.slots] at X7 l7 y7 z7 st7 hQ7
      subst l7 y7 z7
      obtain ⟨c7, rfl, N7q, E7, hC7⟩ := hQ7
      have N7 := Fr.app N6 N7q
      refine ownW_step (T' := T7) (f' := (F3 21 [(.int c7), (.int (1 : Int32)), (.ref b4), (.ref b4)])) (fun t k => st7 t k) ?_
      obtain ⟨cl8, Ar8, q8, S8, M8, H8, G8⟩ := V_b4
      have hin8 : ¬ ((1 : Int32) < 0 ∨ cl8.slots.size ≤ ((1 : Int32)).toNatClampNeg) := inb_of S8 ⟨by decide, by decide⟩
      obtain ⟨T8, h8, X8, e8, W8, st8⟩ := stC X7 hx hZ E7 Ar8 (j := (1 : Int32)) hin8 (g := (F3 21 [(.int c7), (.int (1 : Int32)), (.ref b4), (.ref b4)])) rfl rfl (hb hby at_21)
      have V_b4 : Arv Z h8 b4 k4 .char (3 : Int32) [(.int c5), (.int c7), (.int (0 : Int32))] (.int (0 : Int32)) := by have q := Arv.set Ar8 q8 S8 M8 H8 G8 (fits_nar_char _) W8 1 rfl (Nat.le_of_ble_eq_true rfl); rw [own_nc hC7] at q; exact q
      replace S_CS := S_CS.wr W8
      replace S_FM := S_FM.wr W8
      replace EX_b4 := EX_b4.wr W8
      replace Zz := Nat.le_trans Zz (Keep.of_wr W8).1
      replace Kp := Kp.wr W8 (Or.inr sz_b4)
      have N8 := Fr.snoc X8 N7 g_b4
      refine ownW_step (T' := T8) (f' := (F3 22 [(.ref b4)])) (fun t k => st8 t k) ?_
      refine ownW_step (T' := T8) (f' := (F3 23 [(.ref b4), (.ref b4)])) (fun t k => XS.dup X8.here hx rfl (hb hby at_22) rfl rfl k) ?_
      refine ownW_step (T' := T8) (f' := (F3 24 [(.int (2 : Int32)), (.ref b4), (.ref b4)])) (fun t k => XS.iconst X8.here hx rfl (hb hby at_23) k) ?_
      refine ownW_step (T' := T8) (f' := (F3 25 [(.int p3), (.int (2 : Int32)), (.ref b4), (.ref b4)])) (fun t k => XS.iloadN X8.here hx rfl (hb hby at_24) rfl k) ?_
      obtain ⟨_, _, ⟨T9, L9, k9, n9⟩, -, X9, ⟨Lc9, hQ9, l9, y9, z9⟩, st9⟩ := Jvm.LawKit.callS X8 hx (y := (⟨"com/example/lit2/lit2/weave/TexOutputDropFinalBreakPinLaw", "pick", "(I)C"⟩ : MethodName)) hown (mvT hZ (hw _ (List.mem_of_getElem? (i := 1) rfl))) (mvT hZ (hw _ (List.mem_of_getElem? (i := 2) rfl))) (mvT hZ (hw _ (List.mem_of_getElem? (i := 3) rfl))) (mvT hZ (hw _ (List.mem_of_getElem? (i := 4) rfl))) (by decide) (backOf (W := 3) (rm1 l Z a0 hw [] p3 h8 n0 Zz) hZ (hw _ (List.mem_of_getElem? (i := 4) rfl)) (hw _ (List.mem_of_getElem? (i := 3) rfl)) (by decide) (by decide)) (g := (F3 25 [(.int p3), (.int (2 : Int32)), (.ref b4), (.ref b4)])) rfl (by rw [hml]; rfl) (argsL := [(.int p3)]) (rest := [(.int (2 : Int32)), (.ref b4), (.ref b4)]) (lenOf pd_0_0 rfl) rfl (by show 2 * 0 + _ ≤ _; exact Nat.le_of_eq rfl) (hb hby at_25) (fun _ _ => ⟨rfl, e8, (by decide : 1 + 0 ≤ _), (by decide : 3 + 0 ≤ _)⟩)
      dsimp only [Pt.U, Pt.locs, Pt.cells, Pt.slots] at X9 l9 y9 z9 st9 hQ9
      subst l9 y9 z9
      obtain ⟨c9, rfl, N9q, E9, hC9⟩ := hQ9
      have N9 := Fr.app N8 N9q
      refine ownW_step (T' := T9) (f' := (F3 28 [(.int c9), (.int (2 : Int32)), (.ref b4), (.ref b4)])) (fun t k => st9 t k) ?_
      obtain ⟨cl10, Ar10, q10, S10, M10, H10, G10⟩ := V_b4
      have hin10 : ¬ ((2 : Int32) < 0 ∨ cl10.slots.size ≤ ((2 : Int32)).toNatClampNeg) := inb_of S10 ⟨by decide, by decide⟩
      obtain ⟨T10, h10, X10, e10, W10, st10⟩ := stC X9 hx hZ E9 Ar10 (j := (2 : Int32)) hin10 (g := (F3 28 [(.int c9), (.int (2 : Int32)), (.ref b4), (.ref b4)])) rfl rfl (hb hby at_28)
      have V_b4 : Arv Z h10 b4 k4 .char (3 : Int32) [(.int c5), (.int c7), (.int c9)] (.int (0 : Int32)) := by have q := Arv.set Ar10 q10 S10 M10 H10 G10 (fits_nar_char _) W10 2 rfl (Nat.le_of_ble_eq_true rfl); rw [own_nc hC9] at q; exact q
      replace S_CS := S_CS.wr W10
      replace S_FM := S_FM.wr W10
      replace EX_b4 := EX_b4.wr W10
      replace Zz := Nat.le_trans Zz (Keep.of_wr W10).1
      replace Kp := Kp.wr W10 (Or.inr sz_b4)
      have N10 := Fr.snoc X10 N9 g_b4
      refine ownW_step (T' := T10) (f' := (F3 29 [(.ref b4)])) (fun t k => st10 t k) ?_
      let F11 : Nat → List Value → JFrame := fun a b => mkF m a #[.val (.int p1), .val (.int p2), .val (.int p3), .val (.int p4), .val (.int (0 : Int32)), .val (.ref b4), .unset, .unset] b
      refine ownW_step (T' := T10) (f' := (F11 31 [])) (fun t k => XS.astore X10.here hx rfl (hb hby at_29) rfl rfl (l' := #[.val (.int p1), .val (.int p2), .val (.int p3), .val (.int p4), .val (.int (0 : Int32)), .val (.ref b4), .unset, .unset]) rfl k) ?_
      obtain ⟨T12, h12, X12, e12, E12, A12, D12, -, st12⟩ := newO X10 hx hZ hown (hw _ (List.mem_of_getElem? (i := 5) rfl)) (hw _ (List.mem_of_getElem? (i := 6) rfl)) (hw _ (List.mem_of_getElem? (i := 7) rfl)) e10 (g := (F11 31 [])) rfl (hb hby at_31) (by decide) (by decide)
      obtain ⟨b12, g12⟩ : ∃ z, z = h10.size := ⟨_, rfl⟩
      rw [← g12] at A12 D12 st12
      have ne_b4_b12 : b4 ≠ b12 := Nat.ne_of_lt (Nat.lt_of_lt_of_le V_b4.lt (Nat.le_of_eq g12.symm))
      have g_b12 : n0 ≤ b12 := Nat.le_trans Zz (Nat.le_of_eq g12.symm)
      have sz_b12 : h0.size ≤ b12 := Nat.le_trans Kp.1 (Nat.le_of_eq g12.symm)
      replace S_CS := S_CS.ext E12
      replace S_FM := S_FM.ext E12
      replace V_b4 := V_b4.ext E12
      replace EX_b4 := EX_b4.ext E12
      replace Zz := Nat.le_trans Zz E12.1
      replace Kp := Kp.ext E12
      have E_b12 := A12
      have F_document_b12 : Fld Z h12 b12 "com/example/lit2/lit2/weave/TexOutput" "document" "[B" .null := D12 (Or.inl (hw _ (List.mem_of_getElem? (i := 17) rfl))) (ty := (.array .byte)) (by decide)
      have F_line_b12 : Fld Z h12 b12 "com/example/lit2/lit2/weave/TexOutput" "line" "[B" .null := D12 (Or.inr (hw _ (List.mem_of_getElem? (i := 19) rfl))) (ty := (.array .byte)) (by decide)
      have F_length_b12 : Fld Z h12 b12 "com/example/lit2/lit2/weave/TexOutput" "length" "I" (.int (0 : Int32)) := D12 (Or.inl (hw _ (List.mem_of_getElem? (i := 26) rfl))) (ty := .int) (by decide)
      have F_linesWritten_b12 : Fld Z h12 b12 "com/example/lit2/lit2/weave/TexOutput" "linesWritten" "I" (.int (0 : Int32)) := D12 (Or.inl (hw _ (List.mem_of_getElem? (i := 109) rfl))) (ty := .int) (by decide)
      refine ownW_step (T' := T12) (f' := (F11 34 [(.ref b12)])) (fun t k => st12 t k) ?_
      refine ownW_step (T' := T12) (f' := (F11 35 [(.ref b12), (.ref b12)])) (fun t k => XS.dup X12.here hx rfl (hb hby at_34) rfl rfl k) ?_
      obtain ⟨_, _, ⟨T13, L13, k13, n13⟩, -, X13, ⟨Lc13, hQ13, l13, y13, z13⟩, st13⟩ := X12.specialBack hx (y := (⟨"com/example/lit2/lit2/weave/TexOutput", "<init>", "()V"⟩ : MethodName)) rfl hown (mvT hZ (hw _ (List.mem_of_getElem? (i := 8) rfl))) (mvT hZ (hw _ (List.mem_of_getElem? (i := 9) rfl))) (mvT hZ (hw _ (List.mem_of_getElem? (i := 10) rfl))) (by decide) (backOf (W := 1) (rm2 l Z a0 hw [] b12 h12 n0 Zz E_b12 F_document_b12 F_line_b12 F_length_b12 F_linesWritten_b12 g_b12) hZ (hw _ (List.mem_of_getElem? (i := 10) rfl)) (hw _ (List.mem_of_getElem? (i := 7) rfl)) (by decide) (by decide)) (g := (F11 35 [(.ref b12), (.ref b12)])) rfl (by rw [hml]; rfl) (Steps.refl _) (a := b12) (argsL := []) (rest := [(.ref b12)]) (lenOf pd_0_1 rfl) rfl (by show 2 * 0 + _ ≤ _; exact Nat.le_of_eq rfl) (hb hby at_35) (fun _ _ => ⟨rfl, e12, (by decide : 2 + 2 ≤ _), (by decide : 9 + 65616 ≤ _)⟩)
      dsimp only [Pt.U, Pt.locs, Pt.cells, Pt.slots] at X13 l13 y13 z13 st13 hQ13
      subst l13 y13 z13
      obtain ⟨rfl, N13q, K13, bb13, kk13, zz13, FE13, FL13, FN13, FW13, FV13, EXb13, nab13⟩ := hQ13
      have N13 := Fr.app N10 N13q
      have ne_b4_bb13 : b4 ≠ bb13 := Nat.ne_of_lt (Nat.lt_of_lt_of_le V_b4.lt zz13)
      have ne_b12_bb13 : b12 ≠ bb13 := Nat.ne_of_lt (Nat.lt_of_lt_of_le E_b12.lt zz13)
      have sz_bb13 : h0.size ≤ bb13 := Nat.le_trans Kp.1 zz13
      have g_bb13 : n0 ≤ bb13 := Nat.le_trans Zz zz13
      replace S_CS := own_sta_keep S_CS K13 (allS ⟨_, E_b12⟩ all0)
      replace S_FM := own_sta_keep S_FM K13 (allS ⟨_, E_b12⟩ all0)
      replace V_b4 := V_b4.keep K13 (ninS ne_b4_b12 nin0)
      replace EX_b4 := EX_b4.keep K13
      replace E_b12 := E_b12.keep K13
      replace Zz := Nat.le_trans Zz K13.1
      replace Kp := Kp.trans K13 (allS (Or.inr sz_b12) all0)
      refine ownW_step (T' := T13) (f' := (F11 38 [(.ref b12)])) (fun t k => st13.trans k) ?_
      let F14 : Nat → List Value → JFrame := fun a b => mkF m a #[.val (.int p1), .val (.int p2), .val (.int p3), .val (.int p4), .val (.int (0 : Int32)), .val (.ref b4), .val (.ref b12), .unset] b
      refine ownW_step (T' := T13) (f' := (F14 40 [])) (fun t k => XS.astore X13.here hx rfl (hb hby at_38) rfl rfl (l' := #[.val (.int p1), .val (.int p2), .val (.int p3), .val (.int p4), .val (.int (0 : Int32)), .val (.ref b4), .val (.ref b12), .unset]) rfl k) ?_
      refine ownW_step (T' := T13) (f' := (F14 42 [(.int (0 : Int32))])) (fun t k => XS.iload X13.here hx rfl (hb hby at_40) rfl k) ?_
      refine ownW_step (T' := T13) (f' := (F14 43 [(.int (1 : Int32)), (.int (0 : Int32))])) (fun t k => XS.iconst X13.here hx rfl (hb hby at_42) k) ?_
      refine ownW_step (T' := T13) (f' := (F14 55 [])) (fun t k => XS.icmpYes X13.here hx rfl (pc0 := 43) (pc' := 55) rfl (hb hby at_43) rfl (tlt (by decide : (0 : Int32) < (1 : Int32))).1 (by decide) (by decide) k) ?_
      refine ownW_step (T' := T13) (f' := (F14 57 [(.int (0 : Int32))])) (fun t k => XS.iload X13.here hx rfl (hb hby at_55) rfl k) ?_
      refine ownW_step (T' := T13) (f' := (F14 58 [(.int (2 : Int32)), (.int (0 : Int32))])) (fun t k => XS.iconst X13.here hx rfl (hb hby at_57) k) ?_
      refine ownW_step (T' := T13) (f' := (F14 70 [])) (fun t k => XS.icmpYes X13.here hx rfl (pc0 := 58) (pc' := 70) rfl (hb hby at_58) rfl (tlt (by decide : (0 : Int32) < (2 : Int32))).1 (by decide) (by decide) k) ?_
      refine ownW_step (T' := T13) (f' := (F14 72 [(.int (0 : Int32))])) (fun t k => XS.iload X13.here hx rfl (hb hby at_70) rfl k) ?_
      refine ownW_step (T' := T13) (f' := (F14 73 [(.int (3 : Int32)), (.int (0 : Int32))])) (fun t k => XS.iconst X13.here hx rfl (hb hby at_72) k) ?_
      refine ownW_step (T' := T13) (f' := (F14 85 [])) (fun t k => XS.icmpYes X13.here hx rfl (pc0 := 73) (pc' := 85) rfl (hb hby at_73) rfl (tlt (by decide : (0 : Int32) < (3 : Int32))).1 (by decide) (by decide) k) ?_
      refine ownW_step (T' := T13) (f' := (F14 87 [(.ref b12)])) (fun t k => XS.aload X13.here hx rfl (hb hby at_85) rfl rfl k) ?_
      obtain ⟨cq15, kq15, q15a, q15b, q15c⟩ := isOf hZ rfl E_b12
      obtain ⟨_, _, ⟨T15, L15, k15, n15⟩, -, X15, ⟨Lc15, hQ15, l15, y15, z15⟩, st15⟩ := X13.virtualBack hx (y := (⟨"com/example/lit2/lit2/weave/TexOutput", "dropFinalBreak", "()V"⟩ : MethodName)) (z := (⟨"com/example/lit2/lit2/weave/TexOutput", "dropFinalBreak", "()V"⟩ : MethodName)) hown (mvT hZ (hw _ (List.mem_of_getElem? (i := 27) rfl))) (mvT hZ (hw _ (List.mem_of_getElem? (i := 28) rfl))) (notFace_of_selects (args := #[]) (mvT hZ (hw _ (List.mem_of_getElem? (i := 30) rfl)))) (mvT hZ (hw _ (List.mem_of_getElem? (i := 30) rfl))) (mvT hZ (hw _ (List.mem_of_getElem? (i := 29) rfl))) (by decide) (backOf (W := 0) (rm5_0 l Z a0 hw [] b12 T13.heap n0 Zz (0 : Int32) (0 : Int32) (0 : Int32) bb13 kk13 ⟨E_b12, FL13, FN13, FW13, FV13, EXb13, nab13⟩ g_b12 g_bb13) hZ (hw _ (List.mem_of_getElem? (i := 31) rfl)) (hw _ (List.mem_of_getElem? (i := 7) rfl)) (by decide) (by decide)) q15a q15c (g := (F14 87 [(.ref b12)])) rfl (by rw [hml]; rfl) (Steps.refl _) (argsL := []) (rest := []) (lenOf pd_0_1 rfl) rfl (by show 2 * 0 + _ ≤ _; exact Nat.le_of_eq rfl) (hb hby at_87) (fun _ _ => ⟨rfl, rfl, (by decide : 4 + 0 ≤ _), (by decide : 65625 + 0 ≤ _)⟩)
      dsimp only [Pt.U, Pt.locs, Pt.cells, Pt.slots] at X15 l15 y15 z15 st15 hQ15
      subst l15 y15 z15
      obtain ⟨rfl, N15q, K15, PE15, PL15, PN15, PW15, PV15, EXp15, nap15⟩ := hQ15
      have N15 := Fr.app N13 N15q
      replace S_CS := own_sta_keep S_CS K15 (allS ⟨_, E_b12⟩ (allS ⟨_, EXb13⟩ all0))
      replace S_FM := own_sta_keep S_FM K15 (allS ⟨_, E_b12⟩ (allS ⟨_, EXb13⟩ all0))
      replace V_b4 := V_b4.keep K15 (ninS ne_b4_b12 (ninS ne_b4_bb13 nin0))
      replace EX_b4 := EX_b4.keep K15
      replace E_b12 := E_b12.keep K15
      replace EXb13 := EXb13.keep K15
      replace Zz := Nat.le_trans Zz K15.1
      replace Kp := Kp.trans K15 (allS (Or.inr sz_b12) (allS (Or.inr sz_bb13) all0))
      refine ownW_step (T' := T15) (f' := (F14 90 [])) (fun t k => st15.trans k) ?_
      refine ownW_step (T' := T15) (f' := (F14 92 [(.int (0 : Int32))])) (fun t k => XS.iload X15.here hx rfl (hb hby at_90) rfl k) ?_
      let F16 : Nat → List Value → JFrame := fun a b => mkF m a #[.val (.int p1), .val (.int p2), .val (.int p3), .val (.int p4), .val (.int (0 : Int32)), .val (.ref b4), .val (.ref b12), .val (.int (0 : Int32))] b
      refine ownW_step (T' := T15) (f' := (F16 94 [])) (fun t k => XS.istore X15.here hx rfl (hb hby at_92) rfl (l' := #[.val (.int p1), .val (.int p2), .val (.int p3), .val (.int p4), .val (.int (0 : Int32)), .val (.ref b4), .val (.ref b12), .val (.int (0 : Int32))]) rfl k) ?_
      refine ownW_step (T' := T15) (f' := (F16 96 [(.int (0 : Int32))])) (fun t k => XS.iload X15.here hx rfl (hb hby at_94) rfl k) ?_
      refine ownW_step (T' := T15) (f' := (F16 97 [(.int (2 : Int32)), (.int (0 : Int32))])) (fun t k => XS.iconst X15.here hx rfl (hb hby at_96) k) ?_
      refine ownW_step (T' := T15) (f' := (F16 154 [])) (fun t k => XS.icmpYes X15.here hx rfl (pc0 := 97) (pc' := 154) rfl (hb hby at_97) rfl (tlt (by decide : (0 : Int32) < (2 : Int32))).1 (by decide) (by decide) k) ?_
      refine ownW_step (T' := T15) (f' := (F16 156 [(.ref b12)])) (fun t k => XS.aload X15.here hx rfl (hb hby at_154) rfl rfl k) ?_
      obtain ⟨cq17, kq17, q17a, q17b, q17c⟩ := isOf hZ rfl E_b12
      obtain ⟨_, _, ⟨T17, L17, k17, n17⟩, -, X17, ⟨Lc17, hQ17, l17, y17, z17⟩, st17⟩ := X15.virtualBack hx (y := (⟨"com/example/lit2/lit2/weave/TexOutput", "lineLength", "()I"⟩ : MethodName)) (z := (⟨"com/example/lit2/lit2/weave/TexOutput", "lineLength", "()I"⟩ : MethodName)) hown (mvT hZ (hw _ (List.mem_of_getElem? (i := 32) rfl))) (mvT hZ (hw _ (List.mem_of_getElem? (i := 33) rfl))) (notFace_of_selects (args := #[]) (mvT hZ (hw _ (List.mem_of_getElem? (i := 35) rfl)))) (mvT hZ (hw _ (List.mem_of_getElem? (i := 35) rfl))) (mvT hZ (hw _ (List.mem_of_getElem? (i := 34) rfl))) (by decide) (backOf (W := 0) (rm6 l Z a0 hw [] b12 T15.heap n0 Zz (0 : Int32) PN15) hZ (hw _ (List.mem_of_getElem? (i := 36) rfl)) (hw _ (List.mem_of_getElem? (i := 7) rfl)) (by decide) (by decide)) q17a q17c (g := (F16 156 [(.ref b12)])) rfl (by rw [hml]; rfl) (Steps.refl _) (argsL := []) (rest := []) (lenOf pd_0_2 rfl) rfl (by show 2 * 0 + _ ≤ _; exact Nat.le_of_eq rfl) (hb hby at_156) (fun _ _ => ⟨rfl, rfl, (by decide : 4 + 0 ≤ _), (by decide : 65625 + 0 ≤ _)⟩)
      dsimp only [Pt.U, Pt.locs, Pt.cells, Pt.slots] at X17 l17 y17 z17 st17 hQ17
      subst l17 y17 z17
      obtain ⟨rfl, N17q, E17⟩ := hQ17
      have N17 := Fr.app N15 N17q
      refine ownW_step (T' := T17) (f' := (F16 159 [(.int (0 : Int32))])) (fun t k => st17.trans k) ?_
      refine ownW_step (T' := T17) (f' := (F16 161 [(.int (0 : Int32)), (.int (0 : Int32))])) (fun t k => XS.iload X17.here hx rfl (hb hby at_159) rfl k) ?_
      refine ownW_step (T' := T17) (f' := (F16 164 [])) (fun t k => XS.icmpNo X17.here hx rfl (hb hby at_161) rfl (teq (by decide : (0 : Int32) = (0 : Int32))).2 k) ?_
      refine ownW_step (T' := T17) (f' := (F16 166 [(.ref b12)])) (fun t k => XS.aload X17.here hx rfl (hb hby at_164) rfl rfl k) ?_
      refine ownW_step (T' := T17) (f' := (F16 168 [(.int (0 : Int32)), (.ref b12)])) (fun t k => XS.iload X17.here hx rfl (hb hby at_166) rfl k) ?_
      refine ownW_step (T' := T17) (f' := (F16 170 [(.ref b4), (.int (0 : Int32)), (.ref b12)])) (fun t k => XS.aload X17.here hx rfl (hb hby at_168) rfl rfl k) ?_
      have Cr : CHr Z ownEL s.vm T15.heap s.vm T15.heap := CHr.refl (own_chv Kp)
      obtain ⟨_, _, ⟨T18, L18, k18, n18⟩, -, X18, hS18, hgr18, ⟨Lc18, hQ18, l18, y18, z18, C18⟩, st18⟩ := callSS X17 hx (y := (⟨"com/example/lit2/lit2/weave/TexOutputDropFinalBreakPinLaw", "str", "(I[C)Ljava/lang/String;"⟩ : MethodName)) hown (mvT hZ (hw _ (List.mem_of_getElem? (i := 37) rfl))) (mvT hZ (hw _ (List.mem_of_getElem? (i := 38) rfl))) (mvT hZ (hw _ (List.mem_of_getElem? (i := 3) rfl))) (mvT hZ (hw _ (List.mem_of_getElem? (i := 39) rfl))) (by decide) (backOfSH (s := s) (vm0 := s.vm) (W := 1) (rm7_0 l Z a0 hw [] b4 T15.heap n0 Zz hEL) hZ (hw _ (List.mem_of_getElem? (i := 39) rfl)) (hw _ (List.mem_of_getElem? (i := 3) rfl)) (by decide) (by decide) hEL Cr.1) (g := (F16 170 [(.ref b4), (.int (0 : Int32)), (.ref b12)])) rfl (by rw [hml]; rfl) (argsL := [(.int (0 : Int32)), (.ref b4)]) (rest := [(.ref b12)]) (lenOf pd_0_3 rfl) rfl (by show 2 * 0 + _ ≤ _; exact Nat.le_of_eq rfl) (hb hby at_170) (fun _ _ => ⟨rfl, E17, (by decide : 4 + 4 ≤ _), (by decide : 65625 + 8 ≤ _)⟩)
      dsimp only [Pt.U, Pt.locs, Pt.cells, Pt.slots] at X18 l18 y18 z18 st18 hQ18 hS18 hgr18 C18
      subst l18 y18 z18
      obtain ⟨rr18, rb18, rk18, rfl, N18q, K18, Os18⟩ := hQ18
      have N18 := Fr.app N17 N18q
      have hZ18 : Z.Warmed39 T18.vm := State.Warmed39.trans hZ hS18.1
      have hown18 : T18.vm.findClass "com/example/lit2/lit2/weave/TexOutputDropFinalBreakPinLaw" = some m.cls := by rw [hS18.1.alike.findClass]; exact hown
      replace S_CS := own_sta_keep S_CS K18 all0
      replace S_FM := own_sta_keep S_FM K18 all0
      replace V_b4 := V_b4.keep K18 nin0
      replace EX_b4 := EX_b4.keep K18
      replace E_b12 := E_b12.keep K18
      replace EXb13 := EXb13.keep K18
      replace PL15 := PL15.keep K18 nin0
      replace PN15 := PN15.keep K18 nin0
      replace PW15 := PW15.keep K18 nin0
      replace PV15 := PV15.keep K18 nin0
      replace Zz := Nat.le_trans Zz K18.1
      replace Kp := Kp.trans K18 all0
      refine ownW_step (T' := T18) (f' := (F16 173 [(.ref rr18), (.ref b12)])) (fun t k => st18.trans k) ?_
      obtain ⟨cq19, kq19, q19a, q19b, q19c⟩ := isOf hZ18 rfl E_b12
      obtain ⟨_, _, ⟨T19, L19, k19, n19⟩, -, X19, ⟨Lc19, hQ19, l19, y19, z19⟩, st19⟩ := X18.virtualBack hx (y := (⟨"com/example/lit2/lit2/weave/TexOutput", "endsWith", "(Ljava/lang/String;)Z"⟩ : MethodName)) (z := (⟨"com/example/lit2/lit2/weave/TexOutput", "endsWith", "(Ljava/lang/String;)Z"⟩ : MethodName)) hown18 (mvT hZ18 (hw _ (List.mem_of_getElem? (i := 66) rfl))) (mvT hZ18 (hw _ (List.mem_of_getElem? (i := 67) rfl))) (notFace_of_selects (args := #[]) (mvT hZ18 (hw _ (List.mem_of_getElem? (i := 69) rfl)))) (mvT hZ18 (hw _ (List.mem_of_getElem? (i := 69) rfl))) (mvT hZ18 (hw _ (List.mem_of_getElem? (i := 68) rfl))) (by decide) (backOf (W := 0) (rm13_0 l Z a0 hw [] b12 rr18 T18.heap n0 Zz (0 : Int32) (0 : Int32) (0 : Int32) bb13 kk13 ⟨E_b12, PL15, PN15, PW15, PV15, EXb13, nab13⟩ rb18 rk18 Os18 cs S_CS hcs fm S_FM hfc hfr) hZ18 (hw _ (List.mem_of_getElem? (i := 70) rfl)) (hw _ (List.mem_of_getElem? (i := 7) rfl)) (by decide) (by decide)) q19a q19c (g := (F16 173 [(.ref rr18), (.ref b12)])) rfl (by rw [hml]; rfl) (Steps.refl _) (argsL := [(.ref rr18)]) (rest := []) (lenOf pd_0_4 rfl) rfl (by show 2 * 0 + _ ≤ _; exact Nat.le_of_eq rfl) (hb hby at_173) (fun _ _ => ⟨rfl, rfl, (by decide : 8 + 0 ≤ _), (by decide : 65633 + 0 ≤ _)⟩)
      dsimp only [Pt.U, Pt.locs, Pt.cells, Pt.slots] at X19 l19 y19 z19 st19 hQ19
      subst l19 y19 z19
      obtain ⟨rfl, N19q, E19⟩ := hQ19
      have N19 := Fr.app N18 N19q
      refine ownW_step (T' := T19) (f' := (F16 176 [(.int (1 : Int32))])) (fun t k => st19.trans k) ?_
      refine ownW_step (T' := T19) (f' := (F16 179 [])) (fun t k => XS.ifNo X19.here hx rfl (hb hby at_176) rfl ((if0 _ _).trans (feq (by decide : ¬ ((1 : Int32) = (0 : Int32)))).1) k) ?_
      refine ownW_step (T' := T19) (f' := (F16 181 [(.ref b12)])) (fun t k => XS.aload X19.here hx rfl (hb hby at_179) rfl rfl k) ?_
      obtain ⟨cq20, kq20, q20a, q20b, q20c⟩ := isOf hZ18 E19 E_b12
      obtain ⟨_, _, ⟨T20, L20, k20, n20⟩, -, X20, ⟨Lc20, hQ20, l20, y20, z20⟩, st20⟩ := X19.virtualBack hx (y := (⟨"com/example/lit2/lit2/weave/TexOutput", "linesWritten", "()I"⟩ : MethodName)) (z := (⟨"com/example/lit2/lit2/weave/TexOutput", "linesWritten", "()I"⟩ : MethodName)) hown18 (mvT hZ18 (hw _ (List.mem_of_getElem? (i := 103) rfl))) (mvT hZ18 (hw _ (List.mem_of_getElem? (i := 104) rfl))) (notFace_of_selects (args := #[]) (mvT hZ18 (hw _ (List.mem_of_getElem? (i := 106) rfl)))) (mvT hZ18 (hw _ (List.mem_of_getElem? (i := 106) rfl))) (mvT hZ18 (hw _ (List.mem_of_getElem? (i := 105) rfl))) (by decide) (backOf (W := 0) (rm21 l Z a0 hw [] b12 T18.heap n0 Zz PW15) hZ18 (hw _ (List.mem_of_getElem? (i := 107) rfl)) (hw _ (List.mem_of_getElem? (i := 7) rfl)) (by decide) (by decide)) q20a q20c (g := (F16 181 [(.ref b12)])) rfl (by rw [hml]; rfl) (Steps.refl _) (argsL := []) (rest := []) (lenOf pd_0_2 rfl) rfl (by show 2 * 0 + _ ≤ _; exact Nat.le_of_eq rfl) (hb hby at_181) (fun _ _ => ⟨rfl, E19, (by decide : 8 + 0 ≤ _), (by decide : 65633 + 0 ≤ _)⟩)
      dsimp only [Pt.U, Pt.locs, Pt.cells, Pt.slots] at X20 l20 y20 z20 st20 hQ20
      subst l20 y20 z20
      obtain ⟨rfl, N20q, E20⟩ := hQ20
      have N20 := Fr.app N19 N20q
      refine ownW_step (T' := T20) (f' := (F16 184 [(.int (0 : Int32))])) (fun t k => st20.trans k) ?_
      refine ownW_step (T' := T20) (f' := (F16 187 [])) (fun t k => XS.ifNo X20.here hx rfl (hb hby at_184) rfl ((if0 _ _).trans (teq (by decide : (0 : Int32) = (0 : Int32))).2) k) ?_
      refine ownW_step (T' := T20) (f' := (F16 188 [(.int (1 : Int32))])) (fun t k => XS.iconst X20.here hx rfl (hb hby at_187) k) ?_
      refine ownW_step (T' := T20) (f' := (F16 192 [(.int (1 : Int32))])) (fun t k => XS.goto X20.here hx rfl (pc0 := 188) (pc' := 192) rfl (hb hby at_188) (by decide) (by decide) k) ?_
      exact ownW_retN X20 hS18 (by rw [E20]; exact Nat.le_refl _) hx hlk (t := .boolean) Bd.returns (by simp) (hb hby at_192) (by decide) (by decide) ⟨rfl, N20⟩
    · skip
      let F21 : Nat → List Value → JFrame := fun a b => mkF m a #[.val (.int p1), .val (.int p2), .val (.int p3), .val (.int p4), .val (.int (1 : Int32)), .unset, .unset, .unset] b
      refine ownW_step (T' := T_2) (f' := (F21 6 [(.int (3 : Int32))])) (fun t k => XS.iconst X_2.here hx rfl (hb hby at_5) k) ?_
      obtain ⟨T22, h22, k22, X22, e22, E22, A22, EX22, st22⟩ := newPE X_2 hx hZ (hw _ (List.mem_of_getElem? (i := 0) rfl)) e_2 (g := (F21 6 [(.int (3 : Int32))])) rfl (hb hby at_6) rfl (by decide) (cap := 3) (by decide) (by decide) (by decide) (by decide) (ad := "[C") rfl
      obtain ⟨b22, g22⟩ : ∃ z, z = h0.size := ⟨_, rfl⟩
      rw [← g22] at A22 EX22 st22
      have g_b22 : n0 ≤ b22 := Nat.le_trans Zz (Nat.le_of_eq g22.symm)
      have sz_b22 : h0.size ≤ b22 := Nat.le_trans Kp.1 (Nat.le_of_eq g22.symm)
      replace S_CS := S_CS.ext E22
      replace S_FM := S_FM.ext E22
      replace Zz := Nat.le_trans Zz E22.1
      replace Kp := Kp.ext E22
      have V_b22 : Arv Z h22 b22 k22 .char (3 : Int32) [(.int (0 : Int32)), (.int (0 : Int32)), (.int (0 : Int32))] (.int (0 : Int32)) := (Arv.new A22 (by decide)).pad (pad_rep [] (.int (0 : Int32)) 3)
      have EX_b22 := EX22
      refine ownW_step (T' := T22) (f' := (F21 8 [(.ref b22)])) (fun t k => st22 t k) ?_
      refine ownW_step (T' := T22) (f' := (F21 9 [(.ref b22), (.ref b22)])) (fun t k => XS.dup X22.here hx rfl (hb hby at_8) rfl rfl k) ?_
      refine ownW_step (T' := T22) (f' := (F21 10 [(.int (0 : Int32)), (.ref b22), (.ref b22)])) (fun t k => XS.iconst X22.here hx rfl (hb hby at_9) k) ?_
      refine ownW_step (T' := T22) (f' := (F21 11 [(.int p1), (.int (0 : Int32)), (.ref b22), (.ref b22)])) (fun t k => XS.iloadN X22.here hx rfl (hb hby at_10) rfl k) ?_
      obtain ⟨_, _, ⟨T23, L23, k23, n23⟩, -, X23, ⟨Lc23, hQ23, l23, y23, z23⟩, st23⟩ := Jvm.LawKit.callS X22 hx (y := (⟨"com/example/lit2/lit2/weave/TexOutputDropFinalBreakPinLaw", "pick", "(I)C"⟩ : MethodName)) hown (mvT hZ (hw _ (List.mem_of_getElem? (i := 1) rfl))) (mvT hZ (hw _ (List.mem_of_getElem? (i := 2) rfl))) (mvT hZ (hw _ (List.mem_of_getElem? (i := 3) rfl))) (mvT hZ (hw _ (List.mem_of_getElem? (i := 4) rfl))) (by decide) (backOf (W := 3) (rm1 l Z a0 hw [] p1 h22 n0 Zz) hZ (hw _ (List.mem_of_getElem? (i := 4) rfl)) (hw _ (List.mem_of_getElem? (i := 3) rfl)) (by decide) (by decide)) (g := (F21 11 [(.int p1), (.int (0 : Int32)), (.ref b22), (.ref b22)])) rfl (by rw [hml]; rfl) (argsL := [(.int p1)]) (rest := [(.int (0 : Int32)), (.ref b22), (.ref b22)]) (lenOf pd_0_0 rfl) rfl (by show 2 * 0 + _ ≤ _; exact Nat.le_of_eq rfl) (hb hby at_11) (fun _ _ => ⟨rfl, e22, (by decide : 1 + 0 ≤ _), (by decide : 3 + 0 ≤ _)⟩)
      dsimp only [Pt.U, Pt.locs, Pt.cells, Pt.slots] at X23 l23 y23 z23 st23 hQ23
      subst l23 y23 z23
      obtain ⟨c23, rfl, N23q, E23, hC23⟩ := hQ23
      have N23 := Fr.app N_2 N23q
      refine ownW_step (T' := T23) (f' := (F21 14 [(.int c23), (.int (0 : Int32)), (.ref b22), (.ref b22)])) (fun t k => st23 t k) ?_
      obtain ⟨cl24, Ar24, q24, S24, M24, H24, G24⟩ := V_b22
      have hin24 : ¬ ((0 : Int32) < 0 ∨ cl24.slots.size ≤ ((0 : Int32)).toNatClampNeg) := inb_of S24 ⟨by decide, by decide⟩
      obtain ⟨T24, h24, X24, e24, W24, st24⟩ := stC X23 hx hZ E23 Ar24 (j := (0 : Int32)) hin24 (g := (F21 14 [(.int c23), (.int (0 : Int32)), (.ref b22), (.ref b22)])) rfl rfl (hb hby at_14)
      have V_b22 : Arv Z h24 b22 k22 .char (3 : Int32) [(.int c23), (.int (0 : Int32)), (.int (0 : Int32))] (.int (0 : Int32)) := by have q := Arv.set Ar24 q24 S24 M24 H24 G24 (fits_nar_char _) W24 0 rfl (Nat.le_of_ble_eq_true rfl); rw [own_nc hC23] at q; exact q
      replace S_CS := S_CS.wr W24
      replace S_FM := S_FM.wr W24
      replace EX_b22 := EX_b22.wr W24
      replace Zz := Nat.le_trans Zz (Keep.of_wr W24).1
      replace Kp := Kp.wr W24 (Or.inr sz_b22)
      have N24 := Fr.snoc X24 N23 g_b22
      refine ownW_step (T' := T24) (f' := (F21 15 [(.ref b22)])) (fun t k => st24 t k) ?_
      refine ownW_step (T' := T24) (f' := (F21 16 [(.ref b22), (.ref b22)])) (fun t k => XS.dup X24.here hx rfl (hb hby at_15) rfl rfl k) ?_
      refine ownW_step (T' := T24) (f' := (F21 17 [(.int (1 : Int32)), (.ref b22), (.ref b22)])) (fun t k => XS.iconst X24.here hx rfl (hb hby at_16) k) ?_
      refine ownW_step (T' := T24) (f' := (F21 18 [(.int p2), (.int (1 : Int32)), (.ref b22), (.ref b22)])) (fun t k => XS.iloadN X24.here hx rfl (hb hby at_17) rfl k) ?_
      obtain ⟨_, _, ⟨T25, L25, k25, n25⟩, -, X25, ⟨Lc25, hQ25, l25, y25, z25⟩, st25⟩ := Jvm.LawKit.callS X24 hx (y := (⟨"com/example/lit2/lit2/weave/TexOutputDropFinalBreakPinLaw", "pick", "(I)C"⟩ : MethodName)) hown (mvT hZ (hw _ (List.mem_of_getElem? (i := 1) rfl))) (mvT hZ (hw _ (List.mem_of_getElem? (i := 2) rfl))) (mvT hZ (hw _ (List.mem_of_getElem? (i := 3) rfl))) (mvT hZ (hw _ (List.mem_of_getElem? (i := 4) rfl))) (by decide) (backOf (W := 3) (rm1 l Z a0 hw [] p2 h24 n0 Zz) hZ (hw _ (List.mem_of_getElem? (i := 4) rfl)) (hw _ (List.mem_of_getElem? (i := 3) rfl)) (by decide) (by decide)) (g := (F21 18 [(.int p2), (.int (1 : Int32)), (.ref b22), (.ref b22)])) rfl (by rw [hml]; rfl) (argsL := [(.int p2)]) (rest := [(.int (1 : Int32)), (.ref b22), (.ref b22)]) (lenOf pd_0_0 rfl) rfl (by show 2 * 0 + _ ≤ _; exact Nat.le_of_eq rfl) (hb hby at_18) (fun _ _ => ⟨rfl, e24, (by decide : 1 + 0 ≤ _), (by decide : 3 + 0 ≤ _)⟩)
      dsimp only [Pt.U, Pt.locs, Pt.cells, Pt.slots] at X25 l25 y25 z25 st25 hQ25
      subst l25 y25 z25
      obtain ⟨c25, rfl, N25q, E25, hC25⟩ := hQ25
      have N25 := Fr.app N24 N25q
      refine ownW_step (T' := T25) (f' := (F21 21 [(.int c25), (.int (1 : Int32)), (.ref b22), (.ref b22)])) (fun t k => st25 t k) ?_
      obtain ⟨cl26, Ar26, q26, S26, M26, H26, G26⟩ := V_b22
      have hin26 : ¬ ((1 : Int32) < 0 ∨ cl26.slots.size ≤ ((1 : Int32)).toNatClampNeg) := inb_of S26 ⟨by decide, by decide⟩
      obtain ⟨T26, h26, X26, e26, W26, st26⟩ := stC X25 hx hZ E25 Ar26 (j := (1 : Int32)) hin26 (g := (F21 21 [(.int c25), (.int (1 : Int32)), (.ref b22), (.ref b22)])) rfl rfl (hb hby at_21)
      have V_b22 : Arv Z h26 b22 k22 .char (3 : Int32) [(.int c23), (.int c25), (.int (0 : Int32))] (.int (0 : Int32)) := by have q := Arv.set Ar26 q26 S26 M26 H26 G26 (fits_nar_char _) W26 1 rfl (Nat.le_of_ble_eq_true rfl); rw [own_nc hC25] at q; exact q
      replace S_CS := S_CS.wr W26
      replace S_FM := S_FM.wr W26
      replace EX_b22 := EX_b22.wr W26
      replace Zz := Nat.le_trans Zz (Keep.of_wr W26).1
      replace Kp := Kp.wr W26 (Or.inr sz_b22)
      have N26 := Fr.snoc X26 N25 g_b22
      refine ownW_step (T' := T26) (f' := (F21 22 [(.ref b22)])) (fun t k => st26 t k) ?_
      refine ownW_step (T' := T26) (f' := (F21 23 [(.ref b22), (.ref b22)])) (fun t k => XS.dup X26.here hx rfl (hb hby at_22) rfl rfl k) ?_
      refine ownW_step (T' := T26) (f' := (F21 24 [(.int (2 : Int32)), (.ref b22), (.ref b22)])) (fun t k => XS.iconst X26.here hx rfl (hb hby at_23) k) ?_
      refine ownW_step (T' := T26) (f' := (F21 25 [(.int p3), (.int (2 : Int32)), (.ref b22), (.ref b22)])) (fun t k => XS.iloadN X26.here hx rfl (hb hby at_24) rfl k) ?_
      obtain ⟨_, _, ⟨T27, L27, k27, n27⟩, -, X27, ⟨Lc27, hQ27, l27, y27, z27⟩, st27⟩ := Jvm.LawKit.callS X26 hx (y := (⟨"com/example/lit2/lit2/weave/TexOutputDropFinalBreakPinLaw", "pick", "(I)C"⟩ : MethodName)) hown (mvT hZ (hw _ (List.mem_of_getElem? (i := 1) rfl))) (mvT hZ (hw _ (List.mem_of_getElem? (i := 2) rfl))) (mvT hZ (hw _ (List.mem_of_getElem? (i := 3) rfl))) (mvT hZ (hw _ (List.mem_of_getElem? (i := 4) rfl))) (by decide) (backOf (W := 3) (rm1 l Z a0 hw [] p3 h26 n0 Zz) hZ (hw _ (List.mem_of_getElem? (i := 4) rfl)) (hw _ (List.mem_of_getElem? (i := 3) rfl)) (by decide) (by decide)) (g := (F21 25 [(.int p3), (.int (2 : Int32)), (.ref b22), (.ref b22)])) rfl (by rw [hml]; rfl) (argsL := [(.int p3)]) (rest := [(.int (2 : Int32)), (.ref b22), (.ref b22)]) (lenOf pd_0_0 rfl) rfl (by show 2 * 0 + _ ≤ _; exact Nat.le_of_eq rfl) (hb hby at_25) (fun _ _ => ⟨rfl, e26, (by decide : 1 + 0 ≤ _), (by decide : 3 + 0 ≤ _)⟩)
      dsimp only [Pt.U, Pt.locs, Pt.cells, Pt.slots] at X27 l27 y27 z27 st27 hQ27
      subst l27 y27 z27
      obtain ⟨c27, rfl, N27q, E27, hC27⟩ := hQ27
      have N27 := Fr.app N26 N27q
      refine ownW_step (T' := T27) (f' := (F21 28 [(.int c27), (.int (2 : Int32)), (.ref b22), (.ref b22)])) (fun t k => st27 t k) ?_
      obtain ⟨cl28, Ar28, q28, S28, M28, H28, G28⟩ := V_b22
      have hin28 : ¬ ((2 : Int32) < 0 ∨ cl28.slots.size ≤ ((2 : Int32)).toNatClampNeg) := inb_of S28 ⟨by decide, by decide⟩
      obtain ⟨T28, h28, X28, e28, W28, st28⟩ := stC X27 hx hZ E27 Ar28 (j := (2 : Int32)) hin28 (g := (F21 28 [(.int c27), (.int (2 : Int32)), (.ref b22), (.ref b22)])) rfl rfl (hb hby at_28)
      have V_b22 : Arv Z h28 b22 k22 .char (3 : Int32) [(.int c23), (.int c25), (.int c27)] (.int (0 : Int32)) := by have q := Arv.set Ar28 q28 S28 M28 H28 G28 (fits_nar_char _) W28 2 rfl (Nat.le_of_ble_eq_true rfl); rw [own_nc hC27] at q; exact q
      replace S_CS := S_CS.wr W28
      replace S_FM := S_FM.wr W28
      replace EX_b22 := EX_b22.wr W28
      replace Zz := Nat.le_trans Zz (Keep.of_wr W28).1
      replace Kp := Kp.wr W28 (Or.inr sz_b22)
      have N28 := Fr.snoc X28 N27 g_b22
      refine ownW_step (T' := T28) (f' := (F21 29 [(.ref b22)])) (fun t k => st28 t k) ?_
      let F29 : Nat → List Value → JFrame := fun a b => mkF m a #[.val (.int p1), .val (.int p2), .val (.int p3), .val (.int p4), .val (.int (1 : Int32)), .val (.ref b22), .unset, .unset] b
      refine ownW_step (T' := T28) (f' := (F29 31 [])) (fun t k => XS.astore X28.here hx rfl (hb hby at_29) rfl rfl (l' := #[.val (.int p1), .val (.int p2), .val (.int p3), .val (.int p4), .val (.int (1 : Int32)), .val (.ref b22), .unset, .unset]) rfl k) ?_
      obtain ⟨T30, h30, X30, e30, E30, A30, D30, -, st30⟩ := newO X28 hx hZ hown (hw _ (List.mem_of_getElem? (i := 5) rfl)) (hw _ (List.mem_of_getElem? (i := 6) rfl)) (hw _ (List.mem_of_getElem? (i := 7) rfl)) e28 (g := (F29 31 [])) rfl (hb hby at_31) (by decide) (by decide)
      obtain ⟨b30, g30⟩ : ∃ z, z = h28.size := ⟨_, rfl⟩
      rw [← g30] at A30 D30 st30
      have ne_b22_b30 : b22 ≠ b30 := Nat.ne_of_lt (Nat.lt_of_lt_of_le V_b22.lt (Nat.le_of_eq g30.symm))
      have g_b30 : n0 ≤ b30 := Nat.le_trans Zz (Nat.le_of_eq g30.symm)
      have sz_b30 : h0.size ≤ b30 := Nat.le_trans Kp.1 (Nat.le_of_eq g30.symm)
      replace S_CS := S_CS.ext E30
      replace S_FM := S_FM.ext E30
      replace V_b22 := V_b22.ext E30
      replace EX_b22 := EX_b22.ext E30
      replace Zz := Nat.le_trans Zz E30.1
      replace Kp := Kp.ext E30
      have E_b30 := A30
      have F_document_b30 : Fld Z h30 b30 "com/example/lit2/lit2/weave/TexOutput" "document" "[B" .null := D30 (Or.inl (hw _ (List.mem_of_getElem? (i := 17) rfl))) (ty := (.array .byte)) (by decide)
      have F_line_b30 : Fld Z h30 b30 "com/example/lit2/lit2/weave/TexOutput" "line" "[B" .null := D30 (Or.inr (hw _ (List.mem_of_getElem? (i := 19) rfl))) (ty := (.array .byte)) (by decide)
      have F_length_b30 : Fld Z h30 b30 "com/example/lit2/lit2/weave/TexOutput" "length" "I" (.int (0 : Int32)) := D30 (Or.inl (hw _ (List.mem_of_getElem? (i := 26) rfl))) (ty := .int) (by decide)
      have F_linesWritten_b30 : Fld Z h30 b30 "com/example/lit2/lit2/weave/TexOutput" "linesWritten" "I" (.int (0 : Int32)) := D30 (Or.inl (hw _ (List.mem_of_getElem? (i := 109) rfl))) (ty := .int) (by decide)
      refine ownW_step (T' := T30) (f' := (F29 34 [(.ref b30)])) (fun t k => st30 t k) ?_
      refine ownW_step (T' := T30) (f' := (F29 35 [(.ref b30), (.ref b30)])) (fun t k => XS.dup X30.here hx rfl (hb hby at_34) rfl rfl k) ?_
      obtain ⟨_, _, ⟨T31, L31, k31, n31⟩, -, X31, ⟨Lc31, hQ31, l31, y31, z31⟩, st31⟩ := X30.specialBack hx (y := (⟨"com/example/lit2/lit2/weave/TexOutput", "<init>", "()V"⟩ : MethodName)) rfl hown (mvT hZ (hw _ (List.mem_of_getElem? (i := 8) rfl))) (mvT hZ (hw _ (List.mem_of_getElem? (i := 9) rfl))) (mvT hZ (hw _ (List.mem_of_getElem? (i := 10) rfl))) (by decide) (backOf (W := 1) (rm2 l Z a0 hw [] b30 h30 n0 Zz E_b30 F_document_b30 F_line_b30 F_length_b30 F_linesWritten_b30 g_b30) hZ (hw _ (List.mem_of_getElem? (i := 10) rfl)) (hw _ (List.mem_of_getElem? (i := 7) rfl)) (by decide) (by decide)) (g := (F29 35 [(.ref b30), (.ref b30)])) rfl (by rw [hml]; rfl) (Steps.refl _) (a := b30) (argsL := []) (rest := [(.ref b30)]) (lenOf pd_0_1 rfl) rfl (by show 2 * 0 + _ ≤ _; exact Nat.le_of_eq rfl) (hb hby at_35) (fun _ _ => ⟨rfl, e30, (by decide : 2 + 2 ≤ _), (by decide : 9 + 65616 ≤ _)⟩)
      dsimp only [Pt.U, Pt.locs, Pt.cells, Pt.slots] at X31 l31 y31 z31 st31 hQ31
      subst l31 y31 z31
      obtain ⟨rfl, N31q, K31, bb31, kk31, zz31, FE31, FL31, FN31, FW31, FV31, EXb31, nab31⟩ := hQ31
      have N31 := Fr.app N28 N31q
      have ne_b22_bb31 : b22 ≠ bb31 := Nat.ne_of_lt (Nat.lt_of_lt_of_le V_b22.lt zz31)
      have ne_b30_bb31 : b30 ≠ bb31 := Nat.ne_of_lt (Nat.lt_of_lt_of_le E_b30.lt zz31)
      have sz_bb31 : h0.size ≤ bb31 := Nat.le_trans Kp.1 zz31
      have g_bb31 : n0 ≤ bb31 := Nat.le_trans Zz zz31
      replace S_CS := own_sta_keep S_CS K31 (allS ⟨_, E_b30⟩ all0)
      replace S_FM := own_sta_keep S_FM K31 (allS ⟨_, E_b30⟩ all0)
      replace V_b22 := V_b22.keep K31 (ninS ne_b22_b30 nin0)
      replace EX_b22 := EX_b22.keep K31
      replace E_b30 := E_b30.keep K31
      replace Zz := Nat.le_trans Zz K31.1
      replace Kp := Kp.trans K31 (allS (Or.inr sz_b30) all0)
      refine ownW_step (T' := T31) (f' := (F29 38 [(.ref b30)])) (fun t k => st31.trans k) ?_
      let F32 : Nat → List Value → JFrame := fun a b => mkF m a #[.val (.int p1), .val (.int p2), .val (.int p3), .val (.int p4), .val (.int (1 : Int32)), .val (.ref b22), .val (.ref b30), .unset] b
      refine ownW_step (T' := T31) (f' := (F32 40 [])) (fun t k => XS.astore X31.here hx rfl (hb hby at_38) rfl rfl (l' := #[.val (.int p1), .val (.int p2), .val (.int p3), .val (.int p4), .val (.int (1 : Int32)), .val (.ref b22), .val (.ref b30), .unset]) rfl k) ?_
      refine ownW_step (T' := T31) (f' := (F32 42 [(.int (1 : Int32))])) (fun t k => XS.iload X31.here hx rfl (hb hby at_40) rfl k) ?_
      refine ownW_step (T' := T31) (f' := (F32 43 [(.int (1 : Int32)), (.int (1 : Int32))])) (fun t k => XS.iconst X31.here hx rfl (hb hby at_42) k) ?_
      refine ownW_step (T' := T31) (f' := (F32 46 [])) (fun t k => XS.icmpNo X31.here hx rfl (hb hby at_43) rfl (flt (by decide : ¬ ((1 : Int32) < (1 : Int32)))).1 k) ?_
      refine ownW_step (T' := T31) (f' := (F32 48 [(.ref b30)])) (fun t k => XS.aload X31.here hx rfl (hb hby at_46) rfl rfl k) ?_
      refine ownW_step (T' := T31) (f' := (F32 50 [(.ref b22), (.ref b30)])) (fun t k => XS.aload X31.here hx rfl (hb hby at_48) rfl rfl k) ?_
      refine ownW_step (T' := T31) (f' := (F32 51 [(.int (0 : Int32)), (.ref b22), (.ref b30)])) (fun t k => XS.iconst X31.here hx rfl (hb hby at_50) k) ?_
      obtain ⟨cl33, Ar33, q33, S33, M33, H33, G33⟩ := id V_b22
      have hin33 : ¬ ((0 : Int32) < 0 ∨ cl33.slots.size ≤ ((0 : Int32)).toNatClampNeg) := inb_of S33 ⟨by decide, by decide⟩
      have hat33 : cl33.slots[((0 : Int32)).toNatClampNeg]? = some (.int c23) := own_at hin33 H33 0 rfl rfl
      refine ownW_step (T' := T31) (f' := (F32 52 [(.int c23), (.ref b30)])) (fun t k => X31.caload hx (j := (0 : Int32)) (v := (.int c23)) (by exact Ar33.1) (State.isArrayOf_alike hZ.alike Ar33.2.1) Ar33.2.2 hin33 hat33 (g := (F32 51 [(.int (0 : Int32)), (.ref b22), (.ref b30)])) rfl rfl (hb hby at_51) _ k) ?_
      obtain ⟨cq34, kq34, q34a, q34b, q34c⟩ := isOf hZ rfl E_b30
      obtain ⟨_, _, ⟨T34, L34, k34, n34⟩, -, X34, ⟨Lc34, hQ34, l34, y34, z34⟩, st34⟩ := X31.virtualBack hx (y := (⟨"com/example/lit2/lit2/weave/TexOutput", "out", "(C)V"⟩ : MethodName)) (z := (⟨"com/example/lit2/lit2/weave/TexOutput", "out", "(C)V"⟩ : MethodName)) hown (mvT hZ (hw _ (List.mem_of_getElem? (i := 20) rfl))) (mvT hZ (hw _ (List.mem_of_getElem? (i := 21) rfl))) (notFace_of_selects (args := #[]) (mvT hZ (hw _ (List.mem_of_getElem? (i := 23) rfl)))) (mvT hZ (hw _ (List.mem_of_getElem? (i := 23) rfl))) (mvT hZ (hw _ (List.mem_of_getElem? (i := 22) rfl))) (by decide) (backOf (W := 0) (rm4_0 l Z a0 hw [] b30 c23 T31.heap n0 Zz (.int (0 : Int32)) (.int (0 : Int32)) (.int (0 : Int32)) bb31 kk31 ⟨E_b30, FL31, FN31, FW31, FV31, EXb31, nab31⟩ g_b30 g_bb31) hZ (hw _ (List.mem_of_getElem? (i := 24) rfl)) (hw _ (List.mem_of_getElem? (i := 7) rfl)) (by decide) (by decide)) q34a q34c (g := (F32 52 [(.int c23), (.ref b30)])) rfl (by rw [hml]; rfl) (Steps.refl _) (argsL := [(.int c23)]) (rest := []) (lenOf pd_0_5 rfl) rfl (by show 2 * 0 + _ ≤ _; exact Nat.le_of_eq rfl) (hb hby at_52) (fun _ _ => ⟨rfl, rfl, (by decide : 4 + 0 ≤ _), (by decide : 65625 + 0 ≤ _)⟩)
      dsimp only [Pt.U, Pt.locs, Pt.cells, Pt.slots] at X34 l34 y34 z34 st34 hQ34
      subst l34 y34 z34
      obtain ⟨rfl, N34q, K34, GE34, GL34, GN34, GW34, GV34, EXg34, nag34⟩ := hQ34
      have N34 := Fr.app N31 N34q
      replace S_CS := own_sta_keep S_CS K34 (allS ⟨_, E_b30⟩ (allS ⟨_, EXb31⟩ all0))
      replace S_FM := own_sta_keep S_FM K34 (allS ⟨_, E_b30⟩ (allS ⟨_, EXb31⟩ all0))
      replace V_b22 := V_b22.keep K34 (ninS ne_b22_b30 (ninS ne_b22_bb31 nin0))
      replace EX_b22 := EX_b22.keep K34
      replace E_b30 := E_b30.keep K34
      replace EXb31 := EXb31.keep K34
      replace Zz := Nat.le_trans Zz K34.1
      replace Kp := Kp.trans K34 (allS (Or.inr sz_b30) (allS (Or.inr sz_bb31) all0))
      refine ownW_step (T' := T34) (f' := (F32 55 [])) (fun t k => st34.trans k) ?_
      refine ownW_step (T' := T34) (f' := (F32 57 [(.int (1 : Int32))])) (fun t k => XS.iload X34.here hx rfl (hb hby at_55) rfl k) ?_
      refine ownW_step (T' := T34) (f' := (F32 58 [(.int (2 : Int32)), (.int (1 : Int32))])) (fun t k => XS.iconst X34.here hx rfl (hb hby at_57) k) ?_
      refine ownW_step (T' := T34) (f' := (F32 70 [])) (fun t k => XS.icmpYes X34.here hx rfl (pc0 := 58) (pc' := 70) rfl (hb hby at_58) rfl (tlt (by decide : (1 : Int32) < (2 : Int32))).1 (by decide) (by decide) k) ?_
      refine ownW_step (T' := T34) (f' := (F32 72 [(.int (1 : Int32))])) (fun t k => XS.iload X34.here hx rfl (hb hby at_70) rfl k) ?_
      refine ownW_step (T' := T34) (f' := (F32 73 [(.int (3 : Int32)), (.int (1 : Int32))])) (fun t k => XS.iconst X34.here hx rfl (hb hby at_72) k) ?_
      refine ownW_step (T' := T34) (f' := (F32 85 [])) (fun t k => XS.icmpYes X34.here hx rfl (pc0 := 73) (pc' := 85) rfl (hb hby at_73) rfl (tlt (by decide : (1 : Int32) < (3 : Int32))).1 (by decide) (by decide) k) ?_
      refine ownW_step (T' := T34) (f' := (F32 87 [(.ref b30)])) (fun t k => XS.aload X34.here hx rfl (hb hby at_85) rfl rfl k) ?_
      obtain ⟨cq35, kq35, q35a, q35b, q35c⟩ := isOf hZ rfl E_b30
      obtain ⟨_, _, ⟨T35, L35, k35, n35⟩, -, X35, ⟨Lc35, hQ35, l35, y35, z35⟩, st35⟩ := X34.virtualBack hx (y := (⟨"com/example/lit2/lit2/weave/TexOutput", "dropFinalBreak", "()V"⟩ : MethodName)) (z := (⟨"com/example/lit2/lit2/weave/TexOutput", "dropFinalBreak", "()V"⟩ : MethodName)) hown (mvT hZ (hw _ (List.mem_of_getElem? (i := 27) rfl))) (mvT hZ (hw _ (List.mem_of_getElem? (i := 28) rfl))) (notFace_of_selects (args := #[]) (mvT hZ (hw _ (List.mem_of_getElem? (i := 30) rfl)))) (mvT hZ (hw _ (List.mem_of_getElem? (i := 30) rfl))) (mvT hZ (hw _ (List.mem_of_getElem? (i := 29) rfl))) (by decide) (backOf (W := 0) (rm5_1 l Z a0 hw [] b30 T34.heap n0 Zz (own_sb c23) (0 : Int32) (0 : Int32) bb31 kk31 ⟨E_b30, GL34, GN34, GW34, GV34, EXb31, nab31⟩ g_b30 g_bb31) hZ (hw _ (List.mem_of_getElem? (i := 31) rfl)) (hw _ (List.mem_of_getElem? (i := 7) rfl)) (by decide) (by decide)) q35a q35c (g := (F32 87 [(.ref b30)])) rfl (by rw [hml]; rfl) (Steps.refl _) (argsL := []) (rest := []) (lenOf pd_0_1 rfl) rfl (by show 2 * 0 + _ ≤ _; exact Nat.le_of_eq rfl) (hb hby at_87) (fun _ _ => ⟨rfl, rfl, (by decide : 4 + 0 ≤ _), (by decide : 65625 + 0 ≤ _)⟩)
      dsimp only [Pt.U, Pt.locs, Pt.cells, Pt.slots] at X35 l35 y35 z35 st35 hQ35
      subst l35 y35 z35
      obtain ⟨rfl, N35q, K35, PE35, PL35, PN35, PW35, PV35, EXp35, nap35⟩ := hQ35
      have N35 := Fr.app N34 N35q
      replace S_CS := own_sta_keep S_CS K35 (allS ⟨_, E_b30⟩ (allS ⟨_, EXb31⟩ all0))
      replace S_FM := own_sta_keep S_FM K35 (allS ⟨_, E_b30⟩ (allS ⟨_, EXb31⟩ all0))
      replace V_b22 := V_b22.keep K35 (ninS ne_b22_b30 (ninS ne_b22_bb31 nin0))
      replace EX_b22 := EX_b22.keep K35
      replace E_b30 := E_b30.keep K35
      replace EXb31 := EXb31.keep K35
      replace Zz := Nat.le_trans Zz K35.1
      replace Kp := Kp.trans K35 (allS (Or.inr sz_b30) (allS (Or.inr sz_bb31) all0))
      refine ownW_step (T' := T35) (f' := (F32 90 [])) (fun t k => st35.trans k) ?_
      refine ownW_step (T' := T35) (f' := (F32 92 [(.int (1 : Int32))])) (fun t k => XS.iload X35.here hx rfl (hb hby at_90) rfl k) ?_
      let F36 : Nat → List Value → JFrame := fun a b => mkF m a #[.val (.int p1), .val (.int p2), .val (.int p3), .val (.int p4), .val (.int (1 : Int32)), .val (.ref b22), .val (.ref b30), .val (.int (1 : Int32))] b
      refine ownW_step (T' := T35) (f' := (F36 94 [])) (fun t k => XS.istore X35.here hx rfl (hb hby at_92) rfl (l' := #[.val (.int p1), .val (.int p2), .val (.int p3), .val (.int p4), .val (.int (1 : Int32)), .val (.ref b22), .val (.ref b30), .val (.int (1 : Int32))]) rfl k) ?_
      refine ownW_step (T' := T35) (f' := (F36 96 [(.int (1 : Int32))])) (fun t k => XS.iload X35.here hx rfl (hb hby at_94) rfl k) ?_
      refine ownW_step (T' := T35) (f' := (F36 97 [(.int (2 : Int32)), (.int (1 : Int32))])) (fun t k => XS.iconst X35.here hx rfl (hb hby at_96) k) ?_
      refine ownW_step (T' := T35) (f' := (F36 154 [])) (fun t k => XS.icmpYes X35.here hx rfl (pc0 := 97) (pc' := 154) rfl (hb hby at_97) rfl (tlt (by decide : (1 : Int32) < (2 : Int32))).1 (by decide) (by decide) k) ?_
      refine ownW_step (T' := T35) (f' := (F36 156 [(.ref b30)])) (fun t k => XS.aload X35.here hx rfl (hb hby at_154) rfl rfl k) ?_
      obtain ⟨cq37, kq37, q37a, q37b, q37c⟩ := isOf hZ rfl E_b30
      obtain ⟨_, _, ⟨T37, L37, k37, n37⟩, -, X37, ⟨Lc37, hQ37, l37, y37, z37⟩, st37⟩ := X35.virtualBack hx (y := (⟨"com/example/lit2/lit2/weave/TexOutput", "lineLength", "()I"⟩ : MethodName)) (z := (⟨"com/example/lit2/lit2/weave/TexOutput", "lineLength", "()I"⟩ : MethodName)) hown (mvT hZ (hw _ (List.mem_of_getElem? (i := 32) rfl))) (mvT hZ (hw _ (List.mem_of_getElem? (i := 33) rfl))) (notFace_of_selects (args := #[]) (mvT hZ (hw _ (List.mem_of_getElem? (i := 35) rfl)))) (mvT hZ (hw _ (List.mem_of_getElem? (i := 35) rfl))) (mvT hZ (hw _ (List.mem_of_getElem? (i := 34) rfl))) (by decide) (backOf (W := 0) (rm6 l Z a0 hw [] b30 T35.heap n0 Zz (1 : Int32) PN35) hZ (hw _ (List.mem_of_getElem? (i := 36) rfl)) (hw _ (List.mem_of_getElem? (i := 7) rfl)) (by decide) (by decide)) q37a q37c (g := (F36 156 [(.ref b30)])) rfl (by rw [hml]; rfl) (Steps.refl _) (argsL := []) (rest := []) (lenOf pd_0_2 rfl) rfl (by show 2 * 0 + _ ≤ _; exact Nat.le_of_eq rfl) (hb hby at_156) (fun _ _ => ⟨rfl, rfl, (by decide : 4 + 0 ≤ _), (by decide : 65625 + 0 ≤ _)⟩)
      dsimp only [Pt.U, Pt.locs, Pt.cells, Pt.slots] at X37 l37 y37 z37 st37 hQ37
      subst l37 y37 z37
      obtain ⟨rfl, N37q, E37⟩ := hQ37
      have N37 := Fr.app N35 N37q
      refine ownW_step (T' := T37) (f' := (F36 159 [(.int (1 : Int32))])) (fun t k => st37.trans k) ?_
      refine ownW_step (T' := T37) (f' := (F36 161 [(.int (1 : Int32)), (.int (1 : Int32))])) (fun t k => XS.iload X37.here hx rfl (hb hby at_159) rfl k) ?_
      refine ownW_step (T' := T37) (f' := (F36 164 [])) (fun t k => XS.icmpNo X37.here hx rfl (hb hby at_161) rfl (teq (by decide : (1 : Int32) = (1 : Int32))).2 k) ?_
      refine ownW_step (T' := T37) (f' := (F36 166 [(.ref b30)])) (fun t k => XS.aload X37.here hx rfl (hb hby at_164) rfl rfl k) ?_
      refine ownW_step (T' := T37) (f' := (F36 168 [(.int (1 : Int32)), (.ref b30)])) (fun t k => XS.iload X37.here hx rfl (hb hby at_166) rfl k) ?_
      refine ownW_step (T' := T37) (f' := (F36 170 [(.ref b22), (.int (1 : Int32)), (.ref b30)])) (fun t k => XS.aload X37.here hx rfl (hb hby at_168) rfl rfl k) ?_
      obtain ⟨_, _, ⟨T38, L38, k38, n38⟩, -, X38, ⟨Lc38, hQ38, l38, y38, z38⟩, st38⟩ := Jvm.LawKit.callS X37 hx (y := (⟨"com/example/lit2/lit2/weave/TexOutputDropFinalBreakPinLaw", "str", "(I[C)Ljava/lang/String;"⟩ : MethodName)) hown (mvT hZ (hw _ (List.mem_of_getElem? (i := 37) rfl))) (mvT hZ (hw _ (List.mem_of_getElem? (i := 38) rfl))) (mvT hZ (hw _ (List.mem_of_getElem? (i := 3) rfl))) (mvT hZ (hw _ (List.mem_of_getElem? (i := 39) rfl))) (by decide) (backOf (W := 1) (rm7_1 l Z a0 hw [] b22 T35.heap n0 Zz c23 hC23 c25 c27 k22 V_b22  cs S_CS hcs) hZ (hw _ (List.mem_of_getElem? (i := 39) rfl)) (hw _ (List.mem_of_getElem? (i := 3) rfl)) (by decide) (by decide)) (g := (F36 170 [(.ref b22), (.int (1 : Int32)), (.ref b30)])) rfl (by rw [hml]; rfl) (argsL := [(.int (1 : Int32)), (.ref b22)]) (rest := [(.ref b30)]) (lenOf pd_0_3 rfl) rfl (by show 2 * 0 + _ ≤ _; exact Nat.le_of_eq rfl) (hb hby at_170) (fun _ _ => ⟨rfl, E37, (by decide : 4 + 3 ≤ _), (by decide : 65625 + 6 ≤ _)⟩)
      dsimp only [Pt.U, Pt.locs, Pt.cells, Pt.slots] at X38 l38 y38 z38 st38 hQ38
      subst l38 y38 z38
      obtain ⟨rr38, rb38, rk38, rfl, N38q, K38, Os38⟩ := hQ38
      have N38 := Fr.app N37 N38q
      replace S_CS := own_sta_keep S_CS K38 all0
      replace S_FM := own_sta_keep S_FM K38 all0
      replace V_b22 := V_b22.keep K38 nin0
      replace EX_b22 := EX_b22.keep K38
      replace E_b30 := E_b30.keep K38
      replace EXb31 := EXb31.keep K38
      replace PL35 := PL35.keep K38 nin0
      replace PN35 := PN35.keep K38 nin0
      replace PW35 := PW35.keep K38 nin0
      replace PV35 := PV35.keep K38 nin0
      replace Zz := Nat.le_trans Zz K38.1
      replace Kp := Kp.trans K38 all0
      refine ownW_step (T' := T38) (f' := (F36 173 [(.ref rr38), (.ref b30)])) (fun t k => st38 t k) ?_
      obtain ⟨cq39, kq39, q39a, q39b, q39c⟩ := isOf hZ rfl E_b30
      obtain ⟨_, _, ⟨T39, L39, k39, n39⟩, -, X39, ⟨Lc39, hQ39, l39, y39, z39⟩, st39⟩ := X38.virtualBack hx (y := (⟨"com/example/lit2/lit2/weave/TexOutput", "endsWith", "(Ljava/lang/String;)Z"⟩ : MethodName)) (z := (⟨"com/example/lit2/lit2/weave/TexOutput", "endsWith", "(Ljava/lang/String;)Z"⟩ : MethodName)) hown (mvT hZ (hw _ (List.mem_of_getElem? (i := 66) rfl))) (mvT hZ (hw _ (List.mem_of_getElem? (i := 67) rfl))) (notFace_of_selects (args := #[]) (mvT hZ (hw _ (List.mem_of_getElem? (i := 69) rfl)))) (mvT hZ (hw _ (List.mem_of_getElem? (i := 69) rfl))) (mvT hZ (hw _ (List.mem_of_getElem? (i := 68) rfl))) (by decide) (backOf (W := 0) (rm13_1 l Z a0 hw [] b30 rr38 T38.heap n0 Zz (own_sb c23) (0 : Int32) (0 : Int32) bb31 kk31 ⟨E_b30, PL35, PN35, PW35, PV35, EXb31, nab31⟩ rb38 rk38 Os38 cs S_CS hcs fm S_FM hfc hfr) hZ (hw _ (List.mem_of_getElem? (i := 70) rfl)) (hw _ (List.mem_of_getElem? (i := 7) rfl)) (by decide) (by decide)) q39a q39c (g := (F36 173 [(.ref rr38), (.ref b30)])) rfl (by rw [hml]; rfl) (Steps.refl _) (argsL := [(.ref rr38)]) (rest := []) (lenOf pd_0_4 rfl) rfl (by show 2 * 0 + _ ≤ _; exact Nat.le_of_eq rfl) (hb hby at_173) (fun _ _ => ⟨rfl, rfl, (by decide : 7 + 0 ≤ _), (by decide : 65631 + 0 ≤ _)⟩)
      dsimp only [Pt.U, Pt.locs, Pt.cells, Pt.slots] at X39 l39 y39 z39 st39 hQ39
      subst l39 y39 z39
      obtain ⟨rfl, N39q, E39⟩ := hQ39
      have N39 := Fr.app N38 N39q
      refine ownW_step (T' := T39) (f' := (F36 176 [(.int (1 : Int32))])) (fun t k => st39.trans k) ?_
      refine ownW_step (T' := T39) (f' := (F36 179 [])) (fun t k => XS.ifNo X39.here hx rfl (hb hby at_176) rfl ((if0 _ _).trans (feq (by decide : ¬ ((1 : Int32) = (0 : Int32)))).1) k) ?_
      refine ownW_step (T' := T39) (f' := (F36 181 [(.ref b30)])) (fun t k => XS.aload X39.here hx rfl (hb hby at_179) rfl rfl k) ?_
      obtain ⟨cq40, kq40, q40a, q40b, q40c⟩ := isOf hZ E39 E_b30
      obtain ⟨_, _, ⟨T40, L40, k40, n40⟩, -, X40, ⟨Lc40, hQ40, l40, y40, z40⟩, st40⟩ := X39.virtualBack hx (y := (⟨"com/example/lit2/lit2/weave/TexOutput", "linesWritten", "()I"⟩ : MethodName)) (z := (⟨"com/example/lit2/lit2/weave/TexOutput", "linesWritten", "()I"⟩ : MethodName)) hown (mvT hZ (hw _ (List.mem_of_getElem? (i := 103) rfl))) (mvT hZ (hw _ (List.mem_of_getElem? (i := 104) rfl))) (notFace_of_selects (args := #[]) (mvT hZ (hw _ (List.mem_of_getElem? (i := 106) rfl)))) (mvT hZ (hw _ (List.mem_of_getElem? (i := 106) rfl))) (mvT hZ (hw _ (List.mem_of_getElem? (i := 105) rfl))) (by decide) (backOf (W := 0) (rm21 l Z a0 hw [] b30 T38.heap n0 Zz PW35) hZ (hw _ (List.mem_of_getElem? (i := 107) rfl)) (hw _ (List.mem_of_getElem? (i := 7) rfl)) (by decide) (by decide)) q40a q40c (g := (F36 181 [(.ref b30)])) rfl (by rw [hml]; rfl) (Steps.refl _) (argsL := []) (rest := []) (lenOf pd_0_2 rfl) rfl (by show 2 * 0 + _ ≤ _; exact Nat.le_of_eq rfl) (hb hby at_181) (fun _ _ => ⟨rfl, E39, (by decide : 7 + 0 ≤ _), (by decide : 65631 + 0 ≤ _)⟩)
      dsimp only [Pt.U, Pt.locs, Pt.cells, Pt.slots] at X40 l40 y40 z40 st40 hQ40
      subst l40 y40 z40
      obtain ⟨rfl, N40q, E40⟩ := hQ40
      have N40 := Fr.app N39 N40q
      refine ownW_step (T' := T40) (f' := (F36 184 [(.int (0 : Int32))])) (fun t k => st40.trans k) ?_
      refine ownW_step (T' := T40) (f' := (F36 187 [])) (fun t k => XS.ifNo X40.here hx rfl (hb hby at_184) rfl ((if0 _ _).trans (teq (by decide : (0 : Int32) = (0 : Int32))).2) k) ?_
      refine ownW_step (T' := T40) (f' := (F36 188 [(.int (1 : Int32))])) (fun t k => XS.iconst X40.here hx rfl (hb hby at_187) k) ?_
      refine ownW_step (T' := T40) (f' := (F36 192 [(.int (1 : Int32))])) (fun t k => XS.goto X40.here hx rfl (pc0 := 188) (pc' := 192) rfl (hb hby at_188) (by decide) (by decide) k) ?_
      exact ownW_retN X40 ((State.WarmedH.refl s).since _) (Nat.le_refl _) hx hlk (t := .boolean) Bd.returns (by simp) (hb hby at_192) (by decide) (by decide) ⟨rfl, N40⟩
    · skip
      let F41 : Nat → List Value → JFrame := fun a b => mkF m a #[.val (.int p1), .val (.int p2), .val (.int p3), .val (.int p4), .val (.int (2 : Int32)), .unset, .unset, .unset] b
      refine ownW_step (T' := T_2) (f' := (F41 6 [(.int (3 : Int32))])) (fun t k => XS.iconst X_2.here hx rfl (hb hby at_5) k) ?_
      obtain ⟨T42, h42, k42, X42, e42, E42, A42, EX42, st42⟩ := newPE X_2 hx hZ (hw _ (List.mem_of_getElem? (i := 0) rfl)) e_2 (g := (F41 6 [(.int (3 : Int32))])) rfl (hb hby at_6) rfl (by decide) (cap := 3) (by decide) (by decide) (by decide) (by decide) (ad := "[C") rfl
      obtain ⟨b42, g42⟩ : ∃ z, z = h0.size := ⟨_, rfl⟩
      rw [← g42] at A42 EX42 st42
      have g_b42 : n0 ≤ b42 := Nat.le_trans Zz (Nat.le_of_eq g42.symm)
      have sz_b42 : h0.size ≤ b42 := Nat.le_trans Kp.1 (Nat.le_of_eq g42.symm)
      replace S_CS := S_CS.ext E42
      replace S_FM := S_FM.ext E42
      replace Zz := Nat.le_trans Zz E42.1
      replace Kp := Kp.ext E42
      have V_b42 : Arv Z h42 b42 k42 .char (3 : Int32) [(.int (0 : Int32)), (.int (0 : Int32)), (.int (0 : Int32))] (.int (0 : Int32)) := (Arv.new A42 (by decide)).pad (pad_rep [] (.int (0 : Int32)) 3)
      have EX_b42 := EX42
      refine ownW_step (T' := T42) (f' := (F41 8 [(.ref b42)])) (fun t k => st42 t k) ?_
      refine ownW_step (T' := T42) (f' := (F41 9 [(.ref b42), (.ref b42)])) (fun t k => XS.dup X42.here hx rfl (hb hby at_8) rfl rfl k) ?_
      refine ownW_step (T' := T42) (f' := (F41 10 [(.int (0 : Int32)), (.ref b42), (.ref b42)])) (fun t k => XS.iconst X42.here hx rfl (hb hby at_9) k) ?_
      refine ownW_step (T' := T42) (f' := (F41 11 [(.int p1), (.int (0 : Int32)), (.ref b42), (.ref b42)])) (fun t k => XS.iloadN X42.here hx rfl (hb hby at_10) rfl k) ?_
      obtain ⟨_, _, ⟨T43, L43, k43, n43⟩, -, X43, ⟨Lc43, hQ43, l43, y43, z43⟩, st43⟩ := Jvm.LawKit.callS X42 hx (y := (⟨"com/example/lit2/lit2/weave/TexOutputDropFinalBreakPinLaw", "pick", "(I)C"⟩ : MethodName)) hown (mvT hZ (hw _ (List.mem_of_getElem? (i := 1) rfl))) (mvT hZ (hw _ (List.mem_of_getElem? (i := 2) rfl))) (mvT hZ (hw _ (List.mem_of_getElem? (i := 3) rfl))) (mvT hZ (hw _ (List.mem_of_getElem? (i := 4) rfl))) (by decide) (backOf (W := 3) (rm1 l Z a0 hw [] p1 h42 n0 Zz) hZ (hw _ (List.mem_of_getElem? (i := 4) rfl)) (hw _ (List.mem_of_getElem? (i := 3) rfl)) (by decide) (by decide)) (g := (F41 11 [(.int p1), (.int (0 : Int32)), (.ref b42), (.ref b42)])) rfl (by rw [hml]; rfl) (argsL := [(.int p1)]) (rest := [(.int (0 : Int32)), (.ref b42), (.ref b42)]) (lenOf pd_0_0 rfl) rfl (by show 2 * 0 + _ ≤ _; exact Nat.le_of_eq rfl) (hb hby at_11) (fun _ _ => ⟨rfl, e42, (by decide : 1 + 0 ≤ _), (by decide : 3 + 0 ≤ _)⟩)
      dsimp only [Pt.U, Pt.locs, Pt.cells, Pt.slots] at X43 l43 y43 z43 st43 hQ43
      subst l43 y43 z43
      obtain ⟨c43, rfl, N43q, E43, hC43⟩ := hQ43
      have N43 := Fr.app N_2 N43q
      refine ownW_step (T' := T43) (f' := (F41 14 [(.int c43), (.int (0 : Int32)), (.ref b42), (.ref b42)])) (fun t k => st43 t k) ?_
      obtain ⟨cl44, Ar44, q44, S44, M44, H44, G44⟩ := V_b42
      have hin44 : ¬ ((0 : Int32) < 0 ∨ cl44.slots.size ≤ ((0 : Int32)).toNatClampNeg) := inb_of S44 ⟨by decide, by decide⟩
      obtain ⟨T44, h44, X44, e44, W44, st44⟩ := stC X43 hx hZ E43 Ar44 (j := (0 : Int32)) hin44 (g := (F41 14 [(.int c43), (.int (0 : Int32)), (.ref b42), (.ref b42)])) rfl rfl (hb hby at_14)
      have V_b42 : Arv Z h44 b42 k42 .char (3 : Int32) [(.int c43), (.int (0 : Int32)), (.int (0 : Int32))] (.int (0 : Int32)) := by have q := Arv.set Ar44 q44 S44 M44 H44 G44 (fits_nar_char _) W44 0 rfl (Nat.le_of_ble_eq_true rfl); rw [own_nc hC43] at q; exact q
      replace S_CS := S_CS.wr W44
      replace S_FM := S_FM.wr W44
      replace EX_b42 := EX_b42.wr W44
      replace Zz := Nat.le_trans Zz (Keep.of_wr W44).1
      replace Kp := Kp.wr W44 (Or.inr sz_b42)
      have N44 := Fr.snoc X44 N43 g_b42
      refine ownW_step (T' := T44) (f' := (F41 15 [(.ref b42)])) (fun t k => st44 t k) ?_
      refine ownW_step (T' := T44) (f' := (F41 16 [(.ref b42), (.ref b42)])) (fun t k => XS.dup X44.here hx rfl (hb hby at_15) rfl rfl k) ?_
      refine ownW_step (T' := T44) (f' := (F41 17 [(.int (1 : Int32)), (.ref b42), (.ref b42)])) (fun t k => XS.iconst X44.here hx rfl (hb hby at_16) k) ?_
      refine ownW_step (T' := T44) (f' := (F41 18 [(.int p2), (.int (1 : Int32)), (.ref b42), (.ref b42)])) (fun t k => XS.iloadN X44.here hx rfl (hb hby at_17) rfl k) ?_
      obtain ⟨_, _, ⟨T45, L45, k45, n45⟩, -, X45, ⟨Lc45, hQ45, l45, y45, z45⟩, st45⟩ := Jvm.LawKit.callS X44 hx (y := (⟨"com/example/lit2/lit2/weave/TexOutputDropFinalBreakPinLaw", "pick", "(I)C"⟩ : MethodName)) hown (mvT hZ (hw _ (List.mem_of_getElem? (i := 1) rfl))) (mvT hZ (hw _ (List.mem_of_getElem? (i := 2) rfl))) (mvT hZ (hw _ (List.mem_of_getElem? (i := 3) rfl))) (mvT hZ (hw _ (List.mem_of_getElem? (i := 4) rfl))) (by decide) (backOf (W := 3) (rm1 l Z a0 hw [] p2 h44 n0 Zz) hZ (hw _ (List.mem_of_getElem? (i := 4) rfl)) (hw _ (List.mem_of_getElem? (i := 3) rfl)) (by decide) (by decide)) (g := (F41 18 [(.int p2), (.int (1 : Int32)), (.ref b42), (.ref b42)])) rfl (by rw [hml]; rfl) (argsL := [(.int p2)]) (rest := [(.int (1 : Int32)), (.ref b42), (.ref b42)]) (lenOf pd_0_0 rfl) rfl (by show 2 * 0 + _ ≤ _; exact Nat.le_of_eq rfl) (hb hby at_18) (fun _ _ => ⟨rfl, e44, (by decide : 1 + 0 ≤ _), (by decide : 3 + 0 ≤ _)⟩)
      dsimp only [Pt.U, Pt.locs, Pt.cells, Pt.slots] at X45 l45 y45 z45 st45 hQ45
      subst l45 y45 z45
      obtain ⟨c45, rfl, N45q, E45, hC45⟩ := hQ45
      have N45 := Fr.app N44 N45q
      refine ownW_step (T' := T45) (f' := (F41 21 [(.int c45), (.int (1 : Int32)), (.ref b42), (.ref b42)])) (fun t k => st45 t k) ?_
      obtain ⟨cl46, Ar46, q46, S46, M46, H46, G46⟩ := V_b42
      have hin46 : ¬ ((1 : Int32) < 0 ∨ cl46.slots.size ≤ ((1 : Int32)).toNatClampNeg) := inb_of S46 ⟨by decide, by decide⟩
      obtain ⟨T46, h46, X46, e46, W46, st46⟩ := stC X45 hx hZ E45 Ar46 (j := (1 : Int32)) hin46 (g := (F41 21 [(.int c45), (.int (1 : Int32)), (.ref b42), (.ref b42)])) rfl rfl (hb hby at_21)
      have V_b42 : Arv Z h46 b42 k42 .char (3 : Int32) [(.int c43), (.int c45), (.int (0 : Int32))] (.int (0 : Int32)) := by have q := Arv.set Ar46 q46 S46 M46 H46 G46 (fits_nar_char _) W46 1 rfl (Nat.le_of_ble_eq_true rfl); rw [own_nc hC45] at q; exact q
      replace S_CS := S_CS.wr W46
      replace S_FM := S_FM.wr W46
      replace EX_b42 := EX_b42.wr W46
      replace Zz := Nat.le_trans Zz (Keep.of_wr W46).1
      replace Kp := Kp.wr W46 (Or.inr sz_b42)
      have N46 := Fr.snoc X46 N45 g_b42
      refine ownW_step (T' := T46) (f' := (F41 22 [(.ref b42)])) (fun t k => st46 t k) ?_
      refine ownW_step (T' := T46) (f' := (F41 23 [(.ref b42), (.ref b42)])) (fun t k => XS.dup X46.here hx rfl (hb hby at_22) rfl rfl k) ?_
      refine ownW_step (T' := T46) (f' := (F41 24 [(.int (2 : Int32)), (.ref b42), (.ref b42)])) (fun t k => XS.iconst X46.here hx rfl (hb hby at_23) k) ?_
      refine ownW_step (T' := T46) (f' := (F41 25 [(.int p3), (.int (2 : Int32)), (.ref b42), (.ref b42)])) (fun t k => XS.iloadN X46.here hx rfl (hb hby at_24) rfl k) ?_
      obtain ⟨_, _, ⟨T47, L47, k47, n47⟩, -, X47, ⟨Lc47, hQ47, l47, y47, z47⟩, st47⟩ := Jvm.LawKit.callS X46 hx (y := (⟨"com/example/lit2/lit2/weave/TexOutputDropFinalBreakPinLaw", "pick", "(I)C"⟩ : MethodName)) hown (mvT hZ (hw _ (List.mem_of_getElem? (i := 1) rfl))) (mvT hZ (hw _ (List.mem_of_getElem? (i := 2) rfl))) (mvT hZ (hw _ (List.mem_of_getElem? (i := 3) rfl))) (mvT hZ (hw _ (List.mem_of_getElem? (i := 4) rfl))) (by decide) (backOf (W := 3) (rm1 l Z a0 hw [] p3 h46 n0 Zz) hZ (hw _ (List.mem_of_getElem? (i := 4) rfl)) (hw _ (List.mem_of_getElem? (i := 3) rfl)) (by decide) (by decide)) (g := (F41 25 [(.int p3), (.int (2 : Int32)), (.ref b42), (.ref b42)])) rfl (by rw [hml]; rfl) (argsL := [(.int p3)]) (rest := [(.int (2 : Int32)), (.ref b42), (.ref b42)]) (lenOf pd_0_0 rfl) rfl (by show 2 * 0 + _ ≤ _; exact Nat.le_of_eq rfl) (hb hby at_25) (fun _ _ => ⟨rfl, e46, (by decide : 1 + 0 ≤ _), (by decide : 3 + 0 ≤ _)⟩)
      dsimp only [Pt.U, Pt.locs, Pt.cells, Pt.slots] at X47 l47 y47 z47 st47 hQ47
      subst l47 y47 z47
      obtain ⟨c47, rfl, N47q, E47, hC47⟩ := hQ47
      have N47 := Fr.app N46 N47q
      refine ownW_step (T' := T47) (f' := (F41 28 [(.int c47), (.int (2 : Int32)), (.ref b42), (.ref b42)])) (fun t k => st47 t k) ?_
      obtain ⟨cl48, Ar48, q48, S48, M48, H48, G48⟩ := V_b42
      have hin48 : ¬ ((2 : Int32) < 0 ∨ cl48.slots.size ≤ ((2 : Int32)).toNatClampNeg) := inb_of S48 ⟨by decide, by decide⟩
      obtain ⟨T48, h48, X48, e48, W48, st48⟩ := stC X47 hx hZ E47 Ar48 (j := (2 : Int32)) hin48 (g := (F41 28 [(.int c47), (.int (2 : Int32)), (.ref b42), (.ref b42)])) rfl rfl (hb hby at_28)
      have V_b42 : Arv Z h48 b42 k42 .char (3 : Int32) [(.int c43), (.int c45), (.int c47)] (.int (0 : Int32)) := by have q := Arv.set Ar48 q48 S48 M48 H48 G48 (fits_nar_char _) W48 2 rfl (Nat.le_of_ble_eq_true rfl); rw [own_nc hC47] at q; exact q
      replace S_CS := S_CS.wr W48
      replace S_FM := S_FM.wr W48
      replace EX_b42 := EX_b42.wr W48
      replace Zz := Nat.le_trans Zz (Keep.of_wr W48).1
      replace Kp := Kp.wr W48 (Or.inr sz_b42)
      have N48 := Fr.snoc X48 N47 g_b42
      refine ownW_step (T' := T48) (f' := (F41 29 [(.ref b42)])) (fun t k => st48 t k) ?_
      let F49 : Nat → List Value → JFrame := fun a b => mkF m a #[.val (.int p1), .val (.int p2), .val (.int p3), .val (.int p4), .val (.int (2 : Int32)), .val (.ref b42), .unset, .unset] b
      refine ownW_step (T' := T48) (f' := (F49 31 [])) (fun t k => XS.astore X48.here hx rfl (hb hby at_29) rfl rfl (l' := #[.val (.int p1), .val (.int p2), .val (.int p3), .val (.int p4), .val (.int (2 : Int32)), .val (.ref b42), .unset, .unset]) rfl k) ?_
      obtain ⟨T50, h50, X50, e50, E50, A50, D50, -, st50⟩ := newO X48 hx hZ hown (hw _ (List.mem_of_getElem? (i := 5) rfl)) (hw _ (List.mem_of_getElem? (i := 6) rfl)) (hw _ (List.mem_of_getElem? (i := 7) rfl)) e48 (g := (F49 31 [])) rfl (hb hby at_31) (by decide) (by decide)
      obtain ⟨b50, g50⟩ : ∃ z, z = h48.size := ⟨_, rfl⟩
      rw [← g50] at A50 D50 st50
      have ne_b42_b50 : b42 ≠ b50 := Nat.ne_of_lt (Nat.lt_of_lt_of_le V_b42.lt (Nat.le_of_eq g50.symm))
      have g_b50 : n0 ≤ b50 := Nat.le_trans Zz (Nat.le_of_eq g50.symm)
      have sz_b50 : h0.size ≤ b50 := Nat.le_trans Kp.1 (Nat.le_of_eq g50.symm)
      replace S_CS := S_CS.ext E50
      replace S_FM := S_FM.ext E50
      replace V_b42 := V_b42.ext E50
      replace EX_b42 := EX_b42.ext E50
      replace Zz := Nat.le_trans Zz E50.1
      replace Kp := Kp.ext E50
      have E_b50 := A50
      have F_document_b50 : Fld Z h50 b50 "com/example/lit2/lit2/weave/TexOutput" "document" "[B" .null := D50 (Or.inl (hw _ (List.mem_of_getElem? (i := 17) rfl))) (ty := (.array .byte)) (by decide)
      have F_line_b50 : Fld Z h50 b50 "com/example/lit2/lit2/weave/TexOutput" "line" "[B" .null := D50 (Or.inr (hw _ (List.mem_of_getElem? (i := 19) rfl))) (ty := (.array .byte)) (by decide)
      have F_length_b50 : Fld Z h50 b50 "com/example/lit2/lit2/weave/TexOutput" "length" "I" (.int (0 : Int32)) := D50 (Or.inl (hw _ (List.mem_of_getElem? (i := 26) rfl))) (ty := .int) (by decide)
      have F_linesWritten_b50 : Fld Z h50 b50 "com/example/lit2/lit2/weave/TexOutput" "linesWritten" "I" (.int (0 : Int32)) := D50 (Or.inl (hw _ (List.mem_of_getElem? (i := 109) rfl))) (ty := .int) (by decide)
      refine ownW_step (T' := T50) (f' := (F49 34 [(.ref b50)])) (fun t k => st50 t k) ?_
      refine ownW_step (T' := T50) (f' := (F49 35 [(.ref b50), (.ref b50)])) (fun t k => XS.dup X50.here hx rfl (hb hby at_34) rfl rfl k) ?_
      obtain ⟨_, _, ⟨T51, L51, k51, n51⟩, -, X51, ⟨Lc51, hQ51, l51, y51, z51⟩, st51⟩ := X50.specialBack hx (y := (⟨"com/example/lit2/lit2/weave/TexOutput", "<init>", "()V"⟩ : MethodName)) rfl hown (mvT hZ (hw _ (List.mem_of_getElem? (i := 8) rfl))) (mvT hZ (hw _ (List.mem_of_getElem? (i := 9) rfl))) (mvT hZ (hw _ (List.mem_of_getElem? (i := 10) rfl))) (by decide) (backOf (W := 1) (rm2 l Z a0 hw [] b50 h50 n0 Zz E_b50 F_document_b50 F_line_b50 F_length_b50 F_linesWritten_b50 g_b50) hZ (hw _ (List.mem_of_getElem? (i := 10) rfl)) (hw _ (List.mem_of_getElem? (i := 7) rfl)) (by decide) (by decide)) (g := (F49 35 [(.ref b50), (.ref b50)])) rfl (by rw [hml]; rfl) (Steps.refl _) (a := b50) (argsL := []) (rest := [(.ref b50)]) (lenOf pd_0_1 rfl) rfl (by show 2 * 0 + _ ≤ _; exact Nat.le_of_eq rfl) (hb hby at_35) (fun _ _ => ⟨rfl, e50, (by decide : 2 + 2 ≤ _), (by decide : 9 + 65616 ≤ _)⟩)
      dsimp only [Pt.U, Pt.locs, Pt.cells, Pt.slots] at X51 l51 y51 z51 st51 hQ51
      subst l51 y51 z51
      obtain ⟨rfl, N51q, K51, bb51, kk51, zz51, FE51, FL51, FN51, FW51, FV51, EXb51, nab51⟩ := hQ51
      have N51 := Fr.app N48 N51q
      have ne_b42_bb51 : b42 ≠ bb51 := Nat.ne_of_lt (Nat.lt_of_lt_of_le V_b42.lt zz51)
      have ne_b50_bb51 : b50 ≠ bb51 := Nat.ne_of_lt (Nat.lt_of_lt_of_le E_b50.lt zz51)
      have sz_bb51 : h0.size ≤ bb51 := Nat.le_trans Kp.1 zz51
      have g_bb51 : n0 ≤ bb51 := Nat.le_trans Zz zz51
      replace S_CS := own_sta_keep S_CS K51 (allS ⟨_, E_b50⟩ all0)
      replace S_FM := own_sta_keep S_FM K51 (allS ⟨_, E_b50⟩ all0)
      replace V_b42 := V_b42.keep K51 (ninS ne_b42_b50 nin0)
      replace EX_b42 := EX_b42.keep K51
      replace E_b50 := E_b50.keep K51
      replace Zz := Nat.le_trans Zz K51.1
      replace Kp := Kp.trans K51 (allS (Or.inr sz_b50) all0)
      refine ownW_step (T' := T51) (f' := (F49 38 [(.ref b50)])) (fun t k => st51.trans k) ?_
      let F52 : Nat → List Value → JFrame := fun a b => mkF m a #[.val (.int p1), .val (.int p2), .val (.int p3), .val (.int p4), .val (.int (2 : Int32)), .val (.ref b42), .val (.ref b50), .unset] b
      refine ownW_step (T' := T51) (f' := (F52 40 [])) (fun t k => XS.astore X51.here hx rfl (hb hby at_38) rfl rfl (l' := #[.val (.int p1), .val (.int p2), .val (.int p3), .val (.int p4), .val (.int (2 : Int32)), .val (.ref b42), .val (.ref b50), .unset]) rfl k) ?_
      refine ownW_step (T' := T51) (f' := (F52 42 [(.int (2 : Int32))])) (fun t k => XS.iload X51.here hx rfl (hb hby at_40) rfl k) ?_
      refine ownW_step (T' := T51) (f' := (F52 43 [(.int (1 : Int32)), (.int (2 : Int32))])) (fun t k => XS.iconst X51.here hx rfl (hb hby at_42) k) ?_
      refine ownW_step (T' := T51) (f' := (F52 46 [])) (fun t k => XS.icmpNo X51.here hx rfl (hb hby at_43) rfl (flt (by decide : ¬ ((2 : Int32) < (1 : Int32)))).1 k) ?_
      refine ownW_step (T' := T51) (f' := (F52 48 [(.ref b50)])) (fun t k => XS.aload X51.here hx rfl (hb hby at_46) rfl rfl k) ?_
      refine ownW_step (T' := T51) (f' := (F52 50 [(.ref b42), (.ref b50)])) (fun t k => XS.aload X51.here hx rfl (hb hby at_48) rfl rfl k) ?_
      refine ownW_step (T' := T51) (f' := (F52 51 [(.int (0 : Int32)), (.ref b42), (.ref b50)])) (fun t k => XS.iconst X51.here hx rfl (hb hby at_50) k) ?_
      obtain ⟨cl53, Ar53, q53, S53, M53, H53, G53⟩ := id V_b42
      have hin53 : ¬ ((0 : Int32) < 0 ∨ cl53.slots.size ≤ ((0 : Int32)).toNatClampNeg) := inb_of S53 ⟨by decide, by decide⟩
      have hat53 : cl53.slots[((0 : Int32)).toNatClampNeg]? = some (.int c43) := own_at hin53 H53 0 rfl rfl
      refine ownW_step (T' := T51) (f' := (F52 52 [(.int c43), (.ref b50)])) (fun t k => X51.caload hx (j := (0 : Int32)) (v := (.int c43)) (by exact Ar53.1) (State.isArrayOf_alike hZ.alike Ar53.2.1) Ar53.2.2 hin53 hat53 (g := (F52 51 [(.int (0 : Int32)), (.ref b42), (.ref b50)])) rfl rfl (hb hby at_51) _ k) ?_
      obtain ⟨cq54, kq54, q54a, q54b, q54c⟩ := isOf hZ rfl E_b50
      obtain ⟨_, _, ⟨T54, L54, k54, n54⟩, -, X54, ⟨Lc54, hQ54, l54, y54, z54⟩, st54⟩ := X51.virtualBack hx (y := (⟨"com/example/lit2/lit2/weave/TexOutput", "out", "(C)V"⟩ : MethodName)) (z := (⟨"com/example/lit2/lit2/weave/TexOutput", "out", "(C)V"⟩ : MethodName)) hown (mvT hZ (hw _ (List.mem_of_getElem? (i := 20) rfl))) (mvT hZ (hw _ (List.mem_of_getElem? (i := 21) rfl))) (notFace_of_selects (args := #[]) (mvT hZ (hw _ (List.mem_of_getElem? (i := 23) rfl)))) (mvT hZ (hw _ (List.mem_of_getElem? (i := 23) rfl))) (mvT hZ (hw _ (List.mem_of_getElem? (i := 22) rfl))) (by decide) (backOf (W := 0) (rm4_0 l Z a0 hw [] b50 c43 T51.heap n0 Zz (.int (0 : Int32)) (.int (0 : Int32)) (.int (0 : Int32)) bb51 kk51 ⟨E_b50, FL51, FN51, FW51, FV51, EXb51, nab51⟩ g_b50 g_bb51) hZ (hw _ (List.mem_of_getElem? (i := 24) rfl)) (hw _ (List.mem_of_getElem? (i := 7) rfl)) (by decide) (by decide)) q54a q54c (g := (F52 52 [(.int c43), (.ref b50)])) rfl (by rw [hml]; rfl) (Steps.refl _) (argsL := [(.int c43)]) (rest := []) (lenOf pd_0_5 rfl) rfl (by show 2 * 0 + _ ≤ _; exact Nat.le_of_eq rfl) (hb hby at_52) (fun _ _ => ⟨rfl, rfl, (by decide : 4 + 0 ≤ _), (by decide : 65625 + 0 ≤ _)⟩)
      dsimp only [Pt.U, Pt.locs, Pt.cells, Pt.slots] at X54 l54 y54 z54 st54 hQ54
      subst l54 y54 z54
      obtain ⟨rfl, N54q, K54, GE54, GL54, GN54, GW54, GV54, EXg54, nag54⟩ := hQ54
      have N54 := Fr.app N51 N54q
      replace S_CS := own_sta_keep S_CS K54 (allS ⟨_, E_b50⟩ (allS ⟨_, EXb51⟩ all0))
      replace S_FM := own_sta_keep S_FM K54 (allS ⟨_, E_b50⟩ (allS ⟨_, EXb51⟩ all0))
      replace V_b42 := V_b42.keep K54 (ninS ne_b42_b50 (ninS ne_b42_bb51 nin0))
      replace EX_b42 := EX_b42.keep K54
      replace E_b50 := E_b50.keep K54
      replace EXb51 := EXb51.keep K54
      replace Zz := Nat.le_trans Zz K54.1
      replace Kp := Kp.trans K54 (allS (Or.inr sz_b50) (allS (Or.inr sz_bb51) all0))
      refine ownW_step (T' := T54) (f' := (F52 55 [])) (fun t k => st54.trans k) ?_
      refine ownW_step (T' := T54) (f' := (F52 57 [(.int (2 : Int32))])) (fun t k => XS.iload X54.here hx rfl (hb hby at_55) rfl k) ?_
      refine ownW_step (T' := T54) (f' := (F52 58 [(.int (2 : Int32)), (.int (2 : Int32))])) (fun t k => XS.iconst X54.here hx rfl (hb hby at_57) k) ?_
      refine ownW_step (T' := T54) (f' := (F52 61 [])) (fun t k => XS.icmpNo X54.here hx rfl (hb hby at_58) rfl (flt (by decide : ¬ ((2 : Int32) < (2 : Int32)))).1 k) ?_
      refine ownW_step (T' := T54) (f' := (F52 63 [(.ref b50)])) (fun t k => XS.aload X54.here hx rfl (hb hby at_61) rfl rfl k) ?_
      refine ownW_step (T' := T54) (f' := (F52 65 [(.ref b42), (.ref b50)])) (fun t k => XS.aload X54.here hx rfl (hb hby at_63) rfl rfl k) ?_
      refine ownW_step (T' := T54) (f' := (F52 66 [(.int (1 : Int32)), (.ref b42), (.ref b50)])) (fun t k => XS.iconst X54.here hx rfl (hb hby at_65) k) ?_
      obtain ⟨cl55, Ar55, q55, S55, M55, H55, G55⟩ := id V_b42
      have hin55 : ¬ ((1 : Int32) < 0 ∨ cl55.slots.size ≤ ((1 : Int32)).toNatClampNeg) := inb_of S55 ⟨by decide, by decide⟩
      have hat55 : cl55.slots[((1 : Int32)).toNatClampNeg]? = some (.int c45) := own_at hin55 H55 1 rfl rfl
      refine ownW_step (T' := T54) (f' := (F52 67 [(.int c45), (.ref b50)])) (fun t k => X54.caload hx (j := (1 : Int32)) (v := (.int c45)) (by exact Ar55.1) (State.isArrayOf_alike hZ.alike Ar55.2.1) Ar55.2.2 hin55 hat55 (g := (F52 66 [(.int (1 : Int32)), (.ref b42), (.ref b50)])) rfl rfl (hb hby at_66) _ k) ?_
      obtain ⟨cq56, kq56, q56a, q56b, q56c⟩ := isOf hZ rfl E_b50
      obtain ⟨_, _, ⟨T56, L56, k56, n56⟩, -, X56, ⟨Lc56, hQ56, l56, y56, z56⟩, st56⟩ := X54.virtualBack hx (y := (⟨"com/example/lit2/lit2/weave/TexOutput", "out", "(C)V"⟩ : MethodName)) (z := (⟨"com/example/lit2/lit2/weave/TexOutput", "out", "(C)V"⟩ : MethodName)) hown (mvT hZ (hw _ (List.mem_of_getElem? (i := 20) rfl))) (mvT hZ (hw _ (List.mem_of_getElem? (i := 21) rfl))) (notFace_of_selects (args := #[]) (mvT hZ (hw _ (List.mem_of_getElem? (i := 23) rfl)))) (mvT hZ (hw _ (List.mem_of_getElem? (i := 23) rfl))) (mvT hZ (hw _ (List.mem_of_getElem? (i := 22) rfl))) (by decide) (backOf (W := 0) (rm4_1 l Z a0 hw [] b50 c45 T54.heap n0 Zz (.int (own_sb c43)) (.int (0 : Int32)) (.int (0 : Int32)) bb51 kk51 ⟨E_b50, GL54, GN54, GW54, GV54, EXb51, nab51⟩ g_b50 g_bb51) hZ (hw _ (List.mem_of_getElem? (i := 24) rfl)) (hw _ (List.mem_of_getElem? (i := 7) rfl)) (by decide) (by decide)) q56a q56c (g := (F52 67 [(.int c45), (.ref b50)])) rfl (by rw [hml]; rfl) (Steps.refl _) (argsL := [(.int c45)]) (rest := []) (lenOf pd_0_5 rfl) rfl (by show 2 * 0 + _ ≤ _; exact Nat.le_of_eq rfl) (hb hby at_67) (fun _ _ => ⟨rfl, rfl, (by decide : 4 + 0 ≤ _), (by decide : 65625 + 0 ≤ _)⟩)
      dsimp only [Pt.U, Pt.locs, Pt.cells, Pt.slots] at X56 l56 y56 z56 st56 hQ56
      subst l56 y56 z56
      obtain ⟨rfl, N56q, K56, GE56, GL56, GN56, GW56, GV56, EXg56, nag56⟩ := hQ56
      have N56 := Fr.app N54 N56q
      replace S_CS := own_sta_keep S_CS K56 (allS ⟨_, E_b50⟩ (allS ⟨_, EXb51⟩ all0))
      replace S_FM := own_sta_keep S_FM K56 (allS ⟨_, E_b50⟩ (allS ⟨_, EXb51⟩ all0))
      replace V_b42 := V_b42.keep K56 (ninS ne_b42_b50 (ninS ne_b42_bb51 nin0))
      replace EX_b42 := EX_b42.keep K56
      replace E_b50 := E_b50.keep K56
      replace EXb51 := EXb51.keep K56
      replace Zz := Nat.le_trans Zz K56.1
      replace Kp := Kp.trans K56 (allS (Or.inr sz_b50) (allS (Or.inr sz_bb51) all0))
      refine ownW_step (T' := T56) (f' := (F52 70 [])) (fun t k => st56.trans k) ?_
      refine ownW_step (T' := T56) (f' := (F52 72 [(.int (2 : Int32))])) (fun t k => XS.iload X56.here hx rfl (hb hby at_70) rfl k) ?_
      refine ownW_step (T' := T56) (f' := (F52 73 [(.int (3 : Int32)), (.int (2 : Int32))])) (fun t k => XS.iconst X56.here hx rfl (hb hby at_72) k) ?_
      refine ownW_step (T' := T56) (f' := (F52 85 [])) (fun t k => XS.icmpYes X56.here hx rfl (pc0 := 73) (pc' := 85) rfl (hb hby at_73) rfl (tlt (by decide : (2 : Int32) < (3 : Int32))).1 (by decide) (by decide) k) ?_
      refine ownW_step (T' := T56) (f' := (F52 87 [(.ref b50)])) (fun t k => XS.aload X56.here hx rfl (hb hby at_85) rfl rfl k) ?_
      obtain ⟨cq57, kq57, q57a, q57b, q57c⟩ := isOf hZ rfl E_b50
      obtain ⟨_, _, ⟨T57, L57, k57, n57⟩, -, X57, ⟨Lc57, hQ57, l57, y57, z57⟩, st57⟩ := X56.virtualBack hx (y := (⟨"com/example/lit2/lit2/weave/TexOutput", "dropFinalBreak", "()V"⟩ : MethodName)) (z := (⟨"com/example/lit2/lit2/weave/TexOutput", "dropFinalBreak", "()V"⟩ : MethodName)) hown (mvT hZ (hw _ (List.mem_of_getElem? (i := 27) rfl))) (mvT hZ (hw _ (List.mem_of_getElem? (i := 28) rfl))) (notFace_of_selects (args := #[]) (mvT hZ (hw _ (List.mem_of_getElem? (i := 30) rfl)))) (mvT hZ (hw _ (List.mem_of_getElem? (i := 30) rfl))) (mvT hZ (hw _ (List.mem_of_getElem? (i := 29) rfl))) (by decide) (backOf (W := 0) (rm5_2 l Z a0 hw [] b50 T56.heap n0 Zz (own_sb c43) (own_sb c45) (0 : Int32) bb51 kk51 ⟨E_b50, GL56, GN56, GW56, GV56, EXb51, nab51⟩ g_b50 g_bb51) hZ (hw _ (List.mem_of_getElem? (i := 31) rfl)) (hw _ (List.mem_of_getElem? (i := 7) rfl)) (by decide) (by decide)) q57a q57c (g := (F52 87 [(.ref b50)])) rfl (by rw [hml]; rfl) (Steps.refl _) (argsL := []) (rest := []) (lenOf pd_0_1 rfl) rfl (by show 2 * 0 + _ ≤ _; exact Nat.le_of_eq rfl) (hb hby at_87) (fun _ _ => ⟨rfl, rfl, (by decide : 4 + 0 ≤ _), (by decide : 65625 + 0 ≤ _)⟩)
      dsimp only [Pt.U, Pt.locs, Pt.cells, Pt.slots] at X57 l57 y57 z57 st57 hQ57
      subst l57 y57 z57
      obtain ⟨rfl, N57q, K57, D57⟩ := hQ57
      have N57 := Fr.app N56 N57q
      replace S_CS := own_sta_keep S_CS K57 (allS ⟨_, E_b50⟩ (allS ⟨_, EXb51⟩ all0))
      replace S_FM := own_sta_keep S_FM K57 (allS ⟨_, E_b50⟩ (allS ⟨_, EXb51⟩ all0))
      replace V_b42 := V_b42.keep K57 (ninS ne_b42_b50 (ninS ne_b42_bb51 nin0))
      replace EX_b42 := EX_b42.keep K57
      replace E_b50 := E_b50.keep K57
      replace EXb51 := EXb51.keep K57
      replace Zz := Nat.le_trans Zz K57.1
      replace Kp := Kp.trans K57 (allS (Or.inr sz_b50) (allS (Or.inr sz_bb51) all0))
      refine ownW_step (T' := T57) (f' := (F52 90 [])) (fun t k => st57.trans k) ?_
      rcases D57 with ⟨d92, d54, qE, qL57, qN57, qW57, qV57, qX, qn⟩ | ⟨d92, d54, d55, qE, qL57, qN57, qW57, qV57, qX, qn⟩ | ⟨d92, qE, qL57, qN57, qW57, qV57, qX, qn⟩ | ⟨d92, d54, d55, qE, qL57, qN57, qW57, qV57, qX, qn⟩
      · skip
        refine ownW_step (T' := T57) (f' := (F52 92 [(.int (2 : Int32))])) (fun t k => XS.iload X57.here hx rfl (hb hby at_90) rfl k) ?_
        let F58 : Nat → List Value → JFrame := fun a b => mkF m a #[.val (.int p1), .val (.int p2), .val (.int p3), .val (.int p4), .val (.int (2 : Int32)), .val (.ref b42), .val (.ref b50), .val (.int (2 : Int32))] b
        refine ownW_step (T' := T57) (f' := (F58 94 [])) (fun t k => XS.istore X57.here hx rfl (hb hby at_92) rfl (l' := #[.val (.int p1), .val (.int p2), .val (.int p3), .val (.int p4), .val (.int (2 : Int32)), .val (.ref b42), .val (.ref b50), .val (.int (2 : Int32))]) rfl k) ?_
        refine ownW_step (T' := T57) (f' := (F58 96 [(.int (2 : Int32))])) (fun t k => XS.iload X57.here hx rfl (hb hby at_94) rfl k) ?_
        refine ownW_step (T' := T57) (f' := (F58 97 [(.int (2 : Int32)), (.int (2 : Int32))])) (fun t k => XS.iconst X57.here hx rfl (hb hby at_96) k) ?_
        refine ownW_step (T' := T57) (f' := (F58 100 [])) (fun t k => XS.icmpNo X57.here hx rfl (hb hby at_97) rfl (flt (by decide : ¬ ((2 : Int32) < (2 : Int32)))).1 k) ?_
        refine ownW_step (T' := T57) (f' := (F58 102 [(.ref b42)])) (fun t k => XS.aload X57.here hx rfl (hb hby at_100) rfl rfl k) ?_
        refine ownW_step (T' := T57) (f' := (F58 104 [(.int (2 : Int32)), (.ref b42)])) (fun t k => XS.iload X57.here hx rfl (hb hby at_102) rfl k) ?_
        refine ownW_step (T' := T57) (f' := (F58 105 [(.int (2 : Int32)), (.int (2 : Int32)), (.ref b42)])) (fun t k => XS.iconst X57.here hx rfl (hb hby at_104) k) ?_
        refine ownW_step (T' := T57) (f' := (F58 106 [(.int (0 : Int32)), (.ref b42)])) (fun t k => XS.isub X57.here hx rfl (hb hby at_105) rfl k) ?_
        obtain ⟨cl59, Ar59, q59, S59, M59, H59, G59⟩ := id V_b42
        have hin59 : ¬ ((0 : Int32) < 0 ∨ cl59.slots.size ≤ ((0 : Int32)).toNatClampNeg) := inb_of S59 ⟨by decide, by decide⟩
        have hat59 : cl59.slots[((0 : Int32)).toNatClampNeg]? = some (.int c43) := own_at hin59 H59 0 rfl rfl
        refine ownW_step (T' := T57) (f' := (F58 107 [(.int c43)])) (fun t k => X57.caload hx (j := (0 : Int32)) (v := (.int c43)) (by exact Ar59.1) (State.isArrayOf_alike hZ.alike Ar59.2.1) Ar59.2.2 hin59 hat59 (g := (F58 106 [(.int (0 : Int32)), (.ref b42)])) rfl rfl (hb hby at_106) _ k) ?_
        refine ownW_step (T' := T57) (f' := (F58 109 [(.int (92 : Int32)), (.int c43)])) (fun t k => XS.bipush X57.here hx rfl (hb hby at_107) k) ?_
        refine ownW_step (T' := T57) (f' := (F58 112 [])) (fun t k => XS.icmpNo X57.here hx rfl (hb hby at_109) rfl (teq ((own_sb92 hC43).mp d92)).2 k) ?_
        refine ownW_step (T' := T57) (f' := (F58 114 [(.ref b42)])) (fun t k => XS.aload X57.here hx rfl (hb hby at_112) rfl rfl k) ?_
        refine ownW_step (T' := T57) (f' := (F58 116 [(.int (2 : Int32)), (.ref b42)])) (fun t k => XS.iload X57.here hx rfl (hb hby at_114) rfl k) ?_
        refine ownW_step (T' := T57) (f' := (F58 117 [(.int (1 : Int32)), (.int (2 : Int32)), (.ref b42)])) (fun t k => XS.iconst X57.here hx rfl (hb hby at_116) k) ?_
        refine ownW_step (T' := T57) (f' := (F58 118 [(.int (1 : Int32)), (.ref b42)])) (fun t k => XS.isub X57.here hx rfl (hb hby at_117) rfl k) ?_
        obtain ⟨cl60, Ar60, q60, S60, M60, H60, G60⟩ := id V_b42
        have hin60 : ¬ ((1 : Int32) < 0 ∨ cl60.slots.size ≤ ((1 : Int32)).toNatClampNeg) := inb_of S60 ⟨by decide, by decide⟩
        have hat60 : cl60.slots[((1 : Int32)).toNatClampNeg]? = some (.int c45) := own_at hin60 H60 1 rfl rfl
        refine ownW_step (T' := T57) (f' := (F58 119 [(.int c45)])) (fun t k => X57.caload hx (j := (1 : Int32)) (v := (.int c45)) (by exact Ar60.1) (State.isArrayOf_alike hZ.alike Ar60.2.1) Ar60.2.2 hin60 hat60 (g := (F58 118 [(.int (1 : Int32)), (.ref b42)])) rfl rfl (hb hby at_118) _ k) ?_
        refine ownW_step (T' := T57) (f' := (F58 121 [(.int (54 : Int32)), (.int c45)])) (fun t k => XS.bipush X57.here hx rfl (hb hby at_119) k) ?_
        refine ownW_step (T' := T57) (f' := (F58 124 [])) (fun t k => XS.icmpNo X57.here hx rfl (hb hby at_121) rfl (teq ((own_sb54 hC45).mp d54)).2 k) ?_
        refine ownW_step (T' := T57) (f' := (F58 126 [(.int (2 : Int32))])) (fun t k => XS.iload X57.here hx rfl (hb hby at_124) rfl k) ?_
        refine ownW_step (T' := T57) (f' := (F58 127 [(.int (2 : Int32)), (.int (2 : Int32))])) (fun t k => XS.iconst X57.here hx rfl (hb hby at_126) k) ?_
        refine ownW_step (T' := T57) (f' := (F58 128 [(.int (0 : Int32))])) (fun t k => XS.isub X57.here hx rfl (hb hby at_127) rfl k) ?_
        let F61 : Nat → List Value → JFrame := fun a b => mkF m a #[.val (.int p1), .val (.int p2), .val (.int p3), .val (.int p4), .val (.int (2 : Int32)), .val (.ref b42), .val (.ref b50), .val (.int (0 : Int32))] b
        refine ownW_step (T' := T57) (f' := (F61 130 [])) (fun t k => XS.istore X57.here hx rfl (hb hby at_128) rfl (l' := #[.val (.int p1), .val (.int p2), .val (.int p3), .val (.int p4), .val (.int (2 : Int32)), .val (.ref b42), .val (.ref b50), .val (.int (0 : Int32))]) rfl k) ?_
        refine ownW_step (T' := T57) (f' := (F61 154 [])) (fun t k => XS.goto X57.here hx rfl (pc0 := 130) (pc' := 154) rfl (hb hby at_130) (by decide) (by decide) k) ?_
        refine ownW_step (T' := T57) (f' := (F61 156 [(.ref b50)])) (fun t k => XS.aload X57.here hx rfl (hb hby at_154) rfl rfl k) ?_
        obtain ⟨cq62, kq62, q62a, q62b, q62c⟩ := isOf hZ rfl E_b50
        obtain ⟨_, _, ⟨T62, L62, k62, n62⟩, -, X62, ⟨Lc62, hQ62, l62, y62, z62⟩, st62⟩ := X57.virtualBack hx (y := (⟨"com/example/lit2/lit2/weave/TexOutput", "lineLength", "()I"⟩ : MethodName)) (z := (⟨"com/example/lit2/lit2/weave/TexOutput", "lineLength", "()I"⟩ : MethodName)) hown (mvT hZ (hw _ (List.mem_of_getElem? (i := 32) rfl))) (mvT hZ (hw _ (List.mem_of_getElem? (i := 33) rfl))) (notFace_of_selects (args := #[]) (mvT hZ (hw _ (List.mem_of_getElem? (i := 35) rfl)))) (mvT hZ (hw _ (List.mem_of_getElem? (i := 35) rfl))) (mvT hZ (hw _ (List.mem_of_getElem? (i := 34) rfl))) (by decide) (backOf (W := 0) (rm6 l Z a0 hw [] b50 T57.heap n0 Zz (0 : Int32) qN57) hZ (hw _ (List.mem_of_getElem? (i := 36) rfl)) (hw _ (List.mem_of_getElem? (i := 7) rfl)) (by decide) (by decide)) q62a q62c (g := (F61 156 [(.ref b50)])) rfl (by rw [hml]; rfl) (Steps.refl _) (argsL := []) (rest := []) (lenOf pd_0_2 rfl) rfl (by show 2 * 0 + _ ≤ _; exact Nat.le_of_eq rfl) (hb hby at_156) (fun _ _ => ⟨rfl, rfl, (by decide : 4 + 0 ≤ _), (by decide : 65625 + 0 ≤ _)⟩)
        dsimp only [Pt.U, Pt.locs, Pt.cells, Pt.slots] at X62 l62 y62 z62 st62 hQ62
        subst l62 y62 z62
        obtain ⟨rfl, N62q, E62⟩ := hQ62
        have N62 := Fr.app N57 N62q
        refine ownW_step (T' := T62) (f' := (F61 159 [(.int (0 : Int32))])) (fun t k => st62.trans k) ?_
        refine ownW_step (T' := T62) (f' := (F61 161 [(.int (0 : Int32)), (.int (0 : Int32))])) (fun t k => XS.iload X62.here hx rfl (hb hby at_159) rfl k) ?_
        refine ownW_step (T' := T62) (f' := (F61 164 [])) (fun t k => XS.icmpNo X62.here hx rfl (hb hby at_161) rfl (teq (by decide : (0 : Int32) = (0 : Int32))).2 k) ?_
        refine ownW_step (T' := T62) (f' := (F61 166 [(.ref b50)])) (fun t k => XS.aload X62.here hx rfl (hb hby at_164) rfl rfl k) ?_
        refine ownW_step (T' := T62) (f' := (F61 168 [(.int (0 : Int32)), (.ref b50)])) (fun t k => XS.iload X62.here hx rfl (hb hby at_166) rfl k) ?_
        refine ownW_step (T' := T62) (f' := (F61 170 [(.ref b42), (.int (0 : Int32)), (.ref b50)])) (fun t k => XS.aload X62.here hx rfl (hb hby at_168) rfl rfl k) ?_
        have Cr : CHr Z ownEL s.vm T57.heap s.vm T57.heap := CHr.refl (own_chv Kp)
        obtain ⟨_, _, ⟨T63, L63, k63, n63⟩, -, X63, hS63, hgr63, ⟨Lc63, hQ63, l63, y63, z63, C63⟩, st63⟩ := callSS X62 hx (y := (⟨"com/example/lit2/lit2/weave/TexOutputDropFinalBreakPinLaw", "str", "(I[C)Ljava/lang/String;"⟩ : MethodName)) hown (mvT hZ (hw _ (List.mem_of_getElem? (i := 37) rfl))) (mvT hZ (hw _ (List.mem_of_getElem? (i := 38) rfl))) (mvT hZ (hw _ (List.mem_of_getElem? (i := 3) rfl))) (mvT hZ (hw _ (List.mem_of_getElem? (i := 39) rfl))) (by decide) (backOfSH (s := s) (vm0 := s.vm) (W := 1) (rm7_0 l Z a0 hw [] b42 T57.heap n0 Zz hEL) hZ (hw _ (List.mem_of_getElem? (i := 39) rfl)) (hw _ (List.mem_of_getElem? (i := 3) rfl)) (by decide) (by decide) hEL Cr.1) (g := (F61 170 [(.ref b42), (.int (0 : Int32)), (.ref b50)])) rfl (by rw [hml]; rfl) (argsL := [(.int (0 : Int32)), (.ref b42)]) (rest := [(.ref b50)]) (lenOf pd_0_3 rfl) rfl (by show 2 * 0 + _ ≤ _; exact Nat.le_of_eq rfl) (hb hby at_170) (fun _ _ => ⟨rfl, E62, (by decide : 4 + 4 ≤ _), (by decide : 65625 + 8 ≤ _)⟩)
        dsimp only [Pt.U, Pt.locs, Pt.cells, Pt.slots] at X63 l63 y63 z63 st63 hQ63 hS63 hgr63 C63
        subst l63 y63 z63
        obtain ⟨rr63, rb63, rk63, rfl, N63q, K63, Os63⟩ := hQ63
        have N63 := Fr.app N62 N63q
        have hZ63 : Z.Warmed39 T63.vm := State.Warmed39.trans hZ hS63.1
        have hown63 : T63.vm.findClass "com/example/lit2/lit2/weave/TexOutputDropFinalBreakPinLaw" = some m.cls := by rw [hS63.1.alike.findClass]; exact hown
        replace S_CS := own_sta_keep S_CS K63 all0
        replace S_FM := own_sta_keep S_FM K63 all0
        replace V_b42 := V_b42.keep K63 nin0
        replace EX_b42 := EX_b42.keep K63
        replace E_b50 := E_b50.keep K63
        replace EXb51 := EXb51.keep K63
        replace qL57 := qL57.keep K63 nin0
        replace qN57 := qN57.keep K63 nin0
        replace qW57 := qW57.keep K63 nin0
        replace qV57 := qV57.keep K63 nin0
        replace Zz := Nat.le_trans Zz K63.1
        replace Kp := Kp.trans K63 all0
        refine ownW_step (T' := T63) (f' := (F61 173 [(.ref rr63), (.ref b50)])) (fun t k => st63.trans k) ?_
        obtain ⟨cq64, kq64, q64a, q64b, q64c⟩ := isOf hZ63 rfl E_b50
        obtain ⟨_, _, ⟨T64, L64, k64, n64⟩, -, X64, ⟨Lc64, hQ64, l64, y64, z64⟩, st64⟩ := X63.virtualBack hx (y := (⟨"com/example/lit2/lit2/weave/TexOutput", "endsWith", "(Ljava/lang/String;)Z"⟩ : MethodName)) (z := (⟨"com/example/lit2/lit2/weave/TexOutput", "endsWith", "(Ljava/lang/String;)Z"⟩ : MethodName)) hown63 (mvT hZ63 (hw _ (List.mem_of_getElem? (i := 66) rfl))) (mvT hZ63 (hw _ (List.mem_of_getElem? (i := 67) rfl))) (notFace_of_selects (args := #[]) (mvT hZ63 (hw _ (List.mem_of_getElem? (i := 69) rfl)))) (mvT hZ63 (hw _ (List.mem_of_getElem? (i := 69) rfl))) (mvT hZ63 (hw _ (List.mem_of_getElem? (i := 68) rfl))) (by decide) (backOf (W := 0) (rm13_0 l Z a0 hw [] b50 rr63 T63.heap n0 Zz (own_sb c43) (own_sb c45) (0 : Int32) bb51 kk51 ⟨E_b50, qL57, qN57, qW57, qV57, EXb51, nab51⟩ rb63 rk63 Os63 cs S_CS hcs fm S_FM hfc hfr) hZ63 (hw _ (List.mem_of_getElem? (i := 70) rfl)) (hw _ (List.mem_of_getElem? (i := 7) rfl)) (by decide) (by decide)) q64a q64c (g := (F61 173 [(.ref rr63), (.ref b50)])) rfl (by rw [hml]; rfl) (Steps.refl _) (argsL := [(.ref rr63)]) (rest := []) (lenOf pd_0_4 rfl) rfl (by show 2 * 0 + _ ≤ _; exact Nat.le_of_eq rfl) (hb hby at_173) (fun _ _ => ⟨rfl, rfl, (by decide : 8 + 0 ≤ _), (by decide : 65633 + 0 ≤ _)⟩)
        dsimp only [Pt.U, Pt.locs, Pt.cells, Pt.slots] at X64 l64 y64 z64 st64 hQ64
        subst l64 y64 z64
        obtain ⟨rfl, N64q, E64⟩ := hQ64
        have N64 := Fr.app N63 N64q
        refine ownW_step (T' := T64) (f' := (F61 176 [(.int (1 : Int32))])) (fun t k => st64.trans k) ?_
        refine ownW_step (T' := T64) (f' := (F61 179 [])) (fun t k => XS.ifNo X64.here hx rfl (hb hby at_176) rfl ((if0 _ _).trans (feq (by decide : ¬ ((1 : Int32) = (0 : Int32)))).1) k) ?_
        refine ownW_step (T' := T64) (f' := (F61 181 [(.ref b50)])) (fun t k => XS.aload X64.here hx rfl (hb hby at_179) rfl rfl k) ?_
        obtain ⟨cq65, kq65, q65a, q65b, q65c⟩ := isOf hZ63 E64 E_b50
        obtain ⟨_, _, ⟨T65, L65, k65, n65⟩, -, X65, ⟨Lc65, hQ65, l65, y65, z65⟩, st65⟩ := X64.virtualBack hx (y := (⟨"com/example/lit2/lit2/weave/TexOutput", "linesWritten", "()I"⟩ : MethodName)) (z := (⟨"com/example/lit2/lit2/weave/TexOutput", "linesWritten", "()I"⟩ : MethodName)) hown63 (mvT hZ63 (hw _ (List.mem_of_getElem? (i := 103) rfl))) (mvT hZ63 (hw _ (List.mem_of_getElem? (i := 104) rfl))) (notFace_of_selects (args := #[]) (mvT hZ63 (hw _ (List.mem_of_getElem? (i := 106) rfl)))) (mvT hZ63 (hw _ (List.mem_of_getElem? (i := 106) rfl))) (mvT hZ63 (hw _ (List.mem_of_getElem? (i := 105) rfl))) (by decide) (backOf (W := 0) (rm21 l Z a0 hw [] b50 T63.heap n0 Zz qW57) hZ63 (hw _ (List.mem_of_getElem? (i := 107) rfl)) (hw _ (List.mem_of_getElem? (i := 7) rfl)) (by decide) (by decide)) q65a q65c (g := (F61 181 [(.ref b50)])) rfl (by rw [hml]; rfl) (Steps.refl _) (argsL := []) (rest := []) (lenOf pd_0_2 rfl) rfl (by show 2 * 0 + _ ≤ _; exact Nat.le_of_eq rfl) (hb hby at_181) (fun _ _ => ⟨rfl, E64, (by decide : 8 + 0 ≤ _), (by decide : 65633 + 0 ≤ _)⟩)
        dsimp only [Pt.U, Pt.locs, Pt.cells, Pt.slots] at X65 l65 y65 z65 st65 hQ65
        subst l65 y65 z65
        obtain ⟨rfl, N65q, E65⟩ := hQ65
        have N65 := Fr.app N64 N65q
        refine ownW_step (T' := T65) (f' := (F61 184 [(.int (0 : Int32))])) (fun t k => st65.trans k) ?_
        refine ownW_step (T' := T65) (f' := (F61 187 [])) (fun t k => XS.ifNo X65.here hx rfl (hb hby at_184) rfl ((if0 _ _).trans (teq (by decide : (0 : Int32) = (0 : Int32))).2) k) ?_
        refine ownW_step (T' := T65) (f' := (F61 188 [(.int (1 : Int32))])) (fun t k => XS.iconst X65.here hx rfl (hb hby at_187) k) ?_
        refine ownW_step (T' := T65) (f' := (F61 192 [(.int (1 : Int32))])) (fun t k => XS.goto X65.here hx rfl (pc0 := 188) (pc' := 192) rfl (hb hby at_188) (by decide) (by decide) k) ?_
        exact ownW_retN X65 hS63 (by rw [E65]; exact Nat.le_refl _) hx hlk (t := .boolean) Bd.returns (by simp) (hb hby at_192) (by decide) (by decide) ⟨rfl, N65⟩
      · skip
        refine ownW_step (T' := T57) (f' := (F52 92 [(.int (2 : Int32))])) (fun t k => XS.iload X57.here hx rfl (hb hby at_90) rfl k) ?_
        let F66 : Nat → List Value → JFrame := fun a b => mkF m a #[.val (.int p1), .val (.int p2), .val (.int p3), .val (.int p4), .val (.int (2 : Int32)), .val (.ref b42), .val (.ref b50), .val (.int (2 : Int32))] b
        refine ownW_step (T' := T57) (f' := (F66 94 [])) (fun t k => XS.istore X57.here hx rfl (hb hby at_92) rfl (l' := #[.val (.int p1), .val (.int p2), .val (.int p3), .val (.int p4), .val (.int (2 : Int32)), .val (.ref b42), .val (.ref b50), .val (.int (2 : Int32))]) rfl k) ?_
        refine ownW_step (T' := T57) (f' := (F66 96 [(.int (2 : Int32))])) (fun t k => XS.iload X57.here hx rfl (hb hby at_94) rfl k) ?_
        refine ownW_step (T' := T57) (f' := (F66 97 [(.int (2 : Int32)), (.int (2 : Int32))])) (fun t k => XS.iconst X57.here hx rfl (hb hby at_96) k) ?_
        refine ownW_step (T' := T57) (f' := (F66 100 [])) (fun t k => XS.icmpNo X57.here hx rfl (hb hby at_97) rfl (flt (by decide : ¬ ((2 : Int32) < (2 : Int32)))).1 k) ?_
        refine ownW_step (T' := T57) (f' := (F66 102 [(.ref b42)])) (fun t k => XS.aload X57.here hx rfl (hb hby at_100) rfl rfl k) ?_
        refine ownW_step (T' := T57) (f' := (F66 104 [(.int (2 : Int32)), (.ref b42)])) (fun t k => XS.iload X57.here hx rfl (hb hby at_102) rfl k) ?_
        refine ownW_step (T' := T57) (f' := (F66 105 [(.int (2 : Int32)), (.int (2 : Int32)), (.ref b42)])) (fun t k => XS.iconst X57.here hx rfl (hb hby at_104) k) ?_
        refine ownW_step (T' := T57) (f' := (F66 106 [(.int (0 : Int32)), (.ref b42)])) (fun t k => XS.isub X57.here hx rfl (hb hby at_105) rfl k) ?_
        obtain ⟨cl67, Ar67, q67, S67, M67, H67, G67⟩ := id V_b42
        have hin67 : ¬ ((0 : Int32) < 0 ∨ cl67.slots.size ≤ ((0 : Int32)).toNatClampNeg) := inb_of S67 ⟨by decide, by decide⟩
        have hat67 : cl67.slots[((0 : Int32)).toNatClampNeg]? = some (.int c43) := own_at hin67 H67 0 rfl rfl
        refine ownW_step (T' := T57) (f' := (F66 107 [(.int c43)])) (fun t k => X57.caload hx (j := (0 : Int32)) (v := (.int c43)) (by exact Ar67.1) (State.isArrayOf_alike hZ.alike Ar67.2.1) Ar67.2.2 hin67 hat67 (g := (F66 106 [(.int (0 : Int32)), (.ref b42)])) rfl rfl (hb hby at_106) _ k) ?_
        refine ownW_step (T' := T57) (f' := (F66 109 [(.int (92 : Int32)), (.int c43)])) (fun t k => XS.bipush X57.here hx rfl (hb hby at_107) k) ?_
        refine ownW_step (T' := T57) (f' := (F66 112 [])) (fun t k => XS.icmpNo X57.here hx rfl (hb hby at_109) rfl (teq ((own_sb92 hC43).mp d92)).2 k) ?_
        refine ownW_step (T' := T57) (f' := (F66 114 [(.ref b42)])) (fun t k => XS.aload X57.here hx rfl (hb hby at_112) rfl rfl k) ?_
        refine ownW_step (T' := T57) (f' := (F66 116 [(.int (2 : Int32)), (.ref b42)])) (fun t k => XS.iload X57.here hx rfl (hb hby at_114) rfl k) ?_
        refine ownW_step (T' := T57) (f' := (F66 117 [(.int (1 : Int32)), (.int (2 : Int32)), (.ref b42)])) (fun t k => XS.iconst X57.here hx rfl (hb hby at_116) k) ?_
        refine ownW_step (T' := T57) (f' := (F66 118 [(.int (1 : Int32)), (.ref b42)])) (fun t k => XS.isub X57.here hx rfl (hb hby at_117) rfl k) ?_
        obtain ⟨cl68, Ar68, q68, S68, M68, H68, G68⟩ := id V_b42
        have hin68 : ¬ ((1 : Int32) < 0 ∨ cl68.slots.size ≤ ((1 : Int32)).toNatClampNeg) := inb_of S68 ⟨by decide, by decide⟩
        have hat68 : cl68.slots[((1 : Int32)).toNatClampNeg]? = some (.int c45) := own_at hin68 H68 1 rfl rfl
        refine ownW_step (T' := T57) (f' := (F66 119 [(.int c45)])) (fun t k => X57.caload hx (j := (1 : Int32)) (v := (.int c45)) (by exact Ar68.1) (State.isArrayOf_alike hZ.alike Ar68.2.1) Ar68.2.2 hin68 hat68 (g := (F66 118 [(.int (1 : Int32)), (.ref b42)])) rfl rfl (hb hby at_118) _ k) ?_
        refine ownW_step (T' := T57) (f' := (F66 121 [(.int (54 : Int32)), (.int c45)])) (fun t k => XS.bipush X57.here hx rfl (hb hby at_119) k) ?_
        refine ownW_step (T' := T57) (f' := (F66 133 [])) (fun t k => XS.icmpYes X57.here hx rfl (pc0 := 121) (pc' := 133) rfl (hb hby at_121) rfl (feq (fun q => d54 ((own_sb54 hC45).mpr q))).2 (by decide) (by decide) k) ?_
        refine ownW_step (T' := T57) (f' := (F66 135 [(.ref b42)])) (fun t k => XS.aload X57.here hx rfl (hb hby at_133) rfl rfl k) ?_
        refine ownW_step (T' := T57) (f' := (F66 137 [(.int (2 : Int32)), (.ref b42)])) (fun t k => XS.iload X57.here hx rfl (hb hby at_135) rfl k) ?_
        refine ownW_step (T' := T57) (f' := (F66 138 [(.int (1 : Int32)), (.int (2 : Int32)), (.ref b42)])) (fun t k => XS.iconst X57.here hx rfl (hb hby at_137) k) ?_
        refine ownW_step (T' := T57) (f' := (F66 139 [(.int (1 : Int32)), (.ref b42)])) (fun t k => XS.isub X57.here hx rfl (hb hby at_138) rfl k) ?_
        obtain ⟨cl69, Ar69, q69, S69, M69, H69, G69⟩ := id V_b42
        have hin69 : ¬ ((1 : Int32) < 0 ∨ cl69.slots.size ≤ ((1 : Int32)).toNatClampNeg) := inb_of S69 ⟨by decide, by decide⟩
        have hat69 : cl69.slots[((1 : Int32)).toNatClampNeg]? = some (.int c45) := own_at hin69 H69 1 rfl rfl
        refine ownW_step (T' := T57) (f' := (F66 140 [(.int c45)])) (fun t k => X57.caload hx (j := (1 : Int32)) (v := (.int c45)) (by exact Ar69.1) (State.isArrayOf_alike hZ.alike Ar69.2.1) Ar69.2.2 hin69 hat69 (g := (F66 139 [(.int (1 : Int32)), (.ref b42)])) rfl rfl (hb hby at_139) _ k) ?_
        refine ownW_step (T' := T57) (f' := (F66 142 [(.int (55 : Int32)), (.int c45)])) (fun t k => XS.bipush X57.here hx rfl (hb hby at_140) k) ?_
        refine ownW_step (T' := T57) (f' := (F66 145 [])) (fun t k => XS.icmpNo X57.here hx rfl (hb hby at_142) rfl (teq ((own_sb55 hC45).mp d55)).2 k) ?_
        refine ownW_step (T' := T57) (f' := (F66 147 [(.ref b42)])) (fun t k => XS.aload X57.here hx rfl (hb hby at_145) rfl rfl k) ?_
        refine ownW_step (T' := T57) (f' := (F66 149 [(.int (2 : Int32)), (.ref b42)])) (fun t k => XS.iload X57.here hx rfl (hb hby at_147) rfl k) ?_
        refine ownW_step (T' := T57) (f' := (F66 150 [(.int (1 : Int32)), (.int (2 : Int32)), (.ref b42)])) (fun t k => XS.iconst X57.here hx rfl (hb hby at_149) k) ?_
        refine ownW_step (T' := T57) (f' := (F66 151 [(.int (1 : Int32)), (.ref b42)])) (fun t k => XS.isub X57.here hx rfl (hb hby at_150) rfl k) ?_
        refine ownW_step (T' := T57) (f' := (F66 153 [(.int (89 : Int32)), (.int (1 : Int32)), (.ref b42)])) (fun t k => XS.bipush X57.here hx rfl (hb hby at_151) k) ?_
        obtain ⟨cl70, Ar70, q70, S70, M70, H70, G70⟩ := V_b42
        have hin70 : ¬ ((1 : Int32) < 0 ∨ cl70.slots.size ≤ ((1 : Int32)).toNatClampNeg) := inb_of S70 ⟨by decide, by decide⟩
        obtain ⟨T70, h70, X70, e70, W70, st70⟩ := stC X57 hx hZ rfl Ar70 (j := (1 : Int32)) hin70 (g := (F66 153 [(.int (89 : Int32)), (.int (1 : Int32)), (.ref b42)])) rfl rfl (hb hby at_153)
        have V_b42 : Arv Z h70 b42 k42 .char (3 : Int32) [(.int c43), (.int (89 : Int32)), (.int c47)] (.int (0 : Int32)) := Arv.set Ar70 q70 S70 M70 H70 G70 (fits_nar_char _) W70 1 rfl (Nat.le_of_ble_eq_true rfl)
        replace S_CS := S_CS.wr W70
        replace S_FM := S_FM.wr W70
        replace EX_b42 := EX_b42.wr W70
        replace E_b50 := E_b50.wr W70
        replace EXb51 := EXb51.wr W70
        replace qL57 := qL57.other W70 (Or.inl (Ne.symm ne_b42_b50))
        replace qN57 := qN57.other W70 (Or.inl (Ne.symm ne_b42_b50))
        replace qW57 := qW57.other W70 (Or.inl (Ne.symm ne_b42_b50))
        replace qV57 := qV57.other W70 (Ne.symm ne_b42_bb51)
        replace Zz := Nat.le_trans Zz (Keep.of_wr W70).1
        replace Kp := Kp.wr W70 (Or.inr sz_b42)
        have N70 := Fr.snoc X70 N57 g_b42
        refine ownW_step (T' := T70) (f' := (F66 154 [])) (fun t k => st70 t k) ?_
        refine ownW_step (T' := T70) (f' := (F66 156 [(.ref b50)])) (fun t k => XS.aload X70.here hx rfl (hb hby at_154) rfl rfl k) ?_
        obtain ⟨cq71, kq71, q71a, q71b, q71c⟩ := isOf hZ e70 E_b50
        obtain ⟨_, _, ⟨T71, L71, k71, n71⟩, -, X71, ⟨Lc71, hQ71, l71, y71, z71⟩, st71⟩ := X70.virtualBack hx (y := (⟨"com/example/lit2/lit2/weave/TexOutput", "lineLength", "()I"⟩ : MethodName)) (z := (⟨"com/example/lit2/lit2/weave/TexOutput", "lineLength", "()I"⟩ : MethodName)) hown (mvT hZ (hw _ (List.mem_of_getElem? (i := 32) rfl))) (mvT hZ (hw _ (List.mem_of_getElem? (i := 33) rfl))) (notFace_of_selects (args := #[]) (mvT hZ (hw _ (List.mem_of_getElem? (i := 35) rfl)))) (mvT hZ (hw _ (List.mem_of_getElem? (i := 35) rfl))) (mvT hZ (hw _ (List.mem_of_getElem? (i := 34) rfl))) (by decide) (backOf (W := 0) (rm6 l Z a0 hw [] b50 h70 n0 Zz (2 : Int32) qN57) hZ (hw _ (List.mem_of_getElem? (i := 36) rfl)) (hw _ (List.mem_of_getElem? (i := 7) rfl)) (by decide) (by decide)) q71a q71c (g := (F66 156 [(.ref b50)])) rfl (by rw [hml]; rfl) (Steps.refl _) (argsL := []) (rest := []) (lenOf pd_0_2 rfl) rfl (by show 2 * 0 + _ ≤ _; exact Nat.le_of_eq rfl) (hb hby at_156) (fun _ _ => ⟨rfl, e70, (by decide : 4 + 0 ≤ _), (by decide : 65625 + 0 ≤ _)⟩)
        dsimp only [Pt.U, Pt.locs, Pt.cells, Pt.slots] at X71 l71 y71 z71 st71 hQ71
        subst l71 y71 z71
        obtain ⟨rfl, N71q, E71⟩ := hQ71
        have N71 := Fr.app N70 N71q
        refine ownW_step (T' := T71) (f' := (F66 159 [(.int (2 : Int32))])) (fun t k => st71.trans k) ?_
        refine ownW_step (T' := T71) (f' := (F66 161 [(.int (2 : Int32)), (.int (2 : Int32))])) (fun t k => XS.iload X71.here hx rfl (hb hby at_159) rfl k) ?_
        refine ownW_step (T' := T71) (f' := (F66 164 [])) (fun t k => XS.icmpNo X71.here hx rfl (hb hby at_161) rfl (teq (by decide : (2 : Int32) = (2 : Int32))).2 k) ?_
        refine ownW_step (T' := T71) (f' := (F66 166 [(.ref b50)])) (fun t k => XS.aload X71.here hx rfl (hb hby at_164) rfl rfl k) ?_
        refine ownW_step (T' := T71) (f' := (F66 168 [(.int (2 : Int32)), (.ref b50)])) (fun t k => XS.iload X71.here hx rfl (hb hby at_166) rfl k) ?_
        refine ownW_step (T' := T71) (f' := (F66 170 [(.ref b42), (.int (2 : Int32)), (.ref b50)])) (fun t k => XS.aload X71.here hx rfl (hb hby at_168) rfl rfl k) ?_
        obtain ⟨_, _, ⟨T72, L72, k72, n72⟩, -, X72, ⟨Lc72, hQ72, l72, y72, z72⟩, st72⟩ := Jvm.LawKit.callS X71 hx (y := (⟨"com/example/lit2/lit2/weave/TexOutputDropFinalBreakPinLaw", "str", "(I[C)Ljava/lang/String;"⟩ : MethodName)) hown (mvT hZ (hw _ (List.mem_of_getElem? (i := 37) rfl))) (mvT hZ (hw _ (List.mem_of_getElem? (i := 38) rfl))) (mvT hZ (hw _ (List.mem_of_getElem? (i := 3) rfl))) (mvT hZ (hw _ (List.mem_of_getElem? (i := 39) rfl))) (by decide) (backOf (W := 1) (rm7_2 l Z a0 hw [] b42 h70 n0 Zz c43 (89 : Int32) hC43 (by constructor <;> decide : OwnC (89 : Int32)) c47 k42 V_b42  cs S_CS hcs) hZ (hw _ (List.mem_of_getElem? (i := 39) rfl)) (hw _ (List.mem_of_getElem? (i := 3) rfl)) (by decide) (by decide)) (g := (F66 170 [(.ref b42), (.int (2 : Int32)), (.ref b50)])) rfl (by rw [hml]; rfl) (argsL := [(.int (2 : Int32)), (.ref b42)]) (rest := [(.ref b50)]) (lenOf pd_0_3 rfl) rfl (by show 2 * 0 + _ ≤ _; exact Nat.le_of_eq rfl) (hb hby at_170) (fun _ _ => ⟨rfl, E71, (by decide : 4 + 3 ≤ _), (by decide : 65625 + 8 ≤ _)⟩)
        dsimp only [Pt.U, Pt.locs, Pt.cells, Pt.slots] at X72 l72 y72 z72 st72 hQ72
        subst l72 y72 z72
        obtain ⟨rr72, rb72, rk72, rfl, N72q, K72, Os72⟩ := hQ72
        have N72 := Fr.app N71 N72q
        replace S_CS := own_sta_keep S_CS K72 all0
        replace S_FM := own_sta_keep S_FM K72 all0
        replace V_b42 := V_b42.keep K72 nin0
        replace EX_b42 := EX_b42.keep K72
        replace E_b50 := E_b50.keep K72
        replace EXb51 := EXb51.keep K72
        replace qL57 := qL57.keep K72 nin0
        replace qN57 := qN57.keep K72 nin0
        replace qW57 := qW57.keep K72 nin0
        replace qV57 := qV57.keep K72 nin0
        replace Zz := Nat.le_trans Zz K72.1
        replace Kp := Kp.trans K72 all0
        refine ownW_step (T' := T72) (f' := (F66 173 [(.ref rr72), (.ref b50)])) (fun t k => st72 t k) ?_
        obtain ⟨cq73, kq73, q73a, q73b, q73c⟩ := isOf hZ rfl E_b50
        obtain ⟨_, _, ⟨T73, L73, k73, n73⟩, -, X73, ⟨Lc73, hQ73, l73, y73, z73⟩, st73⟩ := X72.virtualBack hx (y := (⟨"com/example/lit2/lit2/weave/TexOutput", "endsWith", "(Ljava/lang/String;)Z"⟩ : MethodName)) (z := (⟨"com/example/lit2/lit2/weave/TexOutput", "endsWith", "(Ljava/lang/String;)Z"⟩ : MethodName)) hown (mvT hZ (hw _ (List.mem_of_getElem? (i := 66) rfl))) (mvT hZ (hw _ (List.mem_of_getElem? (i := 67) rfl))) (notFace_of_selects (args := #[]) (mvT hZ (hw _ (List.mem_of_getElem? (i := 69) rfl)))) (mvT hZ (hw _ (List.mem_of_getElem? (i := 69) rfl))) (mvT hZ (hw _ (List.mem_of_getElem? (i := 68) rfl))) (by decide) (backOf (W := 0) (rm13_2 l Z a0 hw [] b50 rr72 T72.heap n0 Zz (own_sb c43) (89 : Int32) (0 : Int32) bb51 kk51 ⟨E_b50, qL57, qN57, qW57, qV57, EXb51, nab51⟩ rb72 rk72 Os72 cs S_CS hcs fm S_FM hfc hfr) hZ (hw _ (List.mem_of_getElem? (i := 70) rfl)) (hw _ (List.mem_of_getElem? (i := 7) rfl)) (by decide) (by decide)) q73a q73c (g := (F66 173 [(.ref rr72), (.ref b50)])) rfl (by rw [hml]; rfl) (Steps.refl _) (argsL := [(.ref rr72)]) (rest := []) (lenOf pd_0_4 rfl) rfl (by show 2 * 0 + _ ≤ _; exact Nat.le_of_eq rfl) (hb hby at_173) (fun _ _ => ⟨rfl, rfl, (by decide : 7 + 0 ≤ _), (by decide : 65633 + 0 ≤ _)⟩)
        dsimp only [Pt.U, Pt.locs, Pt.cells, Pt.slots] at X73 l73 y73 z73 st73 hQ73
        subst l73 y73 z73
        obtain ⟨rfl, N73q, E73⟩ := hQ73
        have N73 := Fr.app N72 N73q
        refine ownW_step (T' := T73) (f' := (F66 176 [(.int (1 : Int32))])) (fun t k => st73.trans k) ?_
        refine ownW_step (T' := T73) (f' := (F66 179 [])) (fun t k => XS.ifNo X73.here hx rfl (hb hby at_176) rfl ((if0 _ _).trans (feq (by decide : ¬ ((1 : Int32) = (0 : Int32)))).1) k) ?_
        refine ownW_step (T' := T73) (f' := (F66 181 [(.ref b50)])) (fun t k => XS.aload X73.here hx rfl (hb hby at_179) rfl rfl k) ?_
        obtain ⟨cq74, kq74, q74a, q74b, q74c⟩ := isOf hZ E73 E_b50
        obtain ⟨_, _, ⟨T74, L74, k74, n74⟩, -, X74, ⟨Lc74, hQ74, l74, y74, z74⟩, st74⟩ := X73.virtualBack hx (y := (⟨"com/example/lit2/lit2/weave/TexOutput", "linesWritten", "()I"⟩ : MethodName)) (z := (⟨"com/example/lit2/lit2/weave/TexOutput", "linesWritten", "()I"⟩ : MethodName)) hown (mvT hZ (hw _ (List.mem_of_getElem? (i := 103) rfl))) (mvT hZ (hw _ (List.mem_of_getElem? (i := 104) rfl))) (notFace_of_selects (args := #[]) (mvT hZ (hw _ (List.mem_of_getElem? (i := 106) rfl)))) (mvT hZ (hw _ (List.mem_of_getElem? (i := 106) rfl))) (mvT hZ (hw _ (List.mem_of_getElem? (i := 105) rfl))) (by decide) (backOf (W := 0) (rm21 l Z a0 hw [] b50 T72.heap n0 Zz qW57) hZ (hw _ (List.mem_of_getElem? (i := 107) rfl)) (hw _ (List.mem_of_getElem? (i := 7) rfl)) (by decide) (by decide)) q74a q74c (g := (F66 181 [(.ref b50)])) rfl (by rw [hml]; rfl) (Steps.refl _) (argsL := []) (rest := []) (lenOf pd_0_2 rfl) rfl (by show 2 * 0 + _ ≤ _; exact Nat.le_of_eq rfl) (hb hby at_181) (fun _ _ => ⟨rfl, E73, (by decide : 7 + 0 ≤ _), (by decide : 65633 + 0 ≤ _)⟩)
        dsimp only [Pt.U, Pt.locs, Pt.cells, Pt.slots] at X74 l74 y74 z74 st74 hQ74
        subst l74 y74 z74
        obtain ⟨rfl, N74q, E74⟩ := hQ74
        have N74 := Fr.app N73 N74q
        refine ownW_step (T' := T74) (f' := (F66 184 [(.int (0 : Int32))])) (fun t k => st74.trans k) ?_
        refine ownW_step (T' := T74) (f' := (F66 187 [])) (fun t k => XS.ifNo X74.here hx rfl (hb hby at_184) rfl ((if0 _ _).trans (teq (by decide : (0 : Int32) = (0 : Int32))).2) k) ?_
        refine ownW_step (T' := T74) (f' := (F66 188 [(.int (1 : Int32))])) (fun t k => XS.iconst X74.here hx rfl (hb hby at_187) k) ?_
        refine ownW_step (T' := T74) (f' := (F66 192 [(.int (1 : Int32))])) (fun t k => XS.goto X74.here hx rfl (pc0 := 188) (pc' := 192) rfl (hb hby at_188) (by decide) (by decide) k) ?_
        exact ownW_retN X74 ((State.WarmedH.refl s).since _) (Nat.le_refl _) hx hlk (t := .boolean) Bd.returns (by simp) (hb hby at_192) (by decide) (by decide) ⟨rfl, N74⟩
      · skip
        refine ownW_step (T' := T57) (f' := (F52 92 [(.int (2 : Int32))])) (fun t k => XS.iload X57.here hx rfl (hb hby at_90) rfl k) ?_
        let F75 : Nat → List Value → JFrame := fun a b => mkF m a #[.val (.int p1), .val (.int p2), .val (.int p3), .val (.int p4), .val (.int (2 : Int32)), .val (.ref b42), .val (.ref b50), .val (.int (2 : Int32))] b
        refine ownW_step (T' := T57) (f' := (F75 94 [])) (fun t k => XS.istore X57.here hx rfl (hb hby at_92) rfl (l' := #[.val (.int p1), .val (.int p2), .val (.int p3), .val (.int p4), .val (.int (2 : Int32)), .val (.ref b42), .val (.ref b50), .val (.int (2 : Int32))]) rfl k) ?_
        refine ownW_step (T' := T57) (f' := (F75 96 [(.int (2 : Int32))])) (fun t k => XS.iload X57.here hx rfl (hb hby at_94) rfl k) ?_
        refine ownW_step (T' := T57) (f' := (F75 97 [(.int (2 : Int32)), (.int (2 : Int32))])) (fun t k => XS.iconst X57.here hx rfl (hb hby at_96) k) ?_
        refine ownW_step (T' := T57) (f' := (F75 100 [])) (fun t k => XS.icmpNo X57.here hx rfl (hb hby at_97) rfl (flt (by decide : ¬ ((2 : Int32) < (2 : Int32)))).1 k) ?_
        refine ownW_step (T' := T57) (f' := (F75 102 [(.ref b42)])) (fun t k => XS.aload X57.here hx rfl (hb hby at_100) rfl rfl k) ?_
        refine ownW_step (T' := T57) (f' := (F75 104 [(.int (2 : Int32)), (.ref b42)])) (fun t k => XS.iload X57.here hx rfl (hb hby at_102) rfl k) ?_
        refine ownW_step (T' := T57) (f' := (F75 105 [(.int (2 : Int32)), (.int (2 : Int32)), (.ref b42)])) (fun t k => XS.iconst X57.here hx rfl (hb hby at_104) k) ?_
        refine ownW_step (T' := T57) (f' := (F75 106 [(.int (0 : Int32)), (.ref b42)])) (fun t k => XS.isub X57.here hx rfl (hb hby at_105) rfl k) ?_
        obtain ⟨cl76, Ar76, q76, S76, M76, H76, G76⟩ := id V_b42
        have hin76 : ¬ ((0 : Int32) < 0 ∨ cl76.slots.size ≤ ((0 : Int32)).toNatClampNeg) := inb_of S76 ⟨by decide, by decide⟩
        have hat76 : cl76.slots[((0 : Int32)).toNatClampNeg]? = some (.int c43) := own_at hin76 H76 0 rfl rfl
        refine ownW_step (T' := T57) (f' := (F75 107 [(.int c43)])) (fun t k => X57.caload hx (j := (0 : Int32)) (v := (.int c43)) (by exact Ar76.1) (State.isArrayOf_alike hZ.alike Ar76.2.1) Ar76.2.2 hin76 hat76 (g := (F75 106 [(.int (0 : Int32)), (.ref b42)])) rfl rfl (hb hby at_106) _ k) ?_
        refine ownW_step (T' := T57) (f' := (F75 109 [(.int (92 : Int32)), (.int c43)])) (fun t k => XS.bipush X57.here hx rfl (hb hby at_107) k) ?_
        refine ownW_step (T' := T57) (f' := (F75 154 [])) (fun t k => XS.icmpYes X57.here hx rfl (pc0 := 109) (pc' := 154) rfl (hb hby at_109) rfl (feq (fun q => d92 ((own_sb92 hC43).mpr q))).2 (by decide) (by decide) k) ?_
        refine ownW_step (T' := T57) (f' := (F75 156 [(.ref b50)])) (fun t k => XS.aload X57.here hx rfl (hb hby at_154) rfl rfl k) ?_
        obtain ⟨cq77, kq77, q77a, q77b, q77c⟩ := isOf hZ rfl E_b50
        obtain ⟨_, _, ⟨T77, L77, k77, n77⟩, -, X77, ⟨Lc77, hQ77, l77, y77, z77⟩, st77⟩ := X57.virtualBack hx (y := (⟨"com/example/lit2/lit2/weave/TexOutput", "lineLength", "()I"⟩ : MethodName)) (z := (⟨"com/example/lit2/lit2/weave/TexOutput", "lineLength", "()I"⟩ : MethodName)) hown (mvT hZ (hw _ (List.mem_of_getElem? (i := 32) rfl))) (mvT hZ (hw _ (List.mem_of_getElem? (i := 33) rfl))) (notFace_of_selects (args := #[]) (mvT hZ (hw _ (List.mem_of_getElem? (i := 35) rfl)))) (mvT hZ (hw _ (List.mem_of_getElem? (i := 35) rfl))) (mvT hZ (hw _ (List.mem_of_getElem? (i := 34) rfl))) (by decide) (backOf (W := 0) (rm6 l Z a0 hw [] b50 T57.heap n0 Zz (2 : Int32) qN57) hZ (hw _ (List.mem_of_getElem? (i := 36) rfl)) (hw _ (List.mem_of_getElem? (i := 7) rfl)) (by decide) (by decide)) q77a q77c (g := (F75 156 [(.ref b50)])) rfl (by rw [hml]; rfl) (Steps.refl _) (argsL := []) (rest := []) (lenOf pd_0_2 rfl) rfl (by show 2 * 0 + _ ≤ _; exact Nat.le_of_eq rfl) (hb hby at_156) (fun _ _ => ⟨rfl, rfl, (by decide : 4 + 0 ≤ _), (by decide : 65625 + 0 ≤ _)⟩)
        dsimp only [Pt.U, Pt.locs, Pt.cells, Pt.slots] at X77 l77 y77 z77 st77 hQ77
        subst l77 y77 z77
        obtain ⟨rfl, N77q, E77⟩ := hQ77
        have N77 := Fr.app N57 N77q
        refine ownW_step (T' := T77) (f' := (F75 159 [(.int (2 : Int32))])) (fun t k => st77.trans k) ?_
        refine ownW_step (T' := T77) (f' := (F75 161 [(.int (2 : Int32)), (.int (2 : Int32))])) (fun t k => XS.iload X77.here hx rfl (hb hby at_159) rfl k) ?_
        refine ownW_step (T' := T77) (f' := (F75 164 [])) (fun t k => XS.icmpNo X77.here hx rfl (hb hby at_161) rfl (teq (by decide : (2 : Int32) = (2 : Int32))).2 k) ?_
        refine ownW_step (T' := T77) (f' := (F75 166 [(.ref b50)])) (fun t k => XS.aload X77.here hx rfl (hb hby at_164) rfl rfl k) ?_
        refine ownW_step (T' := T77) (f' := (F75 168 [(.int (2 : Int32)), (.ref b50)])) (fun t k => XS.iload X77.here hx rfl (hb hby at_166) rfl k) ?_
        refine ownW_step (T' := T77) (f' := (F75 170 [(.ref b42), (.int (2 : Int32)), (.ref b50)])) (fun t k => XS.aload X77.here hx rfl (hb hby at_168) rfl rfl k) ?_
        obtain ⟨_, _, ⟨T78, L78, k78, n78⟩, -, X78, ⟨Lc78, hQ78, l78, y78, z78⟩, st78⟩ := Jvm.LawKit.callS X77 hx (y := (⟨"com/example/lit2/lit2/weave/TexOutputDropFinalBreakPinLaw", "str", "(I[C)Ljava/lang/String;"⟩ : MethodName)) hown (mvT hZ (hw _ (List.mem_of_getElem? (i := 37) rfl))) (mvT hZ (hw _ (List.mem_of_getElem? (i := 38) rfl))) (mvT hZ (hw _ (List.mem_of_getElem? (i := 3) rfl))) (mvT hZ (hw _ (List.mem_of_getElem? (i := 39) rfl))) (by decide) (backOf (W := 1) (rm7_2 l Z a0 hw [] b42 T57.heap n0 Zz c43 c45 hC43 hC45 c47 k42 V_b42  cs S_CS hcs) hZ (hw _ (List.mem_of_getElem? (i := 39) rfl)) (hw _ (List.mem_of_getElem? (i := 3) rfl)) (by decide) (by decide)) (g := (F75 170 [(.ref b42), (.int (2 : Int32)), (.ref b50)])) rfl (by rw [hml]; rfl) (argsL := [(.int (2 : Int32)), (.ref b42)]) (rest := [(.ref b50)]) (lenOf pd_0_3 rfl) rfl (by show 2 * 0 + _ ≤ _; exact Nat.le_of_eq rfl) (hb hby at_170) (fun _ _ => ⟨rfl, E77, (by decide : 4 + 3 ≤ _), (by decide : 65625 + 8 ≤ _)⟩)
        dsimp only [Pt.U, Pt.locs, Pt.cells, Pt.slots] at X78 l78 y78 z78 st78 hQ78
        subst l78 y78 z78
        obtain ⟨rr78, rb78, rk78, rfl, N78q, K78, Os78⟩ := hQ78
        have N78 := Fr.app N77 N78q
        replace S_CS := own_sta_keep S_CS K78 all0
        replace S_FM := own_sta_keep S_FM K78 all0
        replace V_b42 := V_b42.keep K78 nin0
        replace EX_b42 := EX_b42.keep K78
        replace E_b50 := E_b50.keep K78
        replace EXb51 := EXb51.keep K78
        replace qL57 := qL57.keep K78 nin0
        replace qN57 := qN57.keep K78 nin0
        replace qW57 := qW57.keep K78 nin0
        replace qV57 := qV57.keep K78 nin0
        replace Zz := Nat.le_trans Zz K78.1
        replace Kp := Kp.trans K78 all0
        refine ownW_step (T' := T78) (f' := (F75 173 [(.ref rr78), (.ref b50)])) (fun t k => st78 t k) ?_
        obtain ⟨cq79, kq79, q79a, q79b, q79c⟩ := isOf hZ rfl E_b50
        obtain ⟨_, _, ⟨T79, L79, k79, n79⟩, -, X79, ⟨Lc79, hQ79, l79, y79, z79⟩, st79⟩ := X78.virtualBack hx (y := (⟨"com/example/lit2/lit2/weave/TexOutput", "endsWith", "(Ljava/lang/String;)Z"⟩ : MethodName)) (z := (⟨"com/example/lit2/lit2/weave/TexOutput", "endsWith", "(Ljava/lang/String;)Z"⟩ : MethodName)) hown (mvT hZ (hw _ (List.mem_of_getElem? (i := 66) rfl))) (mvT hZ (hw _ (List.mem_of_getElem? (i := 67) rfl))) (notFace_of_selects (args := #[]) (mvT hZ (hw _ (List.mem_of_getElem? (i := 69) rfl)))) (mvT hZ (hw _ (List.mem_of_getElem? (i := 69) rfl))) (mvT hZ (hw _ (List.mem_of_getElem? (i := 68) rfl))) (by decide) (backOf (W := 0) (rm13_2 l Z a0 hw [] b50 rr78 T78.heap n0 Zz (own_sb c43) (own_sb c45) (0 : Int32) bb51 kk51 ⟨E_b50, qL57, qN57, qW57, qV57, EXb51, nab51⟩ rb78 rk78 Os78 cs S_CS hcs fm S_FM hfc hfr) hZ (hw _ (List.mem_of_getElem? (i := 70) rfl)) (hw _ (List.mem_of_getElem? (i := 7) rfl)) (by decide) (by decide)) q79a q79c (g := (F75 173 [(.ref rr78), (.ref b50)])) rfl (by rw [hml]; rfl) (Steps.refl _) (argsL := [(.ref rr78)]) (rest := []) (lenOf pd_0_4 rfl) rfl (by show 2 * 0 + _ ≤ _; exact Nat.le_of_eq rfl) (hb hby at_173) (fun _ _ => ⟨rfl, rfl, (by decide : 7 + 0 ≤ _), (by decide : 65633 + 0 ≤ _)⟩)
        dsimp only [Pt.U, Pt.locs, Pt.cells, Pt.slots] at X79 l79 y79 z79 st79 hQ79
        subst l79 y79 z79
        obtain ⟨rfl, N79q, E79⟩ := hQ79
        have N79 := Fr.app N78 N79q
        refine ownW_step (T' := T79) (f' := (F75 176 [(.int (1 : Int32))])) (fun t k => st79.trans k) ?_
        refine ownW_step (T' := T79) (f' := (F75 179 [])) (fun t k => XS.ifNo X79.here hx rfl (hb hby at_176) rfl ((if0 _ _).trans (feq (by decide : ¬ ((1 : Int32) = (0 : Int32)))).1) k) ?_
        refine ownW_step (T' := T79) (f' := (F75 181 [(.ref b50)])) (fun t k => XS.aload X79.here hx rfl (hb hby at_179) rfl rfl k) ?_
        obtain ⟨cq80, kq80, q80a, q80b, q80c⟩ := isOf hZ E79 E_b50
        obtain ⟨_, _, ⟨T80, L80, k80, n80⟩, -, X80, ⟨Lc80, hQ80, l80, y80, z80⟩, st80⟩ := X79.virtualBack hx (y := (⟨"com/example/lit2/lit2/weave/TexOutput", "linesWritten", "()I"⟩ : MethodName)) (z := (⟨"com/example/lit2/lit2/weave/TexOutput", "linesWritten", "()I"⟩ : MethodName)) hown (mvT hZ (hw _ (List.mem_of_getElem? (i := 103) rfl))) (mvT hZ (hw _ (List.mem_of_getElem? (i := 104) rfl))) (notFace_of_selects (args := #[]) (mvT hZ (hw _ (List.mem_of_getElem? (i := 106) rfl)))) (mvT hZ (hw _ (List.mem_of_getElem? (i := 106) rfl))) (mvT hZ (hw _ (List.mem_of_getElem? (i := 105) rfl))) (by decide) (backOf (W := 0) (rm21 l Z a0 hw [] b50 T78.heap n0 Zz qW57) hZ (hw _ (List.mem_of_getElem? (i := 107) rfl)) (hw _ (List.mem_of_getElem? (i := 7) rfl)) (by decide) (by decide)) q80a q80c (g := (F75 181 [(.ref b50)])) rfl (by rw [hml]; rfl) (Steps.refl _) (argsL := []) (rest := []) (lenOf pd_0_2 rfl) rfl (by show 2 * 0 + _ ≤ _; exact Nat.le_of_eq rfl) (hb hby at_181) (fun _ _ => ⟨rfl, E79, (by decide : 7 + 0 ≤ _), (by decide : 65633 + 0 ≤ _)⟩)
        dsimp only [Pt.U, Pt.locs, Pt.cells, Pt.slots] at X80 l80 y80 z80 st80 hQ80
        subst l80 y80 z80
        obtain ⟨rfl, N80q, E80⟩ := hQ80
        have N80 := Fr.app N79 N80q
        refine ownW_step (T' := T80) (f' := (F75 184 [(.int (0 : Int32))])) (fun t k => st80.trans k) ?_
        refine ownW_step (T' := T80) (f' := (F75 187 [])) (fun t k => XS.ifNo X80.here hx rfl (hb hby at_184) rfl ((if0 _ _).trans (teq (by decide : (0 : Int32) = (0 : Int32))).2) k) ?_
        refine ownW_step (T' := T80) (f' := (F75 188 [(.int (1 : Int32))])) (fun t k => XS.iconst X80.here hx rfl (hb hby at_187) k) ?_
        refine ownW_step (T' := T80) (f' := (F75 192 [(.int (1 : Int32))])) (fun t k => XS.goto X80.here hx rfl (pc0 := 188) (pc' := 192) rfl (hb hby at_188) (by decide) (by decide) k) ?_
        exact ownW_retN X80 ((State.WarmedH.refl s).since _) (Nat.le_refl _) hx hlk (t := .boolean) Bd.returns (by simp) (hb hby at_192) (by decide) (by decide) ⟨rfl, N80⟩
      · skip
        refine ownW_step (T' := T57) (f' := (F52 92 [(.int (2 : Int32))])) (fun t k => XS.iload X57.here hx rfl (hb hby at_90) rfl k) ?_
        let F81 : Nat → List Value → JFrame := fun a b => mkF m a #[.val (.int p1), .val (.int p2), .val (.int p3), .val (.int p4), .val (.int (2 : Int32)), .val (.ref b42), .val (.ref b50), .val (.int (2 : Int32))] b
        refine ownW_step (T' := T57) (f' := (F81 94 [])) (fun t k => XS.istore X57.here hx rfl (hb hby at_92) rfl (l' := #[.val (.int p1), .val (.int p2), .val (.int p3), .val (.int p4), .val (.int (2 : Int32)), .val (.ref b42), .val (.ref b50), .val (.int (2 : Int32))]) rfl k) ?_
        refine ownW_step (T' := T57) (f' := (F81 96 [(.int (2 : Int32))])) (fun t k => XS.iload X57.here hx rfl (hb hby at_94) rfl k) ?_
        refine ownW_step (T' := T57) (f' := (F81 97 [(.int (2 : Int32)), (.int (2 : Int32))])) (fun t k => XS.iconst X57.here hx rfl (hb hby at_96) k) ?_
        refine ownW_step (T' := T57) (f' := (F81 100 [])) (fun t k => XS.icmpNo X57.here hx rfl (hb hby at_97) rfl (flt (by decide : ¬ ((2 : Int32) < (2 : Int32)))).1 k) ?_
        refine ownW_step (T' := T57) (f' := (F81 102 [(.ref b42)])) (fun t k => XS.aload X57.here hx rfl (hb hby at_100) rfl rfl k) ?_
        refine ownW_step (T' := T57) (f' := (F81 104 [(.int (2 : Int32)), (.ref b42)])) (fun t k => XS.iload X57.here hx rfl (hb hby at_102) rfl k) ?_
        refine ownW_step (T' := T57) (f' := (F81 105 [(.int (2 : Int32)), (.int (2 : Int32)), (.ref b42)])) (fun t k => XS.iconst X57.here hx rfl (hb hby at_104) k) ?_
        refine ownW_step (T' := T57) (f' := (F81 106 [(.int (0 : Int32)), (.ref b42)])) (fun t k => XS.isub X57.here hx rfl (hb hby at_105) rfl k) ?_
        obtain ⟨cl82, Ar82, q82, S82, M82, H82, G82⟩ := id V_b42
        have hin82 : ¬ ((0 : Int32) < 0 ∨ cl82.slots.size ≤ ((0 : Int32)).toNatClampNeg) := inb_of S82 ⟨by decide, by decide⟩
        have hat82 : cl82.slots[((0 : Int32)).toNatClampNeg]? = some (.int c43) := own_at hin82 H82 0 rfl rfl
        refine ownW_step (T' := T57) (f' := (F81 107 [(.int c43)])) (fun t k => X57.caload hx (j := (0 : Int32)) (v := (.int c43)) (by exact Ar82.1) (State.isArrayOf_alike hZ.alike Ar82.2.1) Ar82.2.2 hin82 hat82 (g := (F81 106 [(.int (0 : Int32)), (.ref b42)])) rfl rfl (hb hby at_106) _ k) ?_
        refine ownW_step (T' := T57) (f' := (F81 109 [(.int (92 : Int32)), (.int c43)])) (fun t k => XS.bipush X57.here hx rfl (hb hby at_107) k) ?_
        refine ownW_step (T' := T57) (f' := (F81 112 [])) (fun t k => XS.icmpNo X57.here hx rfl (hb hby at_109) rfl (teq ((own_sb92 hC43).mp d92)).2 k) ?_
        refine ownW_step (T' := T57) (f' := (F81 114 [(.ref b42)])) (fun t k => XS.aload X57.here hx rfl (hb hby at_112) rfl rfl k) ?_
        refine ownW_step (T' := T57) (f' := (F81 116 [(.int (2 : Int32)), (.ref b42)])) (fun t k => XS.iload X57.here hx rfl (hb hby at_114) rfl k) ?_
        refine ownW_step (T' := T57) (f' := (F81 117 [(.int (1 : Int32)), (.int (2 : Int32)), (.ref b42)])) (fun t k => XS.iconst X57.here hx rfl (hb hby at_116) k) ?_
        refine ownW_step (T' := T57) (f' := (F81 118 [(.int (1 : Int32)), (.ref b42)])) (fun t k => XS.isub X57.here hx rfl (hb hby at_117) rfl k) ?_
        obtain ⟨cl83, Ar83, q83, S83, M83, H83, G83⟩ := id V_b42
        have hin83 : ¬ ((1 : Int32) < 0 ∨ cl83.slots.size ≤ ((1 : Int32)).toNatClampNeg) := inb_of S83 ⟨by decide, by decide⟩
        have hat83 : cl83.slots[((1 : Int32)).toNatClampNeg]? = some (.int c45) := own_at hin83 H83 1 rfl rfl
        refine ownW_step (T' := T57) (f' := (F81 119 [(.int c45)])) (fun t k => X57.caload hx (j := (1 : Int32)) (v := (.int c45)) (by exact Ar83.1) (State.isArrayOf_alike hZ.alike Ar83.2.1) Ar83.2.2 hin83 hat83 (g := (F81 118 [(.int (1 : Int32)), (.ref b42)])) rfl rfl (hb hby at_118) _ k) ?_
        refine ownW_step (T' := T57) (f' := (F81 121 [(.int (54 : Int32)), (.int c45)])) (fun t k => XS.bipush X57.here hx rfl (hb hby at_119) k) ?_
        refine ownW_step (T' := T57) (f' := (F81 133 [])) (fun t k => XS.icmpYes X57.here hx rfl (pc0 := 121) (pc' := 133) rfl (hb hby at_121) rfl (feq (fun q => d54 ((own_sb54 hC45).mpr q))).2 (by decide) (by decide) k) ?_
        refine ownW_step (T' := T57) (f' := (F81 135 [(.ref b42)])) (fun t k => XS.aload X57.here hx rfl (hb hby at_133) rfl rfl k) ?_
        refine ownW_step (T' := T57) (f' := (F81 137 [(.int (2 : Int32)), (.ref b42)])) (fun t k => XS.iload X57.here hx rfl (hb hby at_135) rfl k) ?_
        refine ownW_step (T' := T57) (f' := (F81 138 [(.int (1 : Int32)), (.int (2 : Int32)), (.ref b42)])) (fun t k => XS.iconst X57.here hx rfl (hb hby at_137) k) ?_
        refine ownW_step (T' := T57) (f' := (F81 139 [(.int (1 : Int32)), (.ref b42)])) (fun t k => XS.isub X57.here hx rfl (hb hby at_138) rfl k) ?_
        obtain ⟨cl84, Ar84, q84, S84, M84, H84, G84⟩ := id V_b42
        have hin84 : ¬ ((1 : Int32) < 0 ∨ cl84.slots.size ≤ ((1 : Int32)).toNatClampNeg) := inb_of S84 ⟨by decide, by decide⟩
        have hat84 : cl84.slots[((1 : Int32)).toNatClampNeg]? = some (.int c45) := own_at hin84 H84 1 rfl rfl
        refine ownW_step (T' := T57) (f' := (F81 140 [(.int c45)])) (fun t k => X57.caload hx (j := (1 : Int32)) (v := (.int c45)) (by exact Ar84.1) (State.isArrayOf_alike hZ.alike Ar84.2.1) Ar84.2.2 hin84 hat84 (g := (F81 139 [(.int (1 : Int32)), (.ref b42)])) rfl rfl (hb hby at_139) _ k) ?_
        refine ownW_step (T' := T57) (f' := (F81 142 [(.int (55 : Int32)), (.int c45)])) (fun t k => XS.bipush X57.here hx rfl (hb hby at_140) k) ?_
        refine ownW_step (T' := T57) (f' := (F81 154 [])) (fun t k => XS.icmpYes X57.here hx rfl (pc0 := 142) (pc' := 154) rfl (hb hby at_142) rfl (feq (fun q => d55 ((own_sb55 hC45).mpr q))).2 (by decide) (by decide) k) ?_
        refine ownW_step (T' := T57) (f' := (F81 156 [(.ref b50)])) (fun t k => XS.aload X57.here hx rfl (hb hby at_154) rfl rfl k) ?_
        obtain ⟨cq85, kq85, q85a, q85b, q85c⟩ := isOf hZ rfl E_b50
        obtain ⟨_, _, ⟨T85, L85, k85, n85⟩, -, X85, ⟨Lc85, hQ85, l85, y85, z85⟩, st85⟩ := X57.virtualBack hx (y := (⟨"com/example/lit2/lit2/weave/TexOutput", "lineLength", "()I"⟩ : MethodName)) (z := (⟨"com/example/lit2/lit2/weave/TexOutput", "lineLength", "()I"⟩ : MethodName)) hown (mvT hZ (hw _ (List.mem_of_getElem? (i := 32) rfl))) (mvT hZ (hw _ (List.mem_of_getElem? (i := 33) rfl))) (notFace_of_selects (args := #[]) (mvT hZ (hw _ (List.mem_of_getElem? (i := 35) rfl)))) (mvT hZ (hw _ (List.mem_of_getElem? (i := 35) rfl))) (mvT hZ (hw _ (List.mem_of_getElem? (i := 34) rfl))) (by decide) (backOf (W := 0) (rm6 l Z a0 hw [] b50 T57.heap n0 Zz (2 : Int32) qN57) hZ (hw _ (List.mem_of_getElem? (i := 36) rfl)) (hw _ (List.mem_of_getElem? (i := 7) rfl)) (by decide) (by decide)) q85a q85c (g := (F81 156 [(.ref b50)])) rfl (by rw [hml]; rfl) (Steps.refl _) (argsL := []) (rest := []) (lenOf pd_0_2 rfl) rfl (by show 2 * 0 + _ ≤ _; exact Nat.le_of_eq rfl) (hb hby at_156) (fun _ _ => ⟨rfl, rfl, (by decide : 4 + 0 ≤ _), (by decide : 65625 + 0 ≤ _)⟩)
        dsimp only [Pt.U, Pt.locs, Pt.cells, Pt.slots] at X85 l85 y85 z85 st85 hQ85
        subst l85 y85 z85
        obtain ⟨rfl, N85q, E85⟩ := hQ85
        have N85 := Fr.app N57 N85q
        refine ownW_step (T' := T85) (f' := (F81 159 [(.int (2 : Int32))])) (fun t k => st85.trans k) ?_
        refine ownW_step (T' := T85) (f' := (F81 161 [(.int (2 : Int32)), (.int (2 : Int32))])) (fun t k => XS.iload X85.here hx rfl (hb hby at_159) rfl k) ?_
        refine ownW_step (T' := T85) (f' := (F81 164 [])) (fun t k => XS.icmpNo X85.here hx rfl (hb hby at_161) rfl (teq (by decide : (2 : Int32) = (2 : Int32))).2 k) ?_
        refine ownW_step (T' := T85) (f' := (F81 166 [(.ref b50)])) (fun t k => XS.aload X85.here hx rfl (hb hby at_164) rfl rfl k) ?_
        refine ownW_step (T' := T85) (f' := (F81 168 [(.int (2 : Int32)), (.ref b50)])) (fun t k => XS.iload X85.here hx rfl (hb hby at_166) rfl k) ?_
        refine ownW_step (T' := T85) (f' := (F81 170 [(.ref b42), (.int (2 : Int32)), (.ref b50)])) (fun t k => XS.aload X85.here hx rfl (hb hby at_168) rfl rfl k) ?_
        obtain ⟨_, _, ⟨T86, L86, k86, n86⟩, -, X86, ⟨Lc86, hQ86, l86, y86, z86⟩, st86⟩ := Jvm.LawKit.callS X85 hx (y := (⟨"com/example/lit2/lit2/weave/TexOutputDropFinalBreakPinLaw", "str", "(I[C)Ljava/lang/String;"⟩ : MethodName)) hown (mvT hZ (hw _ (List.mem_of_getElem? (i := 37) rfl))) (mvT hZ (hw _ (List.mem_of_getElem? (i := 38) rfl))) (mvT hZ (hw _ (List.mem_of_getElem? (i := 3) rfl))) (mvT hZ (hw _ (List.mem_of_getElem? (i := 39) rfl))) (by decide) (backOf (W := 1) (rm7_2 l Z a0 hw [] b42 T57.heap n0 Zz c43 c45 hC43 hC45 c47 k42 V_b42  cs S_CS hcs) hZ (hw _ (List.mem_of_getElem? (i := 39) rfl)) (hw _ (List.mem_of_getElem? (i := 3) rfl)) (by decide) (by decide)) (g := (F81 170 [(.ref b42), (.int (2 : Int32)), (.ref b50)])) rfl (by rw [hml]; rfl) (argsL := [(.int (2 : Int32)), (.ref b42)]) (rest := [(.ref b50)]) (lenOf pd_0_3 rfl) rfl (by show 2 * 0 + _ ≤ _; exact Nat.le_of_eq rfl) (hb hby at_170) (fun _ _ => ⟨rfl, E85, (by decide : 4 + 3 ≤ _), (by decide : 65625 + 8 ≤ _)⟩)
        dsimp only [Pt.U, Pt.locs, Pt.cells, Pt.slots] at X86 l86 y86 z86 st86 hQ86
        subst l86 y86 z86
        obtain ⟨rr86, rb86, rk86, rfl, N86q, K86, Os86⟩ := hQ86
        have N86 := Fr.app N85 N86q
        replace S_CS := own_sta_keep S_CS K86 all0
        replace S_FM := own_sta_keep S_FM K86 all0
        replace V_b42 := V_b42.keep K86 nin0
        replace EX_b42 := EX_b42.keep K86
        replace E_b50 := E_b50.keep K86
        replace EXb51 := EXb51.keep K86
        replace qL57 := qL57.keep K86 nin0
        replace qN57 := qN57.keep K86 nin0
        replace qW57 := qW57.keep K86 nin0
        replace qV57 := qV57.keep K86 nin0
        replace Zz := Nat.le_trans Zz K86.1
        replace Kp := Kp.trans K86 all0
        refine ownW_step (T' := T86) (f' := (F81 173 [(.ref rr86), (.ref b50)])) (fun t k => st86 t k) ?_
        obtain ⟨cq87, kq87, q87a, q87b, q87c⟩ := isOf hZ rfl E_b50
        obtain ⟨_, _, ⟨T87, L87, k87, n87⟩, -, X87, ⟨Lc87, hQ87, l87, y87, z87⟩, st87⟩ := X86.virtualBack hx (y := (⟨"com/example/lit2/lit2/weave/TexOutput", "endsWith", "(Ljava/lang/String;)Z"⟩ : MethodName)) (z := (⟨"com/example/lit2/lit2/weave/TexOutput", "endsWith", "(Ljava/lang/String;)Z"⟩ : MethodName)) hown (mvT hZ (hw _ (List.mem_of_getElem? (i := 66) rfl))) (mvT hZ (hw _ (List.mem_of_getElem? (i := 67) rfl))) (notFace_of_selects (args := #[]) (mvT hZ (hw _ (List.mem_of_getElem? (i := 69) rfl)))) (mvT hZ (hw _ (List.mem_of_getElem? (i := 69) rfl))) (mvT hZ (hw _ (List.mem_of_getElem? (i := 68) rfl))) (by decide) (backOf (W := 0) (rm13_2 l Z a0 hw [] b50 rr86 T86.heap n0 Zz (own_sb c43) (own_sb c45) (0 : Int32) bb51 kk51 ⟨E_b50, qL57, qN57, qW57, qV57, EXb51, nab51⟩ rb86 rk86 Os86 cs S_CS hcs fm S_FM hfc hfr) hZ (hw _ (List.mem_of_getElem? (i := 70) rfl)) (hw _ (List.mem_of_getElem? (i := 7) rfl)) (by decide) (by decide)) q87a q87c (g := (F81 173 [(.ref rr86), (.ref b50)])) rfl (by rw [hml]; rfl) (Steps.refl _) (argsL := [(.ref rr86)]) (rest := []) (lenOf pd_0_4 rfl) rfl (by show 2 * 0 + _ ≤ _; exact Nat.le_of_eq rfl) (hb hby at_173) (fun _ _ => ⟨rfl, rfl, (by decide : 7 + 0 ≤ _), (by decide : 65633 + 0 ≤ _)⟩)
        dsimp only [Pt.U, Pt.locs, Pt.cells, Pt.slots] at X87 l87 y87 z87 st87 hQ87
        subst l87 y87 z87
        obtain ⟨rfl, N87q, E87⟩ := hQ87
        have N87 := Fr.app N86 N87q
        refine ownW_step (T' := T87) (f' := (F81 176 [(.int (1 : Int32))])) (fun t k => st87.trans k) ?_
        refine ownW_step (T' := T87) (f' := (F81 179 [])) (fun t k => XS.ifNo X87.here hx rfl (hb hby at_176) rfl ((if0 _ _).trans (feq (by decide : ¬ ((1 : Int32) = (0 : Int32)))).1) k) ?_
        refine ownW_step (T' := T87) (f' := (F81 181 [(.ref b50)])) (fun t k => XS.aload X87.here hx rfl (hb hby at_179) rfl rfl k) ?_
        obtain ⟨cq88, kq88, q88a, q88b, q88c⟩ := isOf hZ E87 E_b50
        obtain ⟨_, _, ⟨T88, L88, k88, n88⟩, -, X88, ⟨Lc88, hQ88, l88, y88, z88⟩, st88⟩ := X87.virtualBack hx (y := (⟨"com/example/lit2/lit2/weave/TexOutput", "linesWritten", "()I"⟩ : MethodName)) (z := (⟨"com/example/lit2/lit2/weave/TexOutput", "linesWritten", "()I"⟩ : MethodName)) hown (mvT hZ (hw _ (List.mem_of_getElem? (i := 103) rfl))) (mvT hZ (hw _ (List.mem_of_getElem? (i := 104) rfl))) (notFace_of_selects (args := #[]) (mvT hZ (hw _ (List.mem_of_getElem? (i := 106) rfl)))) (mvT hZ (hw _ (List.mem_of_getElem? (i := 106) rfl))) (mvT hZ (hw _ (List.mem_of_getElem? (i := 105) rfl))) (by decide) (backOf (W := 0) (rm21 l Z a0 hw [] b50 T86.heap n0 Zz qW57) hZ (hw _ (List.mem_of_getElem? (i := 107) rfl)) (hw _ (List.mem_of_getElem? (i := 7) rfl)) (by decide) (by decide)) q88a q88c (g := (F81 181 [(.ref b50)])) rfl (by rw [hml]; rfl) (Steps.refl _) (argsL := []) (rest := []) (lenOf pd_0_2 rfl) rfl (by show 2 * 0 + _ ≤ _; exact Nat.le_of_eq rfl) (hb hby at_181) (fun _ _ => ⟨rfl, E87, (by decide : 7 + 0 ≤ _), (by decide : 65633 + 0 ≤ _)⟩)
        dsimp only [Pt.U, Pt.locs, Pt.cells, Pt.slots] at X88 l88 y88 z88 st88 hQ88
        subst l88 y88 z88
        obtain ⟨rfl, N88q, E88⟩ := hQ88
        have N88 := Fr.app N87 N88q
        refine ownW_step (T' := T88) (f' := (F81 184 [(.int (0 : Int32))])) (fun t k => st88.trans k) ?_
        refine ownW_step (T' := T88) (f' := (F81 187 [])) (fun t k => XS.ifNo X88.here hx rfl (hb hby at_184) rfl ((if0 _ _).trans (teq (by decide : (0 : Int32) = (0 : Int32))).2) k) ?_
        refine ownW_step (T' := T88) (f' := (F81 188 [(.int (1 : Int32))])) (fun t k => XS.iconst X88.here hx rfl (hb hby at_187) k) ?_
        refine ownW_step (T' := T88) (f' := (F81 192 [(.int (1 : Int32))])) (fun t k => XS.goto X88.here hx rfl (pc0 := 188) (pc' := 192) rfl (hb hby at_188) (by decide) (by decide) k) ?_
        exact ownW_retN X88 ((State.WarmedH.refl s).since _) (Nat.le_refl _) hx hlk (t := .boolean) Bd.returns (by simp) (hb hby at_192) (by decide) (by decide) ⟨rfl, N88⟩
    · skip
      let F89 : Nat → List Value → JFrame := fun a b => mkF m a #[.val (.int p1), .val (.int p2), .val (.int p3), .val (.int p4), .val (.int (3 : Int32)), .unset, .unset, .unset] b
      refine ownW_step (T' := T_2) (f' := (F89 6 [(.int (3 : Int32))])) (fun t k => XS.iconst X_2.here hx rfl (hb hby at_5) k) ?_
      obtain ⟨T90, h90, k90, X90, e90, E90, A90, EX90, st90⟩ := newPE X_2 hx hZ (hw _ (List.mem_of_getElem? (i := 0) rfl)) e_2 (g := (F89 6 [(.int (3 : Int32))])) rfl (hb hby at_6) rfl (by decide) (cap := 3) (by decide) (by decide) (by decide) (by decide) (ad := "[C") rfl
      obtain ⟨b90, g90⟩ : ∃ z, z = h0.size := ⟨_, rfl⟩
      rw [← g90] at A90 EX90 st90
      have g_b90 : n0 ≤ b90 := Nat.le_trans Zz (Nat.le_of_eq g90.symm)
      have sz_b90 : h0.size ≤ b90 := Nat.le_trans Kp.1 (Nat.le_of_eq g90.symm)
      replace S_CS := S_CS.ext E90
      replace S_FM := S_FM.ext E90
      replace Zz := Nat.le_trans Zz E90.1
      replace Kp := Kp.ext E90
      have V_b90 : Arv Z h90 b90 k90 .char (3 : Int32) [(.int (0 : Int32)), (.int (0 : Int32)), (.int (0 : Int32))] (.int (0 : Int32)) := (Arv.new A90 (by decide)).pad (pad_rep [] (.int (0 : Int32)) 3)
      have EX_b90 := EX90
      refine ownW_step (T' := T90) (f' := (F89 8 [(.ref b90)])) (fun t k => st90 t k) ?_
      refine ownW_step (T' := T90) (f' := (F89 9 [(.ref b90), (.ref b90)])) (fun t k => XS.dup X90.here hx rfl (hb hby at_8) rfl rfl k) ?_
      refine ownW_step (T' := T90) (f' := (F89 10 [(.int (0 : Int32)), (.ref b90), (.ref b90)])) (fun t k => XS.iconst X90.here hx rfl (hb hby at_9) k) ?_
      refine ownW_step (T' := T90) (f' := (F89 11 [(.int p1), (.int (0 : Int32)), (.ref b90), (.ref b90)])) (fun t k => XS.iloadN X90.here hx rfl (hb hby at_10) rfl k) ?_
      obtain ⟨_, _, ⟨T91, L91, k91, n91⟩, -, X91, ⟨Lc91, hQ91, l91, y91, z91⟩, st91⟩ := Jvm.LawKit.callS X90 hx (y := (⟨"com/example/lit2/lit2/weave/TexOutputDropFinalBreakPinLaw", "pick", "(I)C"⟩ : MethodName)) hown (mvT hZ (hw _ (List.mem_of_getElem? (i := 1) rfl))) (mvT hZ (hw _ (List.mem_of_getElem? (i := 2) rfl))) (mvT hZ (hw _ (List.mem_of_getElem? (i := 3) rfl))) (mvT hZ (hw _ (List.mem_of_getElem? (i := 4) rfl))) (by decide) (backOf (W := 3) (rm1 l Z a0 hw [] p1 h90 n0 Zz) hZ (hw _ (List.mem_of_getElem? (i := 4) rfl)) (hw _ (List.mem_of_getElem? (i := 3) rfl)) (by decide) (by decide)) (g := (F89 11 [(.int p1), (.int (0 : Int32)), (.ref b90), (.ref b90)])) rfl (by rw [hml]; rfl) (argsL := [(.int p1)]) (rest := [(.int (0 : Int32)), (.ref b90), (.ref b90)]) (lenOf pd_0_0 rfl) rfl (by show 2 * 0 + _ ≤ _; exact Nat.le_of_eq rfl) (hb hby at_11) (fun _ _ => ⟨rfl, e90, (by decide : 1 + 0 ≤ _), (by decide : 3 + 0 ≤ _)⟩)
      dsimp only [Pt.U, Pt.locs, Pt.cells, Pt.slots] at X91 l91 y91 z91 st91 hQ91
      subst l91 y91 z91
      obtain ⟨c91, rfl, N91q, E91, hC91⟩ := hQ91
      have N91 := Fr.app N_2 N91q
      refine ownW_step (T' := T91) (f' := (F89 14 [(.int c91), (.int (0 : Int32)), (.ref b90), (.ref b90)])) (fun t k => st91 t k) ?_
      obtain ⟨cl92, Ar92, q92, S92, M92, H92, G92⟩ := V_b90
      have hin92 : ¬ ((0 : Int32) < 0 ∨ cl92.slots.size ≤ ((0 : Int32)).toNatClampNeg) := inb_of S92 ⟨by decide, by decide⟩
      obtain ⟨T92, h92, X92, e92, W92, st92⟩ := stC X91 hx hZ E91 Ar92 (j := (0 : Int32)) hin92 (g := (F89 14 [(.int c91), (.int (0 : Int32)), (.ref b90), (.ref b90)])) rfl rfl (hb hby at_14)
      have V_b90 : Arv Z h92 b90 k90 .char (3 : Int32) [(.int c91), (.int (0 : Int32)), (.int (0 : Int32))] (.int (0 : Int32)) := by have q := Arv.set Ar92 q92 S92 M92 H92 G92 (fits_nar_char _) W92 0 rfl (Nat.le_of_ble_eq_true rfl); rw [own_nc hC91] at q; exact q
      replace S_CS := S_CS.wr W92
      replace S_FM := S_FM.wr W92
      replace EX_b90 := EX_b90.wr W92
      replace Zz := Nat.le_trans Zz (Keep.of_wr W92).1
      replace Kp := Kp.wr W92 (Or.inr sz_b90)
      have N92 := Fr.snoc X92 N91 g_b90
      refine ownW_step (T' := T92) (f' := (F89 15 [(.ref b90)])) (fun t k => st92 t k) ?_
      refine ownW_step (T' := T92) (f' := (F89 16 [(.ref b90), (.ref b90)])) (fun t k => XS.dup X92.here hx rfl (hb hby at_15) rfl rfl k) ?_
      refine ownW_step (T' := T92) (f' := (F89 17 [(.int (1 : Int32)), (.ref b90), (.ref b90)])) (fun t k => XS.iconst X92.here hx rfl (hb hby at_16) k) ?_
      refine ownW_step (T' := T92) (f' := (F89 18 [(.int p2), (.int (1 : Int32)), (.ref b90), (.ref b90)])) (fun t k => XS.iloadN X92.here hx rfl (hb hby at_17) rfl k) ?_
      obtain ⟨_, _, ⟨T93, L93, k93, n93⟩, -, X93, ⟨Lc93, hQ93, l93, y93, z93⟩, st93⟩ := Jvm.LawKit.callS X92 hx (y := (⟨"com/example/lit2/lit2/weave/TexOutputDropFinalBreakPinLaw", "pick", "(I)C"⟩ : MethodName)) hown (mvT hZ (hw _ (List.mem_of_getElem? (i := 1) rfl))) (mvT hZ (hw _ (List.mem_of_getElem? (i := 2) rfl))) (mvT hZ (hw _ (List.mem_of_getElem? (i := 3) rfl))) (mvT hZ (hw _ (List.mem_of_getElem? (i := 4) rfl))) (by decide) (backOf (W := 3) (rm1 l Z a0 hw [] p2 h92 n0 Zz) hZ (hw _ (List.mem_of_getElem? (i := 4) rfl)) (hw _ (List.mem_of_getElem? (i := 3) rfl)) (by decide) (by decide)) (g := (F89 18 [(.int p2), (.int (1 : Int32)), (.ref b90), (.ref b90)])) rfl (by rw [hml]; rfl) (argsL := [(.int p2)]) (rest := [(.int (1 : Int32)), (.ref b90), (.ref b90)]) (lenOf pd_0_0 rfl) rfl (by show 2 * 0 + _ ≤ _; exact Nat.le_of_eq rfl) (hb hby at_18) (fun _ _ => ⟨rfl, e92, (by decide : 1 + 0 ≤ _), (by decide : 3 + 0 ≤ _)⟩)
      dsimp only [Pt.U, Pt.locs, Pt.cells, Pt.slots] at X93 l93 y93 z93 st93 hQ93
      subst l93 y93 z93
      obtain ⟨c93, rfl, N93q, E93, hC93⟩ := hQ93
      have N93 := Fr.app N92 N93q
      refine ownW_step (T' := T93) (f' := (F89 21 [(.int c93), (.int (1 : Int32)), (.ref b90), (.ref b90)])) (fun t k => st93 t k) ?_
      obtain ⟨cl94, Ar94, q94, S94, M94, H94, G94⟩ := V_b90
      have hin94 : ¬ ((1 : Int32) < 0 ∨ cl94.slots.size ≤ ((1 : Int32)).toNatClampNeg) := inb_of S94 ⟨by decide, by decide⟩
      obtain ⟨T94, h94, X94, e94, W94, st94⟩ := stC X93 hx hZ E93 Ar94 (j := (1 : Int32)) hin94 (g := (F89 21 [(.int c93), (.int (1 : Int32)), (.ref b90), (.ref b90)])) rfl rfl (hb hby at_21)
      have V_b90 : Arv Z h94 b90 k90 .char (3 : Int32) [(.int c91), (.int c93), (.int (0 : Int32))] (.int (0 : Int32)) := by have q := Arv.set Ar94 q94 S94 M94 H94 G94 (fits_nar_char _) W94 1 rfl (Nat.le_of_ble_eq_true rfl); rw [own_nc hC93] at q; exact q
      replace S_CS := S_CS.wr W94
      replace S_FM := S_FM.wr W94
      replace EX_b90 := EX_b90.wr W94
      replace Zz := Nat.le_trans Zz (Keep.of_wr W94).1
      replace Kp := Kp.wr W94 (Or.inr sz_b90)
      have N94 := Fr.snoc X94 N93 g_b90
      refine ownW_step (T' := T94) (f' := (F89 22 [(.ref b90)])) (fun t k => st94 t k) ?_
      refine ownW_step (T' := T94) (f' := (F89 23 [(.ref b90), (.ref b90)])) (fun t k => XS.dup X94.here hx rfl (hb hby at_22) rfl rfl k) ?_
      refine ownW_step (T' := T94) (f' := (F89 24 [(.int (2 : Int32)), (.ref b90), (.ref b90)])) (fun t k => XS.iconst X94.here hx rfl (hb hby at_23) k) ?_
      refine ownW_step (T' := T94) (f' := (F89 25 [(.int p3), (.int (2 : Int32)), (.ref b90), (.ref b90)])) (fun t k => XS.iloadN X94.here hx rfl (hb hby at_24) rfl k) ?_
      obtain ⟨_, _, ⟨T95, L95, k95, n95⟩, -, X95, ⟨Lc95, hQ95, l95, y95, z95⟩, st95⟩ := Jvm.LawKit.callS X94 hx (y := (⟨"com/example/lit2/lit2/weave/TexOutputDropFinalBreakPinLaw", "pick", "(I)C"⟩ : MethodName)) hown (mvT hZ (hw _ (List.mem_of_getElem? (i := 1) rfl))) (mvT hZ (hw _ (List.mem_of_getElem? (i := 2) rfl))) (mvT hZ (hw _ (List.mem_of_getElem? (i := 3) rfl))) (mvT hZ (hw _ (List.mem_of_getElem? (i := 4) rfl))) (by decide) (backOf (W := 3) (rm1 l Z a0 hw [] p3 h94 n0 Zz) hZ (hw _ (List.mem_of_getElem? (i := 4) rfl)) (hw _ (List.mem_of_getElem? (i := 3) rfl)) (by decide) (by decide)) (g := (F89 25 [(.int p3), (.int (2 : Int32)), (.ref b90), (.ref b90)])) rfl (by rw [hml]; rfl) (argsL := [(.int p3)]) (rest := [(.int (2 : Int32)), (.ref b90), (.ref b90)]) (lenOf pd_0_0 rfl) rfl (by show 2 * 0 + _ ≤ _; exact Nat.le_of_eq rfl) (hb hby at_25) (fun _ _ => ⟨rfl, e94, (by decide : 1 + 0 ≤ _), (by decide : 3 + 0 ≤ _)⟩)
      dsimp only [Pt.U, Pt.locs, Pt.cells, Pt.slots] at X95 l95 y95 z95 st95 hQ95
      subst l95 y95 z95
      obtain ⟨c95, rfl, N95q, E95, hC95⟩ := hQ95
      have N95 := Fr.app N94 N95q
      refine ownW_step (T' := T95) (f' := (F89 28 [(.int c95), (.int (2 : Int32)), (.ref b90), (.ref b90)])) (fun t k => st95 t k) ?_
      obtain ⟨cl96, Ar96, q96, S96, M96, H96, G96⟩ := V_b90
      have hin96 : ¬ ((2 : Int32) < 0 ∨ cl96.slots.size ≤ ((2 : Int32)).toNatClampNeg) := inb_of S96 ⟨by decide, by decide⟩
      obtain ⟨T96, h96, X96, e96, W96, st96⟩ := stC X95 hx hZ E95 Ar96 (j := (2 : Int32)) hin96 (g := (F89 28 [(.int c95), (.int (2 : Int32)), (.ref b90), (.ref b90)])) rfl rfl (hb hby at_28)
      have V_b90 : Arv Z h96 b90 k90 .char (3 : Int32) [(.int c91), (.int c93), (.int c95)] (.int (0 : Int32)) := by have q := Arv.set Ar96 q96 S96 M96 H96 G96 (fits_nar_char _) W96 2 rfl (Nat.le_of_ble_eq_true rfl); rw [own_nc hC95] at q; exact q
      replace S_CS := S_CS.wr W96
      replace S_FM := S_FM.wr W96
      replace EX_b90 := EX_b90.wr W96
      replace Zz := Nat.le_trans Zz (Keep.of_wr W96).1
      replace Kp := Kp.wr W96 (Or.inr sz_b90)
      have N96 := Fr.snoc X96 N95 g_b90
      refine ownW_step (T' := T96) (f' := (F89 29 [(.ref b90)])) (fun t k => st96 t k) ?_
      let F97 : Nat → List Value → JFrame := fun a b => mkF m a #[.val (.int p1), .val (.int p2), .val (.int p3), .val (.int p4), .val (.int (3 : Int32)), .val (.ref b90), .unset, .unset] b
      refine ownW_step (T' := T96) (f' := (F97 31 [])) (fun t k => XS.astore X96.here hx rfl (hb hby at_29) rfl rfl (l' := #[.val (.int p1), .val (.int p2), .val (.int p3), .val (.int p4), .val (.int (3 : Int32)), .val (.ref b90), .unset, .unset]) rfl k) ?_
      obtain ⟨T98, h98, X98, e98, E98, A98, D98, -, st98⟩ := newO X96 hx hZ hown (hw _ (List.mem_of_getElem? (i := 5) rfl)) (hw _ (List.mem_of_getElem? (i := 6) rfl)) (hw _ (List.mem_of_getElem? (i := 7) rfl)) e96 (g := (F97 31 [])) rfl (hb hby at_31) (by decide) (by decide)
      obtain ⟨b98, g98⟩ : ∃ z, z = h96.size := ⟨_, rfl⟩
      rw [← g98] at A98 D98 st98
      have ne_b90_b98 : b90 ≠ b98 := Nat.ne_of_lt (Nat.lt_of_lt_of_le V_b90.lt (Nat.le_of_eq g98.symm))
      have g_b98 : n0 ≤ b98 := Nat.le_trans Zz (Nat.le_of_eq g98.symm)
      have sz_b98 : h0.size ≤ b98 := Nat.le_trans Kp.1 (Nat.le_of_eq g98.symm)
      replace S_CS := S_CS.ext E98
      replace S_FM := S_FM.ext E98
      replace V_b90 := V_b90.ext E98
      replace EX_b90 := EX_b90.ext E98
      replace Zz := Nat.le_trans Zz E98.1
      replace Kp := Kp.ext E98
      have E_b98 := A98
      have F_document_b98 : Fld Z h98 b98 "com/example/lit2/lit2/weave/TexOutput" "document" "[B" .null := D98 (Or.inl (hw _ (List.mem_of_getElem? (i := 17) rfl))) (ty := (.array .byte)) (by decide)
      have F_line_b98 : Fld Z h98 b98 "com/example/lit2/lit2/weave/TexOutput" "line" "[B" .null := D98 (Or.inr (hw _ (List.mem_of_getElem? (i := 19) rfl))) (ty := (.array .byte)) (by decide)
      have F_length_b98 : Fld Z h98 b98 "com/example/lit2/lit2/weave/TexOutput" "length" "I" (.int (0 : Int32)) := D98 (Or.inl (hw _ (List.mem_of_getElem? (i := 26) rfl))) (ty := .int) (by decide)
      have F_linesWritten_b98 : Fld Z h98 b98 "com/example/lit2/lit2/weave/TexOutput" "linesWritten" "I" (.int (0 : Int32)) := D98 (Or.inl (hw _ (List.mem_of_getElem? (i := 109) rfl))) (ty := .int) (by decide)
      refine ownW_step (T' := T98) (f' := (F97 34 [(.ref b98)])) (fun t k => st98 t k) ?_
      refine ownW_step (T' := T98) (f' := (F97 35 [(.ref b98), (.ref b98)])) (fun t k => XS.dup X98.here hx rfl (hb hby at_34) rfl rfl k) ?_
      obtain ⟨_, _, ⟨T99, L99, k99, n99⟩, -, X99, ⟨Lc99, hQ99, l99, y99, z99⟩, st99⟩ := X98.specialBack hx (y := (⟨"com/example/lit2/lit2/weave/TexOutput", "<init>", "()V"⟩ : MethodName)) rfl hown (mvT hZ (hw _ (List.mem_of_getElem? (i := 8) rfl))) (mvT hZ (hw _ (List.mem_of_getElem? (i := 9) rfl))) (mvT hZ (hw _ (List.mem_of_getElem? (i := 10) rfl))) (by decide) (backOf (W := 1) (rm2 l Z a0 hw [] b98 h98 n0 Zz E_b98 F_document_b98 F_line_b98 F_length_b98 F_linesWritten_b98 g_b98) hZ (hw _ (List.mem_of_getElem? (i := 10) rfl)) (hw _ (List.mem_of_getElem? (i := 7) rfl)) (by decide) (by decide)) (g := (F97 35 [(.ref b98), (.ref b98)])) rfl (by rw [hml]; rfl) (Steps.refl _) (a := b98) (argsL := []) (rest := [(.ref b98)]) (lenOf pd_0_1 rfl) rfl (by show 2 * 0 + _ ≤ _; exact Nat.le_of_eq rfl) (hb hby at_35) (fun _ _ => ⟨rfl, e98, (by decide : 2 + 2 ≤ _), (by decide : 9 + 65616 ≤ _)⟩)
      dsimp only [Pt.U, Pt.locs, Pt.cells, Pt.slots] at X99 l99 y99 z99 st99 hQ99
      subst l99 y99 z99
      obtain ⟨rfl, N99q, K99, bb99, kk99, zz99, FE99, FL99, FN99, FW99, FV99, EXb99, nab99⟩ := hQ99
      have N99 := Fr.app N96 N99q
      have ne_b90_bb99 : b90 ≠ bb99 := Nat.ne_of_lt (Nat.lt_of_lt_of_le V_b90.lt zz99)
      have ne_b98_bb99 : b98 ≠ bb99 := Nat.ne_of_lt (Nat.lt_of_lt_of_le E_b98.lt zz99)
      have sz_bb99 : h0.size ≤ bb99 := Nat.le_trans Kp.1 zz99
      have g_bb99 : n0 ≤ bb99 := Nat.le_trans Zz zz99
      replace S_CS := own_sta_keep S_CS K99 (allS ⟨_, E_b98⟩ all0)
      replace S_FM := own_sta_keep S_FM K99 (allS ⟨_, E_b98⟩ all0)
      replace V_b90 := V_b90.keep K99 (ninS ne_b90_b98 nin0)
      replace EX_b90 := EX_b90.keep K99
      replace E_b98 := E_b98.keep K99
      replace Zz := Nat.le_trans Zz K99.1
      replace Kp := Kp.trans K99 (allS (Or.inr sz_b98) all0)
      refine ownW_step (T' := T99) (f' := (F97 38 [(.ref b98)])) (fun t k => st99.trans k) ?_
      let F100 : Nat → List Value → JFrame := fun a b => mkF m a #[.val (.int p1), .val (.int p2), .val (.int p3), .val (.int p4), .val (.int (3 : Int32)), .val (.ref b90), .val (.ref b98), .unset] b
      refine ownW_step (T' := T99) (f' := (F100 40 [])) (fun t k => XS.astore X99.here hx rfl (hb hby at_38) rfl rfl (l' := #[.val (.int p1), .val (.int p2), .val (.int p3), .val (.int p4), .val (.int (3 : Int32)), .val (.ref b90), .val (.ref b98), .unset]) rfl k) ?_
      refine ownW_step (T' := T99) (f' := (F100 42 [(.int (3 : Int32))])) (fun t k => XS.iload X99.here hx rfl (hb hby at_40) rfl k) ?_
      refine ownW_step (T' := T99) (f' := (F100 43 [(.int (1 : Int32)), (.int (3 : Int32))])) (fun t k => XS.iconst X99.here hx rfl (hb hby at_42) k) ?_
      refine ownW_step (T' := T99) (f' := (F100 46 [])) (fun t k => XS.icmpNo X99.here hx rfl (hb hby at_43) rfl (flt (by decide : ¬ ((3 : Int32) < (1 : Int32)))).1 k) ?_
      refine ownW_step (T' := T99) (f' := (F100 48 [(.ref b98)])) (fun t k => XS.aload X99.here hx rfl (hb hby at_46) rfl rfl k) ?_
      refine ownW_step (T' := T99) (f' := (F100 50 [(.ref b90), (.ref b98)])) (fun t k => XS.aload X99.here hx rfl (hb hby at_48) rfl rfl k) ?_
      refine ownW_step (T' := T99) (f' := (F100 51 [(.int (0 : Int32)), (.ref b90), (.ref b98)])) (fun t k => XS.iconst X99.here hx rfl (hb hby at_50) k) ?_
      obtain ⟨cl101, Ar101, q101, S101, M101, H101, G101⟩ := id V_b90
      have hin101 : ¬ ((0 : Int32) < 0 ∨ cl101.slots.size ≤ ((0 : Int32)).toNatClampNeg) := inb_of S101 ⟨by decide, by decide⟩
      have hat101 : cl101.slots[((0 : Int32)).toNatClampNeg]? = some (.int c91) := own_at hin101 H101 0 rfl rfl
      refine ownW_step (T' := T99) (f' := (F100 52 [(.int c91), (.ref b98)])) (fun t k => X99.caload hx (j := (0 : Int32)) (v := (.int c91)) (by exact Ar101.1) (State.isArrayOf_alike hZ.alike Ar101.2.1) Ar101.2.2 hin101 hat101 (g := (F100 51 [(.int (0 : Int32)), (.ref b90), (.ref b98)])) rfl rfl (hb hby at_51) _ k) ?_
      obtain ⟨cq102, kq102, q102a, q102b, q102c⟩ := isOf hZ rfl E_b98
      obtain ⟨_, _, ⟨T102, L102, k102, n102⟩, -, X102, ⟨Lc102, hQ102, l102, y102, z102⟩, st102⟩ := X99.virtualBack hx (y := (⟨"com/example/lit2/lit2/weave/TexOutput", "out", "(C)V"⟩ : MethodName)) (z := (⟨"com/example/lit2/lit2/weave/TexOutput", "out", "(C)V"⟩ : MethodName)) hown (mvT hZ (hw _ (List.mem_of_getElem? (i := 20) rfl))) (mvT hZ (hw _ (List.mem_of_getElem? (i := 21) rfl))) (notFace_of_selects (args := #[]) (mvT hZ (hw _ (List.mem_of_getElem? (i := 23) rfl)))) (mvT hZ (hw _ (List.mem_of_getElem? (i := 23) rfl))) (mvT hZ (hw _ (List.mem_of_getElem? (i := 22) rfl))) (by decide) (backOf (W := 0) (rm4_0 l Z a0 hw [] b98 c91 T99.heap n0 Zz (.int (0 : Int32)) (.int (0 : Int32)) (.int (0 : Int32)) bb99 kk99 ⟨E_b98, FL99, FN99, FW99, FV99, EXb99, nab99⟩ g_b98 g_bb99) hZ (hw _ (List.mem_of_getElem? (i := 24) rfl)) (hw _ (List.mem_of_getElem? (i := 7) rfl)) (by decide) (by decide)) q102a q102c (g := (F100 52 [(.int c91), (.ref b98)])) rfl (by rw [hml]; rfl) (Steps.refl _) (argsL := [(.int c91)]) (rest := []) (lenOf pd_0_5 rfl) rfl (by show 2 * 0 + _ ≤ _; exact Nat.le_of_eq rfl) (hb hby at_52) (fun _ _ => ⟨rfl, rfl, (by decide : 4 + 0 ≤ _), (by decide : 65625 + 0 ≤ _)⟩)
      dsimp only [Pt.U, Pt.locs, Pt.cells, Pt.slots] at X102 l102 y102 z102 st102 hQ102
      subst l102 y102 z102
      obtain ⟨rfl, N102q, K102, GE102, GL102, GN102, GW102, GV102, EXg102, nag102⟩ := hQ102
      have N102 := Fr.app N99 N102q
      replace S_CS := own_sta_keep S_CS K102 (allS ⟨_, E_b98⟩ (allS ⟨_, EXb99⟩ all0))
      replace S_FM := own_sta_keep S_FM K102 (allS ⟨_, E_b98⟩ (allS ⟨_, EXb99⟩ all0))
      replace V_b90 := V_b90.keep K102 (ninS ne_b90_b98 (ninS ne_b90_bb99 nin0))
      replace EX_b90 := EX_b90.keep K102
      replace E_b98 := E_b98.keep K102
      replace EXb99 := EXb99.keep K102
      replace Zz := Nat.le_trans Zz K102.1
      replace Kp := Kp.trans K102 (allS (Or.inr sz_b98) (allS (Or.inr sz_bb99) all0))
      refine ownW_step (T' := T102) (f' := (F100 55 [])) (fun t k => st102.trans k) ?_
      refine ownW_step (T' := T102) (f' := (F100 57 [(.int (3 : Int32))])) (fun t k => XS.iload X102.here hx rfl (hb hby at_55) rfl k) ?_
      refine ownW_step (T' := T102) (f' := (F100 58 [(.int (2 : Int32)), (.int (3 : Int32))])) (fun t k => XS.iconst X102.here hx rfl (hb hby at_57) k) ?_
      refine ownW_step (T' := T102) (f' := (F100 61 [])) (fun t k => XS.icmpNo X102.here hx rfl (hb hby at_58) rfl (flt (by decide : ¬ ((3 : Int32) < (2 : Int32)))).1 k) ?_
      refine ownW_step (T' := T102) (f' := (F100 63 [(.ref b98)])) (fun t k => XS.aload X102.here hx rfl (hb hby at_61) rfl rfl k) ?_
      refine ownW_step (T' := T102) (f' := (F100 65 [(.ref b90), (.ref b98)])) (fun t k => XS.aload X102.here hx rfl (hb hby at_63) rfl rfl k) ?_
      refine ownW_step (T' := T102) (f' := (F100 66 [(.int (1 : Int32)), (.ref b90), (.ref b98)])) (fun t k => XS.iconst X102.here hx rfl (hb hby at_65) k) ?_
      obtain ⟨cl103, Ar103, q103, S103, M103, H103, G103⟩ := id V_b90
      have hin103 : ¬ ((1 : Int32) < 0 ∨ cl103.slots.size ≤ ((1 : Int32)).toNatClampNeg) := inb_of S103 ⟨by decide, by decide⟩
      have hat103 : cl103.slots[((1 : Int32)).toNatClampNeg]? = some (.int c93) := own_at hin103 H103 1 rfl rfl
      refine ownW_step (T' := T102) (f' := (F100 67 [(.int c93), (.ref b98)])) (fun t k => X102.caload hx (j := (1 : Int32)) (v := (.int c93)) (by exact Ar103.1) (State.isArrayOf_alike hZ.alike Ar103.2.1) Ar103.2.2 hin103 hat103 (g := (F100 66 [(.int (1 : Int32)), (.ref b90), (.ref b98)])) rfl rfl (hb hby at_66) _ k) ?_
      obtain ⟨cq104, kq104, q104a, q104b, q104c⟩ := isOf hZ rfl E_b98
      obtain ⟨_, _, ⟨T104, L104, k104, n104⟩, -, X104, ⟨Lc104, hQ104, l104, y104, z104⟩, st104⟩ := X102.virtualBack hx (y := (⟨"com/example/lit2/lit2/weave/TexOutput", "out", "(C)V"⟩ : MethodName)) (z := (⟨"com/example/lit2/lit2/weave/TexOutput", "out", "(C)V"⟩ : MethodName)) hown (mvT hZ (hw _ (List.mem_of_getElem? (i := 20) rfl))) (mvT hZ (hw _ (List.mem_of_getElem? (i := 21) rfl))) (notFace_of_selects (args := #[]) (mvT hZ (hw _ (List.mem_of_getElem? (i := 23) rfl)))) (mvT hZ (hw _ (List.mem_of_getElem? (i := 23) rfl))) (mvT hZ (hw _ (List.mem_of_getElem? (i := 22) rfl))) (by decide) (backOf (W := 0) (rm4_1 l Z a0 hw [] b98 c93 T102.heap n0 Zz (.int (own_sb c91)) (.int (0 : Int32)) (.int (0 : Int32)) bb99 kk99 ⟨E_b98, GL102, GN102, GW102, GV102, EXb99, nab99⟩ g_b98 g_bb99) hZ (hw _ (List.mem_of_getElem? (i := 24) rfl)) (hw _ (List.mem_of_getElem? (i := 7) rfl)) (by decide) (by decide)) q104a q104c (g := (F100 67 [(.int c93), (.ref b98)])) rfl (by rw [hml]; rfl) (Steps.refl _) (argsL := [(.int c93)]) (rest := []) (lenOf pd_0_5 rfl) rfl (by show 2 * 0 + _ ≤ _; exact Nat.le_of_eq rfl) (hb hby at_67) (fun _ _ => ⟨rfl, rfl, (by decide : 4 + 0 ≤ _), (by decide : 65625 + 0 ≤ _)⟩)
      dsimp only [Pt.U, Pt.locs, Pt.cells, Pt.slots] at X104 l104 y104 z104 st104 hQ104
      subst l104 y104 z104
      obtain ⟨rfl, N104q, K104, GE104, GL104, GN104, GW104, GV104, EXg104, nag104⟩ := hQ104
      have N104 := Fr.app N102 N104q
      replace S_CS := own_sta_keep S_CS K104 (allS ⟨_, E_b98⟩ (allS ⟨_, EXb99⟩ all0))
      replace S_FM := own_sta_keep S_FM K104 (allS ⟨_, E_b98⟩ (allS ⟨_, EXb99⟩ all0))
      replace V_b90 := V_b90.keep K104 (ninS ne_b90_b98 (ninS ne_b90_bb99 nin0))
      replace EX_b90 := EX_b90.keep K104
      replace E_b98 := E_b98.keep K104
      replace EXb99 := EXb99.keep K104
      replace Zz := Nat.le_trans Zz K104.1
      replace Kp := Kp.trans K104 (allS (Or.inr sz_b98) (allS (Or.inr sz_bb99) all0))
      refine ownW_step (T' := T104) (f' := (F100 70 [])) (fun t k => st104.trans k) ?_
      refine ownW_step (T' := T104) (f' := (F100 72 [(.int (3 : Int32))])) (fun t k => XS.iload X104.here hx rfl (hb hby at_70) rfl k) ?_
      refine ownW_step (T' := T104) (f' := (F100 73 [(.int (3 : Int32)), (.int (3 : Int32))])) (fun t k => XS.iconst X104.here hx rfl (hb hby at_72) k) ?_
      refine ownW_step (T' := T104) (f' := (F100 76 [])) (fun t k => XS.icmpNo X104.here hx rfl (hb hby at_73) rfl (flt (by decide : ¬ ((3 : Int32) < (3 : Int32)))).1 k) ?_
      refine ownW_step (T' := T104) (f' := (F100 78 [(.ref b98)])) (fun t k => XS.aload X104.here hx rfl (hb hby at_76) rfl rfl k) ?_
      refine ownW_step (T' := T104) (f' := (F100 80 [(.ref b90), (.ref b98)])) (fun t k => XS.aload X104.here hx rfl (hb hby at_78) rfl rfl k) ?_
      refine ownW_step (T' := T104) (f' := (F100 81 [(.int (2 : Int32)), (.ref b90), (.ref b98)])) (fun t k => XS.iconst X104.here hx rfl (hb hby at_80) k) ?_
      obtain ⟨cl105, Ar105, q105, S105, M105, H105, G105⟩ := id V_b90
      have hin105 : ¬ ((2 : Int32) < 0 ∨ cl105.slots.size ≤ ((2 : Int32)).toNatClampNeg) := inb_of S105 ⟨by decide, by decide⟩
      have hat105 : cl105.slots[((2 : Int32)).toNatClampNeg]? = some (.int c95) := own_at hin105 H105 2 rfl rfl
      refine ownW_step (T' := T104) (f' := (F100 82 [(.int c95), (.ref b98)])) (fun t k => X104.caload hx (j := (2 : Int32)) (v := (.int c95)) (by exact Ar105.1) (State.isArrayOf_alike hZ.alike Ar105.2.1) Ar105.2.2 hin105 hat105 (g := (F100 81 [(.int (2 : Int32)), (.ref b90), (.ref b98)])) rfl rfl (hb hby at_81) _ k) ?_
      obtain ⟨cq106, kq106, q106a, q106b, q106c⟩ := isOf hZ rfl E_b98
      obtain ⟨_, _, ⟨T106, L106, k106, n106⟩, -, X106, ⟨Lc106, hQ106, l106, y106, z106⟩, st106⟩ := X104.virtualBack hx (y := (⟨"com/example/lit2/lit2/weave/TexOutput", "out", "(C)V"⟩ : MethodName)) (z := (⟨"com/example/lit2/lit2/weave/TexOutput", "out", "(C)V"⟩ : MethodName)) hown (mvT hZ (hw _ (List.mem_of_getElem? (i := 20) rfl))) (mvT hZ (hw _ (List.mem_of_getElem? (i := 21) rfl))) (notFace_of_selects (args := #[]) (mvT hZ (hw _ (List.mem_of_getElem? (i := 23) rfl)))) (mvT hZ (hw _ (List.mem_of_getElem? (i := 23) rfl))) (mvT hZ (hw _ (List.mem_of_getElem? (i := 22) rfl))) (by decide) (backOf (W := 0) (rm4_2 l Z a0 hw [] b98 c95 T104.heap n0 Zz (.int (own_sb c91)) (.int (own_sb c93)) (.int (0 : Int32)) bb99 kk99 ⟨E_b98, GL104, GN104, GW104, GV104, EXb99, nab99⟩ g_b98 g_bb99) hZ (hw _ (List.mem_of_getElem? (i := 24) rfl)) (hw _ (List.mem_of_getElem? (i := 7) rfl)) (by decide) (by decide)) q106a q106c (g := (F100 82 [(.int c95), (.ref b98)])) rfl (by rw [hml]; rfl) (Steps.refl _) (argsL := [(.int c95)]) (rest := []) (lenOf pd_0_5 rfl) rfl (by show 2 * 0 + _ ≤ _; exact Nat.le_of_eq rfl) (hb hby at_82) (fun _ _ => ⟨rfl, rfl, (by decide : 4 + 0 ≤ _), (by decide : 65625 + 0 ≤ _)⟩)
      dsimp only [Pt.U, Pt.locs, Pt.cells, Pt.slots] at X106 l106 y106 z106 st106 hQ106
      subst l106 y106 z106
      obtain ⟨rfl, N106q, K106, GE106, GL106, GN106, GW106, GV106, EXg106, nag106⟩ := hQ106
      have N106 := Fr.app N104 N106q
      replace S_CS := own_sta_keep S_CS K106 (allS ⟨_, E_b98⟩ (allS ⟨_, EXb99⟩ all0))
      replace S_FM := own_sta_keep S_FM K106 (allS ⟨_, E_b98⟩ (allS ⟨_, EXb99⟩ all0))
      replace V_b90 := V_b90.keep K106 (ninS ne_b90_b98 (ninS ne_b90_bb99 nin0))
      replace EX_b90 := EX_b90.keep K106
      replace E_b98 := E_b98.keep K106
      replace EXb99 := EXb99.keep K106
      replace Zz := Nat.le_trans Zz K106.1
      replace Kp := Kp.trans K106 (allS (Or.inr sz_b98) (allS (Or.inr sz_bb99) all0))
      refine ownW_step (T' := T106) (f' := (F100 85 [])) (fun t k => st106.trans k) ?_
      refine ownW_step (T' := T106) (f' := (F100 87 [(.ref b98)])) (fun t k => XS.aload X106.here hx rfl (hb hby at_85) rfl rfl k) ?_
      obtain ⟨cq107, kq107, q107a, q107b, q107c⟩ := isOf hZ rfl E_b98
      obtain ⟨_, _, ⟨T107, L107, k107, n107⟩, -, X107, ⟨Lc107, hQ107, l107, y107, z107⟩, st107⟩ := X106.virtualBack hx (y := (⟨"com/example/lit2/lit2/weave/TexOutput", "dropFinalBreak", "()V"⟩ : MethodName)) (z := (⟨"com/example/lit2/lit2/weave/TexOutput", "dropFinalBreak", "()V"⟩ : MethodName)) hown (mvT hZ (hw _ (List.mem_of_getElem? (i := 27) rfl))) (mvT hZ (hw _ (List.mem_of_getElem? (i := 28) rfl))) (notFace_of_selects (args := #[]) (mvT hZ (hw _ (List.mem_of_getElem? (i := 30) rfl)))) (mvT hZ (hw _ (List.mem_of_getElem? (i := 30) rfl))) (mvT hZ (hw _ (List.mem_of_getElem? (i := 29) rfl))) (by decide) (backOf (W := 0) (rm5_3 l Z a0 hw [] b98 T106.heap n0 Zz (own_sb c91) (own_sb c93) (own_sb c95) bb99 kk99 ⟨E_b98, GL106, GN106, GW106, GV106, EXb99, nab99⟩ g_b98 g_bb99) hZ (hw _ (List.mem_of_getElem? (i := 31) rfl)) (hw _ (List.mem_of_getElem? (i := 7) rfl)) (by decide) (by decide)) q107a q107c (g := (F100 87 [(.ref b98)])) rfl (by rw [hml]; rfl) (Steps.refl _) (argsL := []) (rest := []) (lenOf pd_0_1 rfl) rfl (by show 2 * 0 + _ ≤ _; exact Nat.le_of_eq rfl) (hb hby at_87) (fun _ _ => ⟨rfl, rfl, (by decide : 4 + 0 ≤ _), (by decide : 65625 + 0 ≤ _)⟩)
      dsimp only [Pt.U, Pt.locs, Pt.cells, Pt.slots] at X107 l107 y107 z107 st107 hQ107
      subst l107 y107 z107
      obtain ⟨rfl, N107q, K107, D107⟩ := hQ107
      have N107 := Fr.app N106 N107q
      replace S_CS := own_sta_keep S_CS K107 (allS ⟨_, E_b98⟩ (allS ⟨_, EXb99⟩ all0))
      replace S_FM := own_sta_keep S_FM K107 (allS ⟨_, E_b98⟩ (allS ⟨_, EXb99⟩ all0))
      replace V_b90 := V_b90.keep K107 (ninS ne_b90_b98 (ninS ne_b90_bb99 nin0))
      replace EX_b90 := EX_b90.keep K107
      replace E_b98 := E_b98.keep K107
      replace EXb99 := EXb99.keep K107
      replace Zz := Nat.le_trans Zz K107.1
      replace Kp := Kp.trans K107 (allS (Or.inr sz_b98) (allS (Or.inr sz_bb99) all0))
      refine ownW_step (T' := T107) (f' := (F100 90 [])) (fun t k => st107.trans k) ?_
      rcases D107 with ⟨d92, d54, qE, qL107, qN107, qW107, qV107, qX, qn⟩ | ⟨d92, d54, d55, qE, qL107, qN107, qW107, qV107, qX, qn⟩ | ⟨d92, qE, qL107, qN107, qW107, qV107, qX, qn⟩ | ⟨d92, d54, d55, qE, qL107, qN107, qW107, qV107, qX, qn⟩
      · skip
        refine ownW_step (T' := T107) (f' := (F100 92 [(.int (3 : Int32))])) (fun t k => XS.iload X107.here hx rfl (hb hby at_90) rfl k) ?_
        let F108 : Nat → List Value → JFrame := fun a b => mkF m a #[.val (.int p1), .val (.int p2), .val (.int p3), .val (.int p4), .val (.int (3 : Int32)), .val (.ref b90), .val (.ref b98), .val (.int (3 : Int32))] b
        refine ownW_step (T' := T107) (f' := (F108 94 [])) (fun t k => XS.istore X107.here hx rfl (hb hby at_92) rfl (l' := #[.val (.int p1), .val (.int p2), .val (.int p3), .val (.int p4), .val (.int (3 : Int32)), .val (.ref b90), .val (.ref b98), .val (.int (3 : Int32))]) rfl k) ?_
        refine ownW_step (T' := T107) (f' := (F108 96 [(.int (3 : Int32))])) (fun t k => XS.iload X107.here hx rfl (hb hby at_94) rfl k) ?_
        refine ownW_step (T' := T107) (f' := (F108 97 [(.int (2 : Int32)), (.int (3 : Int32))])) (fun t k => XS.iconst X107.here hx rfl (hb hby at_96) k) ?_
        refine ownW_step (T' := T107) (f' := (F108 100 [])) (fun t k => XS.icmpNo X107.here hx rfl (hb hby at_97) rfl (flt (by decide : ¬ ((3 : Int32) < (2 : Int32)))).1 k) ?_
        refine ownW_step (T' := T107) (f' := (F108 102 [(.ref b90)])) (fun t k => XS.aload X107.here hx rfl (hb hby at_100) rfl rfl k) ?_
        refine ownW_step (T' := T107) (f' := (F108 104 [(.int (3 : Int32)), (.ref b90)])) (fun t k => XS.iload X107.here hx rfl (hb hby at_102) rfl k) ?_
        refine ownW_step (T' := T107) (f' := (F108 105 [(.int (2 : Int32)), (.int (3 : Int32)), (.ref b90)])) (fun t k => XS.iconst X107.here hx rfl (hb hby at_104) k) ?_
        refine ownW_step (T' := T107) (f' := (F108 106 [(.int (1 : Int32)), (.ref b90)])) (fun t k => XS.isub X107.here hx rfl (hb hby at_105) rfl k) ?_
        obtain ⟨cl109, Ar109, q109, S109, M109, H109, G109⟩ := id V_b90
        have hin109 : ¬ ((1 : Int32) < 0 ∨ cl109.slots.size ≤ ((1 : Int32)).toNatClampNeg) := inb_of S109 ⟨by decide, by decide⟩
        have hat109 : cl109.slots[((1 : Int32)).toNatClampNeg]? = some (.int c93) := own_at hin109 H109 1 rfl rfl
        refine ownW_step (T' := T107) (f' := (F108 107 [(.int c93)])) (fun t k => X107.caload hx (j := (1 : Int32)) (v := (.int c93)) (by exact Ar109.1) (State.isArrayOf_alike hZ.alike Ar109.2.1) Ar109.2.2 hin109 hat109 (g := (F108 106 [(.int (1 : Int32)), (.ref b90)])) rfl rfl (hb hby at_106) _ k) ?_
        refine ownW_step (T' := T107) (f' := (F108 109 [(.int (92 : Int32)), (.int c93)])) (fun t k => XS.bipush X107.here hx rfl (hb hby at_107) k) ?_
        refine ownW_step (T' := T107) (f' := (F108 112 [])) (fun t k => XS.icmpNo X107.here hx rfl (hb hby at_109) rfl (teq ((own_sb92 hC93).mp d92)).2 k) ?_
        refine ownW_step (T' := T107) (f' := (F108 114 [(.ref b90)])) (fun t k => XS.aload X107.here hx rfl (hb hby at_112) rfl rfl k) ?_
        refine ownW_step (T' := T107) (f' := (F108 116 [(.int (3 : Int32)), (.ref b90)])) (fun t k => XS.iload X107.here hx rfl (hb hby at_114) rfl k) ?_
        refine ownW_step (T' := T107) (f' := (F108 117 [(.int (1 : Int32)), (.int (3 : Int32)), (.ref b90)])) (fun t k => XS.iconst X107.here hx rfl (hb hby at_116) k) ?_
        refine ownW_step (T' := T107) (f' := (F108 118 [(.int (2 : Int32)), (.ref b90)])) (fun t k => XS.isub X107.here hx rfl (hb hby at_117) rfl k) ?_
        obtain ⟨cl110, Ar110, q110, S110, M110, H110, G110⟩ := id V_b90
        have hin110 : ¬ ((2 : Int32) < 0 ∨ cl110.slots.size ≤ ((2 : Int32)).toNatClampNeg) := inb_of S110 ⟨by decide, by decide⟩
        have hat110 : cl110.slots[((2 : Int32)).toNatClampNeg]? = some (.int c95) := own_at hin110 H110 2 rfl rfl
        refine ownW_step (T' := T107) (f' := (F108 119 [(.int c95)])) (fun t k => X107.caload hx (j := (2 : Int32)) (v := (.int c95)) (by exact Ar110.1) (State.isArrayOf_alike hZ.alike Ar110.2.1) Ar110.2.2 hin110 hat110 (g := (F108 118 [(.int (2 : Int32)), (.ref b90)])) rfl rfl (hb hby at_118) _ k) ?_
        refine ownW_step (T' := T107) (f' := (F108 121 [(.int (54 : Int32)), (.int c95)])) (fun t k => XS.bipush X107.here hx rfl (hb hby at_119) k) ?_
        refine ownW_step (T' := T107) (f' := (F108 124 [])) (fun t k => XS.icmpNo X107.here hx rfl (hb hby at_121) rfl (teq ((own_sb54 hC95).mp d54)).2 k) ?_
        refine ownW_step (T' := T107) (f' := (F108 126 [(.int (3 : Int32))])) (fun t k => XS.iload X107.here hx rfl (hb hby at_124) rfl k) ?_
        refine ownW_step (T' := T107) (f' := (F108 127 [(.int (2 : Int32)), (.int (3 : Int32))])) (fun t k => XS.iconst X107.here hx rfl (hb hby at_126) k) ?_
        refine ownW_step (T' := T107) (f' := (F108 128 [(.int (1 : Int32))])) (fun t k => XS.isub X107.here hx rfl (hb hby at_127) rfl k) ?_
        let F111 : Nat → List Value → JFrame := fun a b => mkF m a #[.val (.int p1), .val (.int p2), .val (.int p3), .val (.int p4), .val (.int (3 : Int32)), .val (.ref b90), .val (.ref b98), .val (.int (1 : Int32))] b
        refine ownW_step (T' := T107) (f' := (F111 130 [])) (fun t k => XS.istore X107.here hx rfl (hb hby at_128) rfl (l' := #[.val (.int p1), .val (.int p2), .val (.int p3), .val (.int p4), .val (.int (3 : Int32)), .val (.ref b90), .val (.ref b98), .val (.int (1 : Int32))]) rfl k) ?_
        refine ownW_step (T' := T107) (f' := (F111 154 [])) (fun t k => XS.goto X107.here hx rfl (pc0 := 130) (pc' := 154) rfl (hb hby at_130) (by decide) (by decide) k) ?_
        refine ownW_step (T' := T107) (f' := (F111 156 [(.ref b98)])) (fun t k => XS.aload X107.here hx rfl (hb hby at_154) rfl rfl k) ?_
        obtain ⟨cq112, kq112, q112a, q112b, q112c⟩ := isOf hZ rfl E_b98
        obtain ⟨_, _, ⟨T112, L112, k112, n112⟩, -, X112, ⟨Lc112, hQ112, l112, y112, z112⟩, st112⟩ := X107.virtualBack hx (y := (⟨"com/example/lit2/lit2/weave/TexOutput", "lineLength", "()I"⟩ : MethodName)) (z := (⟨"com/example/lit2/lit2/weave/TexOutput", "lineLength", "()I"⟩ : MethodName)) hown (mvT hZ (hw _ (List.mem_of_getElem? (i := 32) rfl))) (mvT hZ (hw _ (List.mem_of_getElem? (i := 33) rfl))) (notFace_of_selects (args := #[]) (mvT hZ (hw _ (List.mem_of_getElem? (i := 35) rfl)))) (mvT hZ (hw _ (List.mem_of_getElem? (i := 35) rfl))) (mvT hZ (hw _ (List.mem_of_getElem? (i := 34) rfl))) (by decide) (backOf (W := 0) (rm6 l Z a0 hw [] b98 T107.heap n0 Zz (1 : Int32) qN107) hZ (hw _ (List.mem_of_getElem? (i := 36) rfl)) (hw _ (List.mem_of_getElem? (i := 7) rfl)) (by decide) (by decide)) q112a q112c (g := (F111 156 [(.ref b98)])) rfl (by rw [hml]; rfl) (Steps.refl _) (argsL := []) (rest := []) (lenOf pd_0_2 rfl) rfl (by show 2 * 0 + _ ≤ _; exact Nat.le_of_eq rfl) (hb hby at_156) (fun _ _ => ⟨rfl, rfl, (by decide : 4 + 0 ≤ _), (by decide : 65625 + 0 ≤ _)⟩)
        dsimp only [Pt.U, Pt.locs, Pt.cells, Pt.slots] at X112 l112 y112 z112 st112 hQ112
        subst l112 y112 z112
        obtain ⟨rfl, N112q, E112⟩ := hQ112
        have N112 := Fr.app N107 N112q
        refine ownW_step (T' := T112) (f' := (F111 159 [(.int (1 : Int32))])) (fun t k => st112.trans k) ?_
        refine ownW_step (T' := T112) (f' := (F111 161 [(.int (1 : Int32)), (.int (1 : Int32))])) (fun t k => XS.iload X112.here hx rfl (hb hby at_159) rfl k) ?_
        refine ownW_step (T' := T112) (f' := (F111 164 [])) (fun t k => XS.icmpNo X112.here hx rfl (hb hby at_161) rfl (teq (by decide : (1 : Int32) = (1 : Int32))).2 k) ?_
        refine ownW_step (T' := T112) (f' := (F111 166 [(.ref b98)])) (fun t k => XS.aload X112.here hx rfl (hb hby at_164) rfl rfl k) ?_
        refine ownW_step (T' := T112) (f' := (F111 168 [(.int (1 : Int32)), (.ref b98)])) (fun t k => XS.iload X112.here hx rfl (hb hby at_166) rfl k) ?_
        refine ownW_step (T' := T112) (f' := (F111 170 [(.ref b90), (.int (1 : Int32)), (.ref b98)])) (fun t k => XS.aload X112.here hx rfl (hb hby at_168) rfl rfl k) ?_
        obtain ⟨_, _, ⟨T113, L113, k113, n113⟩, -, X113, ⟨Lc113, hQ113, l113, y113, z113⟩, st113⟩ := Jvm.LawKit.callS X112 hx (y := (⟨"com/example/lit2/lit2/weave/TexOutputDropFinalBreakPinLaw", "str", "(I[C)Ljava/lang/String;"⟩ : MethodName)) hown (mvT hZ (hw _ (List.mem_of_getElem? (i := 37) rfl))) (mvT hZ (hw _ (List.mem_of_getElem? (i := 38) rfl))) (mvT hZ (hw _ (List.mem_of_getElem? (i := 3) rfl))) (mvT hZ (hw _ (List.mem_of_getElem? (i := 39) rfl))) (by decide) (backOf (W := 1) (rm7_1 l Z a0 hw [] b90 T107.heap n0 Zz c91 hC91 c93 c95 k90 V_b90  cs S_CS hcs) hZ (hw _ (List.mem_of_getElem? (i := 39) rfl)) (hw _ (List.mem_of_getElem? (i := 3) rfl)) (by decide) (by decide)) (g := (F111 170 [(.ref b90), (.int (1 : Int32)), (.ref b98)])) rfl (by rw [hml]; rfl) (argsL := [(.int (1 : Int32)), (.ref b90)]) (rest := [(.ref b98)]) (lenOf pd_0_3 rfl) rfl (by show 2 * 0 + _ ≤ _; exact Nat.le_of_eq rfl) (hb hby at_170) (fun _ _ => ⟨rfl, E112, (by decide : 4 + 3 ≤ _), (by decide : 65625 + 6 ≤ _)⟩)
        dsimp only [Pt.U, Pt.locs, Pt.cells, Pt.slots] at X113 l113 y113 z113 st113 hQ113
        subst l113 y113 z113
        obtain ⟨rr113, rb113, rk113, rfl, N113q, K113, Os113⟩ := hQ113
        have N113 := Fr.app N112 N113q
        replace S_CS := own_sta_keep S_CS K113 all0
        replace S_FM := own_sta_keep S_FM K113 all0
        replace V_b90 := V_b90.keep K113 nin0
        replace EX_b90 := EX_b90.keep K113
        replace E_b98 := E_b98.keep K113
        replace EXb99 := EXb99.keep K113
        replace qL107 := qL107.keep K113 nin0
        replace qN107 := qN107.keep K113 nin0
        replace qW107 := qW107.keep K113 nin0
        replace qV107 := qV107.keep K113 nin0
        replace Zz := Nat.le_trans Zz K113.1
        replace Kp := Kp.trans K113 all0
        refine ownW_step (T' := T113) (f' := (F111 173 [(.ref rr113), (.ref b98)])) (fun t k => st113 t k) ?_
        obtain ⟨cq114, kq114, q114a, q114b, q114c⟩ := isOf hZ rfl E_b98
        obtain ⟨_, _, ⟨T114, L114, k114, n114⟩, -, X114, ⟨Lc114, hQ114, l114, y114, z114⟩, st114⟩ := X113.virtualBack hx (y := (⟨"com/example/lit2/lit2/weave/TexOutput", "endsWith", "(Ljava/lang/String;)Z"⟩ : MethodName)) (z := (⟨"com/example/lit2/lit2/weave/TexOutput", "endsWith", "(Ljava/lang/String;)Z"⟩ : MethodName)) hown (mvT hZ (hw _ (List.mem_of_getElem? (i := 66) rfl))) (mvT hZ (hw _ (List.mem_of_getElem? (i := 67) rfl))) (notFace_of_selects (args := #[]) (mvT hZ (hw _ (List.mem_of_getElem? (i := 69) rfl)))) (mvT hZ (hw _ (List.mem_of_getElem? (i := 69) rfl))) (mvT hZ (hw _ (List.mem_of_getElem? (i := 68) rfl))) (by decide) (backOf (W := 0) (rm13_1 l Z a0 hw [] b98 rr113 T113.heap n0 Zz (own_sb c91) (own_sb c93) (own_sb c95) bb99 kk99 ⟨E_b98, qL107, qN107, qW107, qV107, EXb99, nab99⟩ rb113 rk113 Os113 cs S_CS hcs fm S_FM hfc hfr) hZ (hw _ (List.mem_of_getElem? (i := 70) rfl)) (hw _ (List.mem_of_getElem? (i := 7) rfl)) (by decide) (by decide)) q114a q114c (g := (F111 173 [(.ref rr113), (.ref b98)])) rfl (by rw [hml]; rfl) (Steps.refl _) (argsL := [(.ref rr113)]) (rest := []) (lenOf pd_0_4 rfl) rfl (by show 2 * 0 + _ ≤ _; exact Nat.le_of_eq rfl) (hb hby at_173) (fun _ _ => ⟨rfl, rfl, (by decide : 7 + 0 ≤ _), (by decide : 65631 + 0 ≤ _)⟩)
        dsimp only [Pt.U, Pt.locs, Pt.cells, Pt.slots] at X114 l114 y114 z114 st114 hQ114
        subst l114 y114 z114
        obtain ⟨rfl, N114q, E114⟩ := hQ114
        have N114 := Fr.app N113 N114q
        refine ownW_step (T' := T114) (f' := (F111 176 [(.int (1 : Int32))])) (fun t k => st114.trans k) ?_
        refine ownW_step (T' := T114) (f' := (F111 179 [])) (fun t k => XS.ifNo X114.here hx rfl (hb hby at_176) rfl ((if0 _ _).trans (feq (by decide : ¬ ((1 : Int32) = (0 : Int32)))).1) k) ?_
        refine ownW_step (T' := T114) (f' := (F111 181 [(.ref b98)])) (fun t k => XS.aload X114.here hx rfl (hb hby at_179) rfl rfl k) ?_
        obtain ⟨cq115, kq115, q115a, q115b, q115c⟩ := isOf hZ E114 E_b98
        obtain ⟨_, _, ⟨T115, L115, k115, n115⟩, -, X115, ⟨Lc115, hQ115, l115, y115, z115⟩, st115⟩ := X114.virtualBack hx (y := (⟨"com/example/lit2/lit2/weave/TexOutput", "linesWritten", "()I"⟩ : MethodName)) (z := (⟨"com/example/lit2/lit2/weave/TexOutput", "linesWritten", "()I"⟩ : MethodName)) hown (mvT hZ (hw _ (List.mem_of_getElem? (i := 103) rfl))) (mvT hZ (hw _ (List.mem_of_getElem? (i := 104) rfl))) (notFace_of_selects (args := #[]) (mvT hZ (hw _ (List.mem_of_getElem? (i := 106) rfl)))) (mvT hZ (hw _ (List.mem_of_getElem? (i := 106) rfl))) (mvT hZ (hw _ (List.mem_of_getElem? (i := 105) rfl))) (by decide) (backOf (W := 0) (rm21 l Z a0 hw [] b98 T113.heap n0 Zz qW107) hZ (hw _ (List.mem_of_getElem? (i := 107) rfl)) (hw _ (List.mem_of_getElem? (i := 7) rfl)) (by decide) (by decide)) q115a q115c (g := (F111 181 [(.ref b98)])) rfl (by rw [hml]; rfl) (Steps.refl _) (argsL := []) (rest := []) (lenOf pd_0_2 rfl) rfl (by show 2 * 0 + _ ≤ _; exact Nat.le_of_eq rfl) (hb hby at_181) (fun _ _ => ⟨rfl, E114, (by decide : 7 + 0 ≤ _), (by decide : 65631 + 0 ≤ _)⟩)
        dsimp only [Pt.U, Pt.locs, Pt.cells, Pt.slots] at X115 l115 y115 z115 st115 hQ115
        subst l115 y115 z115
        obtain ⟨rfl, N115q, E115⟩ := hQ115
        have N115 := Fr.app N114 N115q
        refine ownW_step (T' := T115) (f' := (F111 184 [(.int (0 : Int32))])) (fun t k => st115.trans k) ?_
        refine ownW_step (T' := T115) (f' := (F111 187 [])) (fun t k => XS.ifNo X115.here hx rfl (hb hby at_184) rfl ((if0 _ _).trans (teq (by decide : (0 : Int32) = (0 : Int32))).2) k) ?_
        refine ownW_step (T' := T115) (f' := (F111 188 [(.int (1 : Int32))])) (fun t k => XS.iconst X115.here hx rfl (hb hby at_187) k) ?_
        refine ownW_step (T' := T115) (f' := (F111 192 [(.int (1 : Int32))])) (fun t k => XS.goto X115.here hx rfl (pc0 := 188) (pc' := 192) rfl (hb hby at_188) (by decide) (by decide) k) ?_
        exact ownW_retN X115 ((State.WarmedH.refl s).since _) (Nat.le_refl _) hx hlk (t := .boolean) Bd.returns (by simp) (hb hby at_192) (by decide) (by decide) ⟨rfl, N115⟩
      · skip
        refine ownW_step (T' := T107) (f' := (F100 92 [(.int (3 : Int32))])) (fun t k => XS.iload X107.here hx rfl (hb hby at_90) rfl k) ?_
        let F116 : Nat → List Value → JFrame := fun a b => mkF m a #[.val (.int p1), .val (.int p2), .val (.int p3), .val (.int p4), .val (.int (3 : Int32)), .val (.ref b90), .val (.ref b98), .val (.int (3 : Int32))] b
        refine ownW_step (T' := T107) (f' := (F116 94 [])) (fun t k => XS.istore X107.here hx rfl (hb hby at_92) rfl (l' := #[.val (.int p1), .val (.int p2), .val (.int p3), .val (.int p4), .val (.int (3 : Int32)), .val (.ref b90), .val (.ref b98), .val (.int (3 : Int32))]) rfl k) ?_
        refine ownW_step (T' := T107) (f' := (F116 96 [(.int (3 : Int32))])) (fun t k => XS.iload X107.here hx rfl (hb hby at_94) rfl k) ?_
        refine ownW_step (T' := T107) (f' := (F116 97 [(.int (2 : Int32)), (.int (3 : Int32))])) (fun t k => XS.iconst X107.here hx rfl (hb hby at_96) k) ?_
        refine ownW_step (T' := T107) (f' := (F116 100 [])) (fun t k => XS.icmpNo X107.here hx rfl (hb hby at_97) rfl (flt (by decide : ¬ ((3 : Int32) < (2 : Int32)))).1 k) ?_
        refine ownW_step (T' := T107) (f' := (F116 102 [(.ref b90)])) (fun t k => XS.aload X107.here hx rfl (hb hby at_100) rfl rfl k) ?_
        refine ownW_step (T' := T107) (f' := (F116 104 [(.int (3 : Int32)), (.ref b90)])) (fun t k => XS.iload X107.here hx rfl (hb hby at_102) rfl k) ?_
        refine ownW_step (T' := T107) (f' := (F116 105 [(.int (2 : Int32)), (.int (3 : Int32)), (.ref b90)])) (fun t k => XS.iconst X107.here hx rfl (hb hby at_104) k) ?_
        refine ownW_step (T' := T107) (f' := (F116 106 [(.int (1 : Int32)), (.ref b90)])) (fun t k => XS.isub X107.here hx rfl (hb hby at_105) rfl k) ?_
        obtain ⟨cl117, Ar117, q117, S117, M117, H117, G117⟩ := id V_b90
        have hin117 : ¬ ((1 : Int32) < 0 ∨ cl117.slots.size ≤ ((1 : Int32)).toNatClampNeg) := inb_of S117 ⟨by decide, by decide⟩
        have hat117 : cl117.slots[((1 : Int32)).toNatClampNeg]? = some (.int c93) := own_at hin117 H117 1 rfl rfl
        refine ownW_step (T' := T107) (f' := (F116 107 [(.int c93)])) (fun t k => X107.caload hx (j := (1 : Int32)) (v := (.int c93)) (by exact Ar117.1) (State.isArrayOf_alike hZ.alike Ar117.2.1) Ar117.2.2 hin117 hat117 (g := (F116 106 [(.int (1 : Int32)), (.ref b90)])) rfl rfl (hb hby at_106) _ k) ?_
        refine ownW_step (T' := T107) (f' := (F116 109 [(.int (92 : Int32)), (.int c93)])) (fun t k => XS.bipush X107.here hx rfl (hb hby at_107) k) ?_
        refine ownW_step (T' := T107) (f' := (F116 112 [])) (fun t k => XS.icmpNo X107.here hx rfl (hb hby at_109) rfl (teq ((own_sb92 hC93).mp d92)).2 k) ?_
        refine ownW_step (T' := T107) (f' := (F116 114 [(.ref b90)])) (fun t k => XS.aload X107.here hx rfl (hb hby at_112) rfl rfl k) ?_
        refine ownW_step (T' := T107) (f' := (F116 116 [(.int (3 : Int32)), (.ref b90)])) (fun t k => XS.iload X107.here hx rfl (hb hby at_114) rfl k) ?_
        refine ownW_step (T' := T107) (f' := (F116 117 [(.int (1 : Int32)), (.int (3 : Int32)), (.ref b90)])) (fun t k => XS.iconst X107.here hx rfl (hb hby at_116) k) ?_
        refine ownW_step (T' := T107) (f' := (F116 118 [(.int (2 : Int32)), (.ref b90)])) (fun t k => XS.isub X107.here hx rfl (hb hby at_117) rfl k) ?_
        obtain ⟨cl118, Ar118, q118, S118, M118, H118, G118⟩ := id V_b90
        have hin118 : ¬ ((2 : Int32) < 0 ∨ cl118.slots.size ≤ ((2 : Int32)).toNatClampNeg) := inb_of S118 ⟨by decide, by decide⟩
        have hat118 : cl118.slots[((2 : Int32)).toNatClampNeg]? = some (.int c95) := own_at hin118 H118 2 rfl rfl
        refine ownW_step (T' := T107) (f' := (F116 119 [(.int c95)])) (fun t k => X107.caload hx (j := (2 : Int32)) (v := (.int c95)) (by exact Ar118.1) (State.isArrayOf_alike hZ.alike Ar118.2.1) Ar118.2.2 hin118 hat118 (g := (F116 118 [(.int (2 : Int32)), (.ref b90)])) rfl rfl (hb hby at_118) _ k) ?_
        refine ownW_step (T' := T107) (f' := (F116 121 [(.int (54 : Int32)), (.int c95)])) (fun t k => XS.bipush X107.here hx rfl (hb hby at_119) k) ?_
        refine ownW_step (T' := T107) (f' := (F116 133 [])) (fun t k => XS.icmpYes X107.here hx rfl (pc0 := 121) (pc' := 133) rfl (hb hby at_121) rfl (feq (fun q => d54 ((own_sb54 hC95).mpr q))).2 (by decide) (by decide) k) ?_
        refine ownW_step (T' := T107) (f' := (F116 135 [(.ref b90)])) (fun t k => XS.aload X107.here hx rfl (hb hby at_133) rfl rfl k) ?_
        refine ownW_step (T' := T107) (f' := (F116 137 [(.int (3 : Int32)), (.ref b90)])) (fun t k => XS.iload X107.here hx rfl (hb hby at_135) rfl k) ?_
        refine ownW_step (T' := T107) (f' := (F116 138 [(.int (1 : Int32)), (.int (3 : Int32)), (.ref b90)])) (fun t k => XS.iconst X107.here hx rfl (hb hby at_137) k) ?_
        refine ownW_step (T' := T107) (f' := (F116 139 [(.int (2 : Int32)), (.ref b90)])) (fun t k => XS.isub X107.here hx rfl (hb hby at_138) rfl k) ?_
        obtain ⟨cl119, Ar119, q119, S119, M119, H119, G119⟩ := id V_b90
        have hin119 : ¬ ((2 : Int32) < 0 ∨ cl119.slots.size ≤ ((2 : Int32)).toNatClampNeg) := inb_of S119 ⟨by decide, by decide⟩
        have hat119 : cl119.slots[((2 : Int32)).toNatClampNeg]? = some (.int c95) := own_at hin119 H119 2 rfl rfl
        refine ownW_step (T' := T107) (f' := (F116 140 [(.int c95)])) (fun t k => X107.caload hx (j := (2 : Int32)) (v := (.int c95)) (by exact Ar119.1) (State.isArrayOf_alike hZ.alike Ar119.2.1) Ar119.2.2 hin119 hat119 (g := (F116 139 [(.int (2 : Int32)), (.ref b90)])) rfl rfl (hb hby at_139) _ k) ?_
        refine ownW_step (T' := T107) (f' := (F116 142 [(.int (55 : Int32)), (.int c95)])) (fun t k => XS.bipush X107.here hx rfl (hb hby at_140) k) ?_
        refine ownW_step (T' := T107) (f' := (F116 145 [])) (fun t k => XS.icmpNo X107.here hx rfl (hb hby at_142) rfl (teq ((own_sb55 hC95).mp d55)).2 k) ?_
        refine ownW_step (T' := T107) (f' := (F116 147 [(.ref b90)])) (fun t k => XS.aload X107.here hx rfl (hb hby at_145) rfl rfl k) ?_
        refine ownW_step (T' := T107) (f' := (F116 149 [(.int (3 : Int32)), (.ref b90)])) (fun t k => XS.iload X107.here hx rfl (hb hby at_147) rfl k) ?_
        refine ownW_step (T' := T107) (f' := (F116 150 [(.int (1 : Int32)), (.int (3 : Int32)), (.ref b90)])) (fun t k => XS.iconst X107.here hx rfl (hb hby at_149) k) ?_
        refine ownW_step (T' := T107) (f' := (F116 151 [(.int (2 : Int32)), (.ref b90)])) (fun t k => XS.isub X107.here hx rfl (hb hby at_150) rfl k) ?_
        refine ownW_step (T' := T107) (f' := (F116 153 [(.int (89 : Int32)), (.int (2 : Int32)), (.ref b90)])) (fun t k => XS.bipush X107.here hx rfl (hb hby at_151) k) ?_
        obtain ⟨cl120, Ar120, q120, S120, M120, H120, G120⟩ := V_b90
        have hin120 : ¬ ((2 : Int32) < 0 ∨ cl120.slots.size ≤ ((2 : Int32)).toNatClampNeg) := inb_of S120 ⟨by decide, by decide⟩
        obtain ⟨T120, h120, X120, e120, W120, st120⟩ := stC X107 hx hZ rfl Ar120 (j := (2 : Int32)) hin120 (g := (F116 153 [(.int (89 : Int32)), (.int (2 : Int32)), (.ref b90)])) rfl rfl (hb hby at_153)
        have V_b90 : Arv Z h120 b90 k90 .char (3 : Int32) [(.int c91), (.int c93), (.int (89 : Int32))] (.int (0 : Int32)) := Arv.set Ar120 q120 S120 M120 H120 G120 (fits_nar_char _) W120 2 rfl (Nat.le_of_ble_eq_true rfl)
        replace S_CS := S_CS.wr W120
        replace S_FM := S_FM.wr W120
        replace EX_b90 := EX_b90.wr W120
        replace E_b98 := E_b98.wr W120
        replace EXb99 := EXb99.wr W120
        replace qL107 := qL107.other W120 (Or.inl (Ne.symm ne_b90_b98))
        replace qN107 := qN107.other W120 (Or.inl (Ne.symm ne_b90_b98))
        replace qW107 := qW107.other W120 (Or.inl (Ne.symm ne_b90_b98))
        replace qV107 := qV107.other W120 (Ne.symm ne_b90_bb99)
        replace Zz := Nat.le_trans Zz (Keep.of_wr W120).1
        replace Kp := Kp.wr W120 (Or.inr sz_b90)
        have N120 := Fr.snoc X120 N107 g_b90
        refine ownW_step (T' := T120) (f' := (F116 154 [])) (fun t k => st120 t k) ?_
        refine ownW_step (T' := T120) (f' := (F116 156 [(.ref b98)])) (fun t k => XS.aload X120.here hx rfl (hb hby at_154) rfl rfl k) ?_
        obtain ⟨cq121, kq121, q121a, q121b, q121c⟩ := isOf hZ e120 E_b98
        obtain ⟨_, _, ⟨T121, L121, k121, n121⟩, -, X121, ⟨Lc121, hQ121, l121, y121, z121⟩, st121⟩ := X120.virtualBack hx (y := (⟨"com/example/lit2/lit2/weave/TexOutput", "lineLength", "()I"⟩ : MethodName)) (z := (⟨"com/example/lit2/lit2/weave/TexOutput", "lineLength", "()I"⟩ : MethodName)) hown (mvT hZ (hw _ (List.mem_of_getElem? (i := 32) rfl))) (mvT hZ (hw _ (List.mem_of_getElem? (i := 33) rfl))) (notFace_of_selects (args := #[]) (mvT hZ (hw _ (List.mem_of_getElem? (i := 35) rfl)))) (mvT hZ (hw _ (List.mem_of_getElem? (i := 35) rfl))) (mvT hZ (hw _ (List.mem_of_getElem? (i := 34) rfl))) (by decide) (backOf (W := 0) (rm6 l Z a0 hw [] b98 h120 n0 Zz (3 : Int32) qN107) hZ (hw _ (List.mem_of_getElem? (i := 36) rfl)) (hw _ (List.mem_of_getElem? (i := 7) rfl)) (by decide) (by decide)) q121a q121c (g := (F116 156 [(.ref b98)])) rfl (by rw [hml]; rfl) (Steps.refl _) (argsL := []) (rest := []) (lenOf pd_0_2 rfl) rfl (by show 2 * 0 + _ ≤ _; exact Nat.le_of_eq rfl) (hb hby at_156) (fun _ _ => ⟨rfl, e120, (by decide : 4 + 0 ≤ _), (by decide : 65625 + 0 ≤ _)⟩)
        dsimp only [Pt.U, Pt.locs, Pt.cells, Pt.slots] at X121 l121 y121 z121 st121 hQ121
        subst l121 y121 z121
        obtain ⟨rfl, N121q, E121⟩ := hQ121
        have N121 := Fr.app N120 N121q
        refine ownW_step (T' := T121) (f' := (F116 159 [(.int (3 : Int32))])) (fun t k => st121.trans k) ?_
        refine ownW_step (T' := T121) (f' := (F116 161 [(.int (3 : Int32)), (.int (3 : Int32))])) (fun t k => XS.iload X121.here hx rfl (hb hby at_159) rfl k) ?_
        refine ownW_step (T' := T121) (f' := (F116 164 [])) (fun t k => XS.icmpNo X121.here hx rfl (hb hby at_161) rfl (teq (by decide : (3 : Int32) = (3 : Int32))).2 k) ?_
        refine ownW_step (T' := T121) (f' := (F116 166 [(.ref b98)])) (fun t k => XS.aload X121.here hx rfl (hb hby at_164) rfl rfl k) ?_
        refine ownW_step (T' := T121) (f' := (F116 168 [(.int (3 : Int32)), (.ref b98)])) (fun t k => XS.iload X121.here hx rfl (hb hby at_166) rfl k) ?_
        refine ownW_step (T' := T121) (f' := (F116 170 [(.ref b90), (.int (3 : Int32)), (.ref b98)])) (fun t k => XS.aload X121.here hx rfl (hb hby at_168) rfl rfl k) ?_
        obtain ⟨_, _, ⟨T122, L122, k122, n122⟩, -, X122, ⟨Lc122, hQ122, l122, y122, z122⟩, st122⟩ := Jvm.LawKit.callS X121 hx (y := (⟨"com/example/lit2/lit2/weave/TexOutputDropFinalBreakPinLaw", "str", "(I[C)Ljava/lang/String;"⟩ : MethodName)) hown (mvT hZ (hw _ (List.mem_of_getElem? (i := 37) rfl))) (mvT hZ (hw _ (List.mem_of_getElem? (i := 38) rfl))) (mvT hZ (hw _ (List.mem_of_getElem? (i := 3) rfl))) (mvT hZ (hw _ (List.mem_of_getElem? (i := 39) rfl))) (by decide) (backOf (W := 1) (rm7_3 l Z a0 hw [] b90 h120 n0 Zz c91 c93 (89 : Int32) hC91 hC93 (by constructor <;> decide : OwnC (89 : Int32))  k90 V_b90  cs S_CS hcs) hZ (hw _ (List.mem_of_getElem? (i := 39) rfl)) (hw _ (List.mem_of_getElem? (i := 3) rfl)) (by decide) (by decide)) (g := (F116 170 [(.ref b90), (.int (3 : Int32)), (.ref b98)])) rfl (by rw [hml]; rfl) (argsL := [(.int (3 : Int32)), (.ref b90)]) (rest := [(.ref b98)]) (lenOf pd_0_3 rfl) rfl (by show 2 * 0 + _ ≤ _; exact Nat.le_of_eq rfl) (hb hby at_170) (fun _ _ => ⟨rfl, E121, (by decide : 4 + 3 ≤ _), (by decide : 65625 + 10 ≤ _)⟩)
        dsimp only [Pt.U, Pt.locs, Pt.cells, Pt.slots] at X122 l122 y122 z122 st122 hQ122
        subst l122 y122 z122
        obtain ⟨rr122, rb122, rk122, rfl, N122q, K122, Os122⟩ := hQ122
        have N122 := Fr.app N121 N122q
        replace S_CS := own_sta_keep S_CS K122 all0
        replace S_FM := own_sta_keep S_FM K122 all0
        replace V_b90 := V_b90.keep K122 nin0
        replace EX_b90 := EX_b90.keep K122
        replace E_b98 := E_b98.keep K122
        replace EXb99 := EXb99.keep K122
        replace qL107 := qL107.keep K122 nin0
        replace qN107 := qN107.keep K122 nin0
        replace qW107 := qW107.keep K122 nin0
        replace qV107 := qV107.keep K122 nin0
        replace Zz := Nat.le_trans Zz K122.1
        replace Kp := Kp.trans K122 all0
        refine ownW_step (T' := T122) (f' := (F116 173 [(.ref rr122), (.ref b98)])) (fun t k => st122 t k) ?_
        obtain ⟨cq123, kq123, q123a, q123b, q123c⟩ := isOf hZ rfl E_b98
        obtain ⟨_, _, ⟨T123, L123, k123, n123⟩, -, X123, ⟨Lc123, hQ123, l123, y123, z123⟩, st123⟩ := X122.virtualBack hx (y := (⟨"com/example/lit2/lit2/weave/TexOutput", "endsWith", "(Ljava/lang/String;)Z"⟩ : MethodName)) (z := (⟨"com/example/lit2/lit2/weave/TexOutput", "endsWith", "(Ljava/lang/String;)Z"⟩ : MethodName)) hown (mvT hZ (hw _ (List.mem_of_getElem? (i := 66) rfl))) (mvT hZ (hw _ (List.mem_of_getElem? (i := 67) rfl))) (notFace_of_selects (args := #[]) (mvT hZ (hw _ (List.mem_of_getElem? (i := 69) rfl)))) (mvT hZ (hw _ (List.mem_of_getElem? (i := 69) rfl))) (mvT hZ (hw _ (List.mem_of_getElem? (i := 68) rfl))) (by decide) (backOf (W := 0) (rm13_3 l Z a0 hw [] b98 rr122 T122.heap n0 Zz (own_sb c91) (own_sb c93) (89 : Int32) bb99 kk99 ⟨E_b98, qL107, qN107, qW107, qV107, EXb99, nab99⟩ rb122 rk122 Os122 cs S_CS hcs fm S_FM hfc hfr) hZ (hw _ (List.mem_of_getElem? (i := 70) rfl)) (hw _ (List.mem_of_getElem? (i := 7) rfl)) (by decide) (by decide)) q123a q123c (g := (F116 173 [(.ref rr122), (.ref b98)])) rfl (by rw [hml]; rfl) (Steps.refl _) (argsL := [(.ref rr122)]) (rest := []) (lenOf pd_0_4 rfl) rfl (by show 2 * 0 + _ ≤ _; exact Nat.le_of_eq rfl) (hb hby at_173) (fun _ _ => ⟨rfl, rfl, (by decide : 7 + 0 ≤ _), (by decide : 65635 + 0 ≤ _)⟩)
        dsimp only [Pt.U, Pt.locs, Pt.cells, Pt.slots] at X123 l123 y123 z123 st123 hQ123
        subst l123 y123 z123
        obtain ⟨rfl, N123q, E123⟩ := hQ123
        have N123 := Fr.app N122 N123q
        refine ownW_step (T' := T123) (f' := (F116 176 [(.int (1 : Int32))])) (fun t k => st123.trans k) ?_
        refine ownW_step (T' := T123) (f' := (F116 179 [])) (fun t k => XS.ifNo X123.here hx rfl (hb hby at_176) rfl ((if0 _ _).trans (feq (by decide : ¬ ((1 : Int32) = (0 : Int32)))).1) k) ?_
        refine ownW_step (T' := T123) (f' := (F116 181 [(.ref b98)])) (fun t k => XS.aload X123.here hx rfl (hb hby at_179) rfl rfl k) ?_
        obtain ⟨cq124, kq124, q124a, q124b, q124c⟩ := isOf hZ E123 E_b98
        obtain ⟨_, _, ⟨T124, L124, k124, n124⟩, -, X124, ⟨Lc124, hQ124, l124, y124, z124⟩, st124⟩ := X123.virtualBack hx (y := (⟨"com/example/lit2/lit2/weave/TexOutput", "linesWritten", "()I"⟩ : MethodName)) (z := (⟨"com/example/lit2/lit2/weave/TexOutput", "linesWritten", "()I"⟩ : MethodName)) hown (mvT hZ (hw _ (List.mem_of_getElem? (i := 103) rfl))) (mvT hZ (hw _ (List.mem_of_getElem? (i := 104) rfl))) (notFace_of_selects (args := #[]) (mvT hZ (hw _ (List.mem_of_getElem? (i := 106) rfl)))) (mvT hZ (hw _ (List.mem_of_getElem? (i := 106) rfl))) (mvT hZ (hw _ (List.mem_of_getElem? (i := 105) rfl))) (by decide) (backOf (W := 0) (rm21 l Z a0 hw [] b98 T122.heap n0 Zz qW107) hZ (hw _ (List.mem_of_getElem? (i := 107) rfl)) (hw _ (List.mem_of_getElem? (i := 7) rfl)) (by decide) (by decide)) q124a q124c (g := (F116 181 [(.ref b98)])) rfl (by rw [hml]; rfl) (Steps.refl _) (argsL := []) (rest := []) (lenOf pd_0_2 rfl) rfl (by show 2 * 0 + _ ≤ _; exact Nat.le_of_eq rfl) (hb hby at_181) (fun _ _ => ⟨rfl, E123, (by decide : 7 + 0 ≤ _), (by decide : 65635 + 0 ≤ _)⟩)
        dsimp only [Pt.U, Pt.locs, Pt.cells, Pt.slots] at X124 l124 y124 z124 st124 hQ124
        subst l124 y124 z124
        obtain ⟨rfl, N124q, E124⟩ := hQ124
        have N124 := Fr.app N123 N124q
        refine ownW_step (T' := T124) (f' := (F116 184 [(.int (0 : Int32))])) (fun t k => st124.trans k) ?_
        refine ownW_step (T' := T124) (f' := (F116 187 [])) (fun t k => XS.ifNo X124.here hx rfl (hb hby at_184) rfl ((if0 _ _).trans (teq (by decide : (0 : Int32) = (0 : Int32))).2) k) ?_
        refine ownW_step (T' := T124) (f' := (F116 188 [(.int (1 : Int32))])) (fun t k => XS.iconst X124.here hx rfl (hb hby at_187) k) ?_
        refine ownW_step (T' := T124) (f' := (F116 192 [(.int (1 : Int32))])) (fun t k => XS.goto X124.here hx rfl (pc0 := 188) (pc' := 192) rfl (hb hby at_188) (by decide) (by decide) k) ?_
        exact ownW_retN X124 ((State.WarmedH.refl s).since _) (Nat.le_refl _) hx hlk (t := .boolean) Bd.returns (by simp) (hb hby at_192) (by decide) (by decide) ⟨rfl, N124⟩
      · skip
        refine ownW_step (T' := T107) (f' := (F100 92 [(.int (3 : Int32))])) (fun t k => XS.iload X107.here hx rfl (hb hby at_90) rfl k) ?_
        let F125 : Nat → List Value → JFrame := fun a b => mkF m a #[.val (.int p1), .val (.int p2), .val (.int p3), .val (.int p4), .val (.int (3 : Int32)), .val (.ref b90), .val (.ref b98), .val (.int (3 : Int32))] b
        refine ownW_step (T' := T107) (f' := (F125 94 [])) (fun t k => XS.istore X107.here hx rfl (hb hby at_92) rfl (l' := #[.val (.int p1), .val (.int p2), .val (.int p3), .val (.int p4), .val (.int (3 : Int32)), .val (.ref b90), .val (.ref b98), .val (.int (3 : Int32))]) rfl k) ?_
        refine ownW_step (T' := T107) (f' := (F125 96 [(.int (3 : Int32))])) (fun t k => XS.iload X107.here hx rfl (hb hby at_94) rfl k) ?_
        refine ownW_step (T' := T107) (f' := (F125 97 [(.int (2 : Int32)), (.int (3 : Int32))])) (fun t k => XS.iconst X107.here hx rfl (hb hby at_96) k) ?_
        refine ownW_step (T' := T107) (f' := (F125 100 [])) (fun t k => XS.icmpNo X107.here hx rfl (hb hby at_97) rfl (flt (by decide : ¬ ((3 : Int32) < (2 : Int32)))).1 k) ?_
        refine ownW_step (T' := T107) (f' := (F125 102 [(.ref b90)])) (fun t k => XS.aload X107.here hx rfl (hb hby at_100) rfl rfl k) ?_
        refine ownW_step (T' := T107) (f' := (F125 104 [(.int (3 : Int32)), (.ref b90)])) (fun t k => XS.iload X107.here hx rfl (hb hby at_102) rfl k) ?_
        refine ownW_step (T' := T107) (f' := (F125 105 [(.int (2 : Int32)), (.int (3 : Int32)), (.ref b90)])) (fun t k => XS.iconst X107.here hx rfl (hb hby at_104) k) ?_
        refine ownW_step (T' := T107) (f' := (F125 106 [(.int (1 : Int32)), (.ref b90)])) (fun t k => XS.isub X107.here hx rfl (hb hby at_105) rfl k) ?_
        obtain ⟨cl126, Ar126, q126, S126, M126, H126, G126⟩ := id V_b90
        have hin126 : ¬ ((1 : Int32) < 0 ∨ cl126.slots.size ≤ ((1 : Int32)).toNatClampNeg) := inb_of S126 ⟨by decide, by decide⟩
        have hat126 : cl126.slots[((1 : Int32)).toNatClampNeg]? = some (.int c93) := own_at hin126 H126 1 rfl rfl
        refine ownW_step (T' := T107) (f' := (F125 107 [(.int c93)])) (fun t k => X107.caload hx (j := (1 : Int32)) (v := (.int c93)) (by exact Ar126.1) (State.isArrayOf_alike hZ.alike Ar126.2.1) Ar126.2.2 hin126 hat126 (g := (F125 106 [(.int (1 : Int32)), (.ref b90)])) rfl rfl (hb hby at_106) _ k) ?_
        refine ownW_step (T' := T107) (f' := (F125 109 [(.int (92 : Int32)), (.int c93)])) (fun t k => XS.bipush X107.here hx rfl (hb hby at_107) k) ?_
        refine ownW_step (T' := T107) (f' := (F125 154 [])) (fun t k => XS.icmpYes X107.here hx rfl (pc0 := 109) (pc' := 154) rfl (hb hby at_109) rfl (feq (fun q => d92 ((own_sb92 hC93).mpr q))).2 (by decide) (by decide) k) ?_
        refine ownW_step (T' := T107) (f' := (F125 156 [(.ref b98)])) (fun t k => XS.aload X107.here hx rfl (hb hby at_154) rfl rfl k) ?_
        obtain ⟨cq127, kq127, q127a, q127b, q127c⟩ := isOf hZ rfl E_b98
        obtain ⟨_, _, ⟨T127, L127, k127, n127⟩, -, X127, ⟨Lc127, hQ127, l127, y127, z127⟩, st127⟩ := X107.virtualBack hx (y := (⟨"com/example/lit2/lit2/weave/TexOutput", "lineLength", "()I"⟩ : MethodName)) (z := (⟨"com/example/lit2/lit2/weave/TexOutput", "lineLength", "()I"⟩ : MethodName)) hown (mvT hZ (hw _ (List.mem_of_getElem? (i := 32) rfl))) (mvT hZ (hw _ (List.mem_of_getElem? (i := 33) rfl))) (notFace_of_selects (args := #[]) (mvT hZ (hw _ (List.mem_of_getElem? (i := 35) rfl)))) (mvT hZ (hw _ (List.mem_of_getElem? (i := 35) rfl))) (mvT hZ (hw _ (List.mem_of_getElem? (i := 34) rfl))) (by decide) (backOf (W := 0) (rm6 l Z a0 hw [] b98 T107.heap n0 Zz (3 : Int32) qN107) hZ (hw _ (List.mem_of_getElem? (i := 36) rfl)) (hw _ (List.mem_of_getElem? (i := 7) rfl)) (by decide) (by decide)) q127a q127c (g := (F125 156 [(.ref b98)])) rfl (by rw [hml]; rfl) (Steps.refl _) (argsL := []) (rest := []) (lenOf pd_0_2 rfl) rfl (by show 2 * 0 + _ ≤ _; exact Nat.le_of_eq rfl) (hb hby at_156) (fun _ _ => ⟨rfl, rfl, (by decide : 4 + 0 ≤ _), (by decide : 65625 + 0 ≤ _)⟩)
        dsimp only [Pt.U, Pt.locs, Pt.cells, Pt.slots] at X127 l127 y127 z127 st127 hQ127
        subst l127 y127 z127
        obtain ⟨rfl, N127q, E127⟩ := hQ127
        have N127 := Fr.app N107 N127q
        refine ownW_step (T' := T127) (f' := (F125 159 [(.int (3 : Int32))])) (fun t k => st127.trans k) ?_
        refine ownW_step (T' := T127) (f' := (F125 161 [(.int (3 : Int32)), (.int (3 : Int32))])) (fun t k => XS.iload X127.here hx rfl (hb hby at_159) rfl k) ?_
        refine ownW_step (T' := T127) (f' := (F125 164 [])) (fun t k => XS.icmpNo X127.here hx rfl (hb hby at_161) rfl (teq (by decide : (3 : Int32) = (3 : Int32))).2 k) ?_
        refine ownW_step (T' := T127) (f' := (F125 166 [(.ref b98)])) (fun t k => XS.aload X127.here hx rfl (hb hby at_164) rfl rfl k) ?_
        refine ownW_step (T' := T127) (f' := (F125 168 [(.int (3 : Int32)), (.ref b98)])) (fun t k => XS.iload X127.here hx rfl (hb hby at_166) rfl k) ?_
        refine ownW_step (T' := T127) (f' := (F125 170 [(.ref b90), (.int (3 : Int32)), (.ref b98)])) (fun t k => XS.aload X127.here hx rfl (hb hby at_168) rfl rfl k) ?_
        obtain ⟨_, _, ⟨T128, L128, k128, n128⟩, -, X128, ⟨Lc128, hQ128, l128, y128, z128⟩, st128⟩ := Jvm.LawKit.callS X127 hx (y := (⟨"com/example/lit2/lit2/weave/TexOutputDropFinalBreakPinLaw", "str", "(I[C)Ljava/lang/String;"⟩ : MethodName)) hown (mvT hZ (hw _ (List.mem_of_getElem? (i := 37) rfl))) (mvT hZ (hw _ (List.mem_of_getElem? (i := 38) rfl))) (mvT hZ (hw _ (List.mem_of_getElem? (i := 3) rfl))) (mvT hZ (hw _ (List.mem_of_getElem? (i := 39) rfl))) (by decide) (backOf (W := 1) (rm7_3 l Z a0 hw [] b90 T107.heap n0 Zz c91 c93 c95 hC91 hC93 hC95  k90 V_b90  cs S_CS hcs) hZ (hw _ (List.mem_of_getElem? (i := 39) rfl)) (hw _ (List.mem_of_getElem? (i := 3) rfl)) (by decide) (by decide)) (g := (F125 170 [(.ref b90), (.int (3 : Int32)), (.ref b98)])) rfl (by rw [hml]; rfl) (argsL := [(.int (3 : Int32)), (.ref b90)]) (rest := [(.ref b98)]) (lenOf pd_0_3 rfl) rfl (by show 2 * 0 + _ ≤ _; exact Nat.le_of_eq rfl) (hb hby at_170) (fun _ _ => ⟨rfl, E127, (by decide : 4 + 3 ≤ _), (by decide : 65625 + 10 ≤ _)⟩)
        dsimp only [Pt.U, Pt.locs, Pt.cells, Pt.slots] at X128 l128 y128 z128 st128 hQ128
        subst l128 y128 z128
        obtain ⟨rr128, rb128, rk128, rfl, N128q, K128, Os128⟩ := hQ128
        have N128 := Fr.app N127 N128q
        replace S_CS := own_sta_keep S_CS K128 all0
        replace S_FM := own_sta_keep S_FM K128 all0
        replace V_b90 := V_b90.keep K128 nin0
        replace EX_b90 := EX_b90.keep K128
        replace E_b98 := E_b98.keep K128
        replace EXb99 := EXb99.keep K128
        replace qL107 := qL107.keep K128 nin0
        replace qN107 := qN107.keep K128 nin0
        replace qW107 := qW107.keep K128 nin0
        replace qV107 := qV107.keep K128 nin0
        replace Zz := Nat.le_trans Zz K128.1
        replace Kp := Kp.trans K128 all0
        refine ownW_step (T' := T128) (f' := (F125 173 [(.ref rr128), (.ref b98)])) (fun t k => st128 t k) ?_
        obtain ⟨cq129, kq129, q129a, q129b, q129c⟩ := isOf hZ rfl E_b98
        obtain ⟨_, _, ⟨T129, L129, k129, n129⟩, -, X129, ⟨Lc129, hQ129, l129, y129, z129⟩, st129⟩ := X128.virtualBack hx (y := (⟨"com/example/lit2/lit2/weave/TexOutput", "endsWith", "(Ljava/lang/String;)Z"⟩ : MethodName)) (z := (⟨"com/example/lit2/lit2/weave/TexOutput", "endsWith", "(Ljava/lang/String;)Z"⟩ : MethodName)) hown (mvT hZ (hw _ (List.mem_of_getElem? (i := 66) rfl))) (mvT hZ (hw _ (List.mem_of_getElem? (i := 67) rfl))) (notFace_of_selects (args := #[]) (mvT hZ (hw _ (List.mem_of_getElem? (i := 69) rfl)))) (mvT hZ (hw _ (List.mem_of_getElem? (i := 69) rfl))) (mvT hZ (hw _ (List.mem_of_getElem? (i := 68) rfl))) (by decide) (backOf (W := 0) (rm13_3 l Z a0 hw [] b98 rr128 T128.heap n0 Zz (own_sb c91) (own_sb c93) (own_sb c95) bb99 kk99 ⟨E_b98, qL107, qN107, qW107, qV107, EXb99, nab99⟩ rb128 rk128 Os128 cs S_CS hcs fm S_FM hfc hfr) hZ (hw _ (List.mem_of_getElem? (i := 70) rfl)) (hw _ (List.mem_of_getElem? (i := 7) rfl)) (by decide) (by decide)) q129a q129c (g := (F125 173 [(.ref rr128), (.ref b98)])) rfl (by rw [hml]; rfl) (Steps.refl _) (argsL := [(.ref rr128)]) (rest := []) (lenOf pd_0_4 rfl) rfl (by show 2 * 0 + _ ≤ _; exact Nat.le_of_eq rfl) (hb hby at_173) (fun _ _ => ⟨rfl, rfl, (by decide : 7 + 0 ≤ _), (by decide : 65635 + 0 ≤ _)⟩)
        dsimp only [Pt.U, Pt.locs, Pt.cells, Pt.slots] at X129 l129 y129 z129 st129 hQ129
        subst l129 y129 z129
        obtain ⟨rfl, N129q, E129⟩ := hQ129
        have N129 := Fr.app N128 N129q
        refine ownW_step (T' := T129) (f' := (F125 176 [(.int (1 : Int32))])) (fun t k => st129.trans k) ?_
        refine ownW_step (T' := T129) (f' := (F125 179 [])) (fun t k => XS.ifNo X129.here hx rfl (hb hby at_176) rfl ((if0 _ _).trans (feq (by decide : ¬ ((1 : Int32) = (0 : Int32)))).1) k) ?_
        refine ownW_step (T' := T129) (f' := (F125 181 [(.ref b98)])) (fun t k => XS.aload X129.here hx rfl (hb hby at_179) rfl rfl k) ?_
        obtain ⟨cq130, kq130, q130a, q130b, q130c⟩ := isOf hZ E129 E_b98
        obtain ⟨_, _, ⟨T130, L130, k130, n130⟩, -, X130, ⟨Lc130, hQ130, l130, y130, z130⟩, st130⟩ := X129.virtualBack hx (y := (⟨"com/example/lit2/lit2/weave/TexOutput", "linesWritten", "()I"⟩ : MethodName)) (z := (⟨"com/example/lit2/lit2/weave/TexOutput", "linesWritten", "()I"⟩ : MethodName)) hown (mvT hZ (hw _ (List.mem_of_getElem? (i := 103) rfl))) (mvT hZ (hw _ (List.mem_of_getElem? (i := 104) rfl))) (notFace_of_selects (args := #[]) (mvT hZ (hw _ (List.mem_of_getElem? (i := 106) rfl)))) (mvT hZ (hw _ (List.mem_of_getElem? (i := 106) rfl))) (mvT hZ (hw _ (List.mem_of_getElem? (i := 105) rfl))) (by decide) (backOf (W := 0) (rm21 l Z a0 hw [] b98 T128.heap n0 Zz qW107) hZ (hw _ (List.mem_of_getElem? (i := 107) rfl)) (hw _ (List.mem_of_getElem? (i := 7) rfl)) (by decide) (by decide)) q130a q130c (g := (F125 181 [(.ref b98)])) rfl (by rw [hml]; rfl) (Steps.refl _) (argsL := []) (rest := []) (lenOf pd_0_2 rfl) rfl (by show 2 * 0 + _ ≤ _; exact Nat.le_of_eq rfl) (hb hby at_181) (fun _ _ => ⟨rfl, E129, (by decide : 7 + 0 ≤ _), (by decide : 65635 + 0 ≤ _)⟩)
        dsimp only [Pt.U, Pt.locs, Pt.cells, Pt.slots] at X130 l130 y130 z130 st130 hQ130
        subst l130 y130 z130
        obtain ⟨rfl, N130q, E130⟩ := hQ130
        have N130 := Fr.app N129 N130q
        refine ownW_step (T' := T130) (f' := (F125 184 [(.int (0 : Int32))])) (fun t k => st130.trans k) ?_
        refine ownW_step (T' := T130) (f' := (F125 187 [])) (fun t k => XS.ifNo X130.here hx rfl (hb hby at_184) rfl ((if0 _ _).trans (teq (by decide : (0 : Int32) = (0 : Int32))).2) k) ?_
        refine ownW_step (T' := T130) (f' := (F125 188 [(.int (1 : Int32))])) (fun t k => XS.iconst X130.here hx rfl (hb hby at_187) k) ?_
        refine ownW_step (T' := T130) (f' := (F125 192 [(.int (1 : Int32))])) (fun t k => XS.goto X130.here hx rfl (pc0 := 188) (pc' := 192) rfl (hb hby at_188) (by decide) (by decide) k) ?_
        exact ownW_retN X130 ((State.WarmedH.refl s).since _) (Nat.le_refl _) hx hlk (t := .boolean) Bd.returns (by simp) (hb hby at_192) (by decide) (by decide) ⟨rfl, N130⟩
      · skip
        refine ownW_step (T' := T107) (f' := (F100 92 [(.int (3 : Int32))])) (fun t k => XS.iload X107.here hx rfl (hb hby at_90) rfl k) ?_
        let F131 : Nat → List Value → JFrame := fun a b => mkF m a #[.val (.int p1), .val (.int p2), .val (.int p3), .val (.int p4), .val (.int (3 : Int32)), .val (.ref b90), .val (.ref b98), .val (.int (3 : Int32))] b
        refine ownW_step (T' := T107) (f' := (F131 94 [])) (fun t k => XS.istore X107.here hx rfl (hb hby at_92) rfl (l' := #[.val (.int p1), .val (.int p2), .val (.int p3), .val (.int p4), .val (.int (3 : Int32)), .val (.ref b90), .val (.ref b98), .val (.int (3 : Int32))]) rfl k) ?_
        refine ownW_step (T' := T107) (f' := (F131 96 [(.int (3 : Int32))])) (fun t k => XS.iload X107.here hx rfl (hb hby at_94) rfl k) ?_
        refine ownW_step (T' := T107) (f' := (F131 97 [(.int (2 : Int32)), (.int (3 : Int32))])) (fun t k => XS.iconst X107.here hx rfl (hb hby at_96) k) ?_
        refine ownW_step (T' := T107) (f' := (F131 100 [])) (fun t k => XS.icmpNo X107.here hx rfl (hb hby at_97) rfl (flt (by decide : ¬ ((3 : Int32) < (2 : Int32)))).1 k) ?_
        refine ownW_step (T' := T107) (f' := (F131 102 [(.ref b90)])) (fun t k => XS.aload X107.here hx rfl (hb hby at_100) rfl rfl k) ?_
        refine ownW_step (T' := T107) (f' := (F131 104 [(.int (3 : Int32)), (.ref b90)])) (fun t k => XS.iload X107.here hx rfl (hb hby at_102) rfl k) ?_
        refine ownW_step (T' := T107) (f' := (F131 105 [(.int (2 : Int32)), (.int (3 : Int32)), (.ref b90)])) (fun t k => XS.iconst X107.here hx rfl (hb hby at_104) k) ?_
        refine ownW_step (T' := T107) (f' := (F131 106 [(.int (1 : Int32)), (.ref b90)])) (fun t k => XS.isub X107.here hx rfl (hb hby at_105) rfl k) ?_
        obtain ⟨cl132, Ar132, q132, S132, M132, H132, G132⟩ := id V_b90
        have hin132 : ¬ ((1 : Int32) < 0 ∨ cl132.slots.size ≤ ((1 : Int32)).toNatClampNeg) := inb_of S132 ⟨by decide, by decide⟩
        have hat132 : cl132.slots[((1 : Int32)).toNatClampNeg]? = some (.int c93) := own_at hin132 H132 1 rfl rfl
        refine ownW_step (T' := T107) (f' := (F131 107 [(.int c93)])) (fun t k => X107.caload hx (j := (1 : Int32)) (v := (.int c93)) (by exact Ar132.1) (State.isArrayOf_alike hZ.alike Ar132.2.1) Ar132.2.2 hin132 hat132 (g := (F131 106 [(.int (1 : Int32)), (.ref b90)])) rfl rfl (hb hby at_106) _ k) ?_
        refine ownW_step (T' := T107) (f' := (F131 109 [(.int (92 : Int32)), (.int c93)])) (fun t k => XS.bipush X107.here hx rfl (hb hby at_107) k) ?_
        refine ownW_step (T' := T107) (f' := (F131 112 [])) (fun t k => XS.icmpNo X107.here hx rfl (hb hby at_109) rfl (teq ((own_sb92 hC93).mp d92)).2 k) ?_
        refine ownW_step (T' := T107) (f' := (F131 114 [(.ref b90)])) (fun t k => XS.aload X107.here hx rfl (hb hby at_112) rfl rfl k) ?_
        refine ownW_step (T' := T107) (f' := (F131 116 [(.int (3 : Int32)), (.ref b90)])) (fun t k => XS.iload X107.here hx rfl (hb hby at_114) rfl k) ?_
        refine ownW_step (T' := T107) (f' := (F131 117 [(.int (1 : Int32)), (.int (3 : Int32)), (.ref b90)])) (fun t k => XS.iconst X107.here hx rfl (hb hby at_116) k) ?_
        refine ownW_step (T' := T107) (f' := (F131 118 [(.int (2 : Int32)), (.ref b90)])) (fun t k => XS.isub X107.here hx rfl (hb hby at_117) rfl k) ?_
        obtain ⟨cl133, Ar133, q133, S133, M133, H133, G133⟩ := id V_b90
        have hin133 : ¬ ((2 : Int32) < 0 ∨ cl133.slots.size ≤ ((2 : Int32)).toNatClampNeg) := inb_of S133 ⟨by decide, by decide⟩
        have hat133 : cl133.slots[((2 : Int32)).toNatClampNeg]? = some (.int c95) := own_at hin133 H133 2 rfl rfl
        refine ownW_step (T' := T107) (f' := (F131 119 [(.int c95)])) (fun t k => X107.caload hx (j := (2 : Int32)) (v := (.int c95)) (by exact Ar133.1) (State.isArrayOf_alike hZ.alike Ar133.2.1) Ar133.2.2 hin133 hat133 (g := (F131 118 [(.int (2 : Int32)), (.ref b90)])) rfl rfl (hb hby at_118) _ k) ?_
        refine ownW_step (T' := T107) (f' := (F131 121 [(.int (54 : Int32)), (.int c95)])) (fun t k => XS.bipush X107.here hx rfl (hb hby at_119) k) ?_
        refine ownW_step (T' := T107) (f' := (F131 133 [])) (fun t k => XS.icmpYes X107.here hx rfl (pc0 := 121) (pc' := 133) rfl (hb hby at_121) rfl (feq (fun q => d54 ((own_sb54 hC95).mpr q))).2 (by decide) (by decide) k) ?_
        refine ownW_step (T' := T107) (f' := (F131 135 [(.ref b90)])) (fun t k => XS.aload X107.here hx rfl (hb hby at_133) rfl rfl k) ?_
        refine ownW_step (T' := T107) (f' := (F131 137 [(.int (3 : Int32)), (.ref b90)])) (fun t k => XS.iload X107.here hx rfl (hb hby at_135) rfl k) ?_
        refine ownW_step (T' := T107) (f' := (F131 138 [(.int (1 : Int32)), (.int (3 : Int32)), (.ref b90)])) (fun t k => XS.iconst X107.here hx rfl (hb hby at_137) k) ?_
        refine ownW_step (T' := T107) (f' := (F131 139 [(.int (2 : Int32)), (.ref b90)])) (fun t k => XS.isub X107.here hx rfl (hb hby at_138) rfl k) ?_
        obtain ⟨cl134, Ar134, q134, S134, M134, H134, G134⟩ := id V_b90
        have hin134 : ¬ ((2 : Int32) < 0 ∨ cl134.slots.size ≤ ((2 : Int32)).toNatClampNeg) := inb_of S134 ⟨by decide, by decide⟩
        have hat134 : cl134.slots[((2 : Int32)).toNatClampNeg]? = some (.int c95) := own_at hin134 H134 2 rfl rfl
        refine ownW_step (T' := T107) (f' := (F131 140 [(.int c95)])) (fun t k => X107.caload hx (j := (2 : Int32)) (v := (.int c95)) (by exact Ar134.1) (State.isArrayOf_alike hZ.alike Ar134.2.1) Ar134.2.2 hin134 hat134 (g := (F131 139 [(.int (2 : Int32)), (.ref b90)])) rfl rfl (hb hby at_139) _ k) ?_
        refine ownW_step (T' := T107) (f' := (F131 142 [(.int (55 : Int32)), (.int c95)])) (fun t k => XS.bipush X107.here hx rfl (hb hby at_140) k) ?_
        refine ownW_step (T' := T107) (f' := (F131 154 [])) (fun t k => XS.icmpYes X107.here hx rfl (pc0 := 142) (pc' := 154) rfl (hb hby at_142) rfl (feq (fun q => d55 ((own_sb55 hC95).mpr q))).2 (by decide) (by decide) k) ?_
        refine ownW_step (T' := T107) (f' := (F131 156 [(.ref b98)])) (fun t k => XS.aload X107.here hx rfl (hb hby at_154) rfl rfl k) ?_
        obtain ⟨cq135, kq135, q135a, q135b, q135c⟩ := isOf hZ rfl E_b98
        obtain ⟨_, _, ⟨T135, L135, k135, n135⟩, -, X135, ⟨Lc135, hQ135, l135, y135, z135⟩, st135⟩ := X107.virtualBack hx (y := (⟨"com/example/lit2/lit2/weave/TexOutput", "lineLength", "()I"⟩ : MethodName)) (z := (⟨"com/example/lit2/lit2/weave/TexOutput", "lineLength", "()I"⟩ : MethodName)) hown (mvT hZ (hw _ (List.mem_of_getElem? (i := 32) rfl))) (mvT hZ (hw _ (List.mem_of_getElem? (i := 33) rfl))) (notFace_of_selects (args := #[]) (mvT hZ (hw _ (List.mem_of_getElem? (i := 35) rfl)))) (mvT hZ (hw _ (List.mem_of_getElem? (i := 35) rfl))) (mvT hZ (hw _ (List.mem_of_getElem? (i := 34) rfl))) (by decide) (backOf (W := 0) (rm6 l Z a0 hw [] b98 T107.heap n0 Zz (3 : Int32) qN107) hZ (hw _ (List.mem_of_getElem? (i := 36) rfl)) (hw _ (List.mem_of_getElem? (i := 7) rfl)) (by decide) (by decide)) q135a q135c (g := (F131 156 [(.ref b98)])) rfl (by rw [hml]; rfl) (Steps.refl _) (argsL := []) (rest := []) (lenOf pd_0_2 rfl) rfl (by show 2 * 0 + _ ≤ _; exact Nat.le_of_eq rfl) (hb hby at_156) (fun _ _ => ⟨rfl, rfl, (by decide : 4 + 0 ≤ _), (by decide : 65625 + 0 ≤ _)⟩)
        dsimp only [Pt.U, Pt.locs, Pt.cells, Pt.slots] at X135 l135 y135 z135 st135 hQ135
        subst l135 y135 z135
        obtain ⟨rfl, N135q, E135⟩ := hQ135
        have N135 := Fr.app N107 N135q
        refine ownW_step (T' := T135) (f' := (F131 159 [(.int (3 : Int32))])) (fun t k => st135.trans k) ?_
        refine ownW_step (T' := T135) (f' := (F131 161 [(.int (3 : Int32)), (.int (3 : Int32))])) (fun t k => XS.iload X135.here hx rfl (hb hby at_159) rfl k) ?_
        refine ownW_step (T' := T135) (f' := (F131 164 [])) (fun t k => XS.icmpNo X135.here hx rfl (hb hby at_161) rfl (teq (by decide : (3 : Int32) = (3 : Int32))).2 k) ?_
        refine ownW_step (T' := T135) (f' := (F131 166 [(.ref b98)])) (fun t k => XS.aload X135.here hx rfl (hb hby at_164) rfl rfl k) ?_
        refine ownW_step (T' := T135) (f' := (F131 168 [(.int (3 : Int32)), (.ref b98)])) (fun t k => XS.iload X135.here hx rfl (hb hby at_166) rfl k) ?_
        refine ownW_step (T' := T135) (f' := (F131 170 [(.ref b90), (.int (3 : Int32)), (.ref b98)])) (fun t k => XS.aload X135.here hx rfl (hb hby at_168) rfl rfl k) ?_
        obtain ⟨_, _, ⟨T136, L136, k136, n136⟩, -, X136, ⟨Lc136, hQ136, l136, y136, z136⟩, st136⟩ := Jvm.LawKit.callS X135 hx (y := (⟨"com/example/lit2/lit2/weave/TexOutputDropFinalBreakPinLaw", "str", "(I[C)Ljava/lang/String;"⟩ : MethodName)) hown (mvT hZ (hw _ (List.mem_of_getElem? (i := 37) rfl))) (mvT hZ (hw _ (List.mem_of_getElem? (i := 38) rfl))) (mvT hZ (hw _ (List.mem_of_getElem? (i := 3) rfl))) (mvT hZ (hw _ (List.mem_of_getElem? (i := 39) rfl))) (by decide) (backOf (W := 1) (rm7_3 l Z a0 hw [] b90 T107.heap n0 Zz c91 c93 c95 hC91 hC93 hC95  k90 V_b90  cs S_CS hcs) hZ (hw _ (List.mem_of_getElem? (i := 39) rfl)) (hw _ (List.mem_of_getElem? (i := 3) rfl)) (by decide) (by decide)) (g := (F131 170 [(.ref b90), (.int (3 : Int32)), (.ref b98)])) rfl (by rw [hml]; rfl) (argsL := [(.int (3 : Int32)), (.ref b90)]) (rest := [(.ref b98)]) (lenOf pd_0_3 rfl) rfl (by show 2 * 0 + _ ≤ _; exact Nat.le_of_eq rfl) (hb hby at_170) (fun _ _ => ⟨rfl, E135, (by decide : 4 + 3 ≤ _), (by decide : 65625 + 10 ≤ _)⟩)
        dsimp only [Pt.U, Pt.locs, Pt.cells, Pt.slots] at X136 l136 y136 z136 st136 hQ136
        subst l136 y136 z136
        obtain ⟨rr136, rb136, rk136, rfl, N136q, K136, Os136⟩ := hQ136
        have N136 := Fr.app N135 N136q
        replace S_CS := own_sta_keep S_CS K136 all0
        replace S_FM := own_sta_keep S_FM K136 all0
        replace V_b90 := V_b90.keep K136 nin0
        replace EX_b90 := EX_b90.keep K136
        replace E_b98 := E_b98.keep K136
        replace EXb99 := EXb99.keep K136
        replace qL107 := qL107.keep K136 nin0
        replace qN107 := qN107.keep K136 nin0
        replace qW107 := qW107.keep K136 nin0
        replace qV107 := qV107.keep K136 nin0
        replace Zz := Nat.le_trans Zz K136.1
        replace Kp := Kp.trans K136 all0
        refine ownW_step (T' := T136) (f' := (F131 173 [(.ref rr136), (.ref b98)])) (fun t k => st136 t k) ?_
        obtain ⟨cq137, kq137, q137a, q137b, q137c⟩ := isOf hZ rfl E_b98
        obtain ⟨_, _, ⟨T137, L137, k137, n137⟩, -, X137, ⟨Lc137, hQ137, l137, y137, z137⟩, st137⟩ := X136.virtualBack hx (y := (⟨"com/example/lit2/lit2/weave/TexOutput", "endsWith", "(Ljava/lang/String;)Z"⟩ : MethodName)) (z := (⟨"com/example/lit2/lit2/weave/TexOutput", "endsWith", "(Ljava/lang/String;)Z"⟩ : MethodName)) hown (mvT hZ (hw _ (List.mem_of_getElem? (i := 66) rfl))) (mvT hZ (hw _ (List.mem_of_getElem? (i := 67) rfl))) (notFace_of_selects (args := #[]) (mvT hZ (hw _ (List.mem_of_getElem? (i := 69) rfl)))) (mvT hZ (hw _ (List.mem_of_getElem? (i := 69) rfl))) (mvT hZ (hw _ (List.mem_of_getElem? (i := 68) rfl))) (by decide) (backOf (W := 0) (rm13_3 l Z a0 hw [] b98 rr136 T136.heap n0 Zz (own_sb c91) (own_sb c93) (own_sb c95) bb99 kk99 ⟨E_b98, qL107, qN107, qW107, qV107, EXb99, nab99⟩ rb136 rk136 Os136 cs S_CS hcs fm S_FM hfc hfr) hZ (hw _ (List.mem_of_getElem? (i := 70) rfl)) (hw _ (List.mem_of_getElem? (i := 7) rfl)) (by decide) (by decide)) q137a q137c (g := (F131 173 [(.ref rr136), (.ref b98)])) rfl (by rw [hml]; rfl) (Steps.refl _) (argsL := [(.ref rr136)]) (rest := []) (lenOf pd_0_4 rfl) rfl (by show 2 * 0 + _ ≤ _; exact Nat.le_of_eq rfl) (hb hby at_173) (fun _ _ => ⟨rfl, rfl, (by decide : 7 + 0 ≤ _), (by decide : 65635 + 0 ≤ _)⟩)
        dsimp only [Pt.U, Pt.locs, Pt.cells, Pt.slots] at X137 l137 y137 z137 st137 hQ137
        subst l137 y137 z137
        obtain ⟨rfl, N137q, E137⟩ := hQ137
        have N137 := Fr.app N136 N137q
        refine ownW_step (T' := T137) (f' := (F131 176 [(.int (1 : Int32))])) (fun t k => st137.trans k) ?_
        refine ownW_step (T' := T137) (f' := (F131 179 [])) (fun t k => XS.ifNo X137.here hx rfl (hb hby at_176) rfl ((if0 _ _).trans (feq (by decide : ¬ ((1 : Int32) = (0 : Int32)))).1) k) ?_
        refine ownW_step (T' := T137) (f' := (F131 181 [(.ref b98)])) (fun t k => XS.aload X137.here hx rfl (hb hby at_179) rfl rfl k) ?_
        obtain ⟨cq138, kq138, q138a, q138b, q138c⟩ := isOf hZ E137 E_b98
        obtain ⟨_, _, ⟨T138, L138, k138, n138⟩, -, X138, ⟨Lc138, hQ138, l138, y138, z138⟩, st138⟩ := X137.virtualBack hx (y := (⟨"com/example/lit2/lit2/weave/TexOutput", "linesWritten", "()I"⟩ : MethodName)) (z := (⟨"com/example/lit2/lit2/weave/TexOutput", "linesWritten", "()I"⟩ : MethodName)) hown (mvT hZ (hw _ (List.mem_of_getElem? (i := 103) rfl))) (mvT hZ (hw _ (List.mem_of_getElem? (i := 104) rfl))) (notFace_of_selects (args := #[]) (mvT hZ (hw _ (List.mem_of_getElem? (i := 106) rfl)))) (mvT hZ (hw _ (List.mem_of_getElem? (i := 106) rfl))) (mvT hZ (hw _ (List.mem_of_getElem? (i := 105) rfl))) (by decide) (backOf (W := 0) (rm21 l Z a0 hw [] b98 T136.heap n0 Zz qW107) hZ (hw _ (List.mem_of_getElem? (i := 107) rfl)) (hw _ (List.mem_of_getElem? (i := 7) rfl)) (by decide) (by decide)) q138a q138c (g := (F131 181 [(.ref b98)])) rfl (by rw [hml]; rfl) (Steps.refl _) (argsL := []) (rest := []) (lenOf pd_0_2 rfl) rfl (by show 2 * 0 + _ ≤ _; exact Nat.le_of_eq rfl) (hb hby at_181) (fun _ _ => ⟨rfl, E137, (by decide : 7 + 0 ≤ _), (by decide : 65635 + 0 ≤ _)⟩)
        dsimp only [Pt.U, Pt.locs, Pt.cells, Pt.slots] at X138 l138 y138 z138 st138 hQ138
        subst l138 y138 z138
        obtain ⟨rfl, N138q, E138⟩ := hQ138
        have N138 := Fr.app N137 N138q
        refine ownW_step (T' := T138) (f' := (F131 184 [(.int (0 : Int32))])) (fun t k => st138.trans k) ?_
        refine ownW_step (T' := T138) (f' := (F131 187 [])) (fun t k => XS.ifNo X138.here hx rfl (hb hby at_184) rfl ((if0 _ _).trans (teq (by decide : (0 : Int32) = (0 : Int32))).2) k) ?_
        refine ownW_step (T' := T138) (f' := (F131 188 [(.int (1 : Int32))])) (fun t k => XS.iconst X138.here hx rfl (hb hby at_187) k) ?_
        refine ownW_step (T' := T138) (f' := (F131 192 [(.int (1 : Int32))])) (fun t k => XS.goto X138.here hx rfl (pc0 := 188) (pc' := 192) rfl (hb hby at_188) (by decide) (by decide) k) ?_
        exact ownW_retN X138 ((State.WarmedH.refl s).since _) (Nat.le_refl _) hx hlk (t := .boolean) Bd.returns (by simp) (hb hby at_192) (by decide) (by decide) ⟨rfl, N138⟩
  exact J5_2 s₁ _ X0 e0 N0 (p4 &&& (3 : Int32)) (own_and3 _)

set_option maxRecDepth 65536 in
set_option maxHeartbeats 40000000 in
theorem comes_1 {Post : Tables → Env → Array Value → State → Outcome → State → Prop} (hpost : ∀ tb e args s v u, (limb_1_1.after args s (.returned v) u = true ∧ limb_1_2.after args s (.returned v) u = true ∧ True) → ReturnedEndW s (.returned v) u (Jvm.fieldLocs frame_1_writes args s ++ Jvm.arrayLocs frame_1_arrays args s ++ Jvm.staticLocs frame_1_statics s) 24 132416 → Post tb e args s (.returned v) u) :
    ArmFor flags0 classFile x code maxLocals ret World_1 tables_1 room_1 Calls_1 rest_1 Pre_1 Post := by
  intro l hfl _ _ p e ha hc hk s m args below hf hA hF happ hP
  obtain ⟨hcalls, hrest, hpre⟩ := hP
  obtain ⟨-, -, -, hnamed, -, -, -, hat⟩ := (Spec.applies_iff hf).mp happ
  obtain ⟨hg, hn⟩ := and_e (Cond.before_iff.mp (show (Jvm.Cond.and given_1 narrow_1).before args s = true from hpre))
  obtain ⟨hcnt, hg0⟩ := and_e hg
  obtain ⟨ga0, hg1⟩ := and_e hg0
  obtain ⟨ga1, hg2⟩ := and_e hg1
  obtain ⟨ga2, hg3⟩ := and_e hg2
  have ga3 := hg3
  obtain ⟨w0, w1, w2, w3, rfl⟩ : ∃ w0 w1 w2 w3 : Value, args = #[w0, w1, w2, w3] := by
    have hs : args.size = 4 := by simpa [Cond.value, given_1] using hcnt
    obtain ⟨L⟩ := args
    match L, hs with
    | [w0, w1, w2, w3], _ => exact ⟨w0, w1, w2, w3, rfl⟩
  have hw := fun d (hd : d ∈ tables_1) => atoms_spec (ws := Jvm.Cond.code x code maxLocals ret :: tables_1) hat d (List.mem_cons_of_mem _ hd)
  obtain ⟨i0, ei0⟩ := is_v ga0
  obtain rfl : w0 = (.int i0) := Option.some.inj ei0
  obtain ⟨i1, ei1⟩ := is_v ga1
  obtain rfl : w1 = (.int i1) := Option.some.inj ei1
  obtain ⟨i2, ei2⟩ := is_v ga2
  obtain rfl : w2 = (.int i2) := Option.some.inj ei2
  obtain ⟨i3, ei3⟩ := is_v ga3
  obtain rfl : w3 = (.int i3) := Option.some.inj ei3
  obtain ⟨hsets, -⟩ := atoms_of _ (rest_1_c_eq ▸ (show rest_1_c.before _ s = true from hrest))
  obtain ⟨cs, ecs⟩ := is_v (Cond.before_iff.mp (hsets _ (List.mem_of_getElem? (i := 1) rfl)))
  have S_CS : Sta s s.heap "java/lang/String" "COMPACT_STRINGS" "Z" (.int cs) := Sta.start ecs (Or.inl (hsets _ (List.mem_of_getElem? (i := 0) rfl)))
  have hcw := hsets _ (List.mem_of_getElem? (i := 2) rfl)
  have hcs : ¬ cs = (0 : Int32) := own_cs hcw ecs
  obtain ⟨fm, efm, hfr⟩ := isR_v (Cond.before_iff.mp (hsets _ (List.mem_of_getElem? (i := 8) rfl)))
  have S_FM : Sta s s.heap "jdk/internal/util/Preconditions" "SIOOBE_FORMATTER" "Ljava/util/function/BiFunction;" fm := Sta.start efm (Or.inl (hsets _ (List.mem_of_getElem? (i := 7) rfl)))
  have hfc : fm.category = 1 := by rcases ref_cases hfr with rfl | ⟨z, rfl⟩ <;> rfl
  obtain ⟨hheld, -⟩ := hcalls
  have hEL : EW s _ ownEL := EW.cons (hw _ (List.mem_of_getElem? (i := 110) rfl)) (by decide) EW.nil
  have hCH : CHv s ownEL s.vm s.heap := CHv.start hEL (fun p hp => by cases List.mem_singleton.mp hp; exact hheld _ (List.mem_cons_self ..)) hcw (hw _ (List.mem_of_getElem? (i := 15) rfl)) (hw _ (List.mem_of_getElem? (i := 41) rfl))
  obtain ⟨n, o, h1, h2, h3, _, L, rfl, ⟨rfl, N⟩, hq⟩ := rm0 l s _ hw tables_1 i0 i1 i2 i3 s.heap s.heap.size (Nat.le_refl _) cs S_CS hcs fm S_FM hfc hfr hEL rfl hCH rfl p e ha hc hk s m _ below hf ((Spec.applies_iff_loose hf).mp happ).1 ⟨rfl, rfl, rfl⟩ trivial
  refine ⟨n, _, h1, h2, h3, hpost _ _ _ _ _ _ ⟨Cond.after_iff.mpr rfl, Cond.after_iff.mpr (eq_i res_at (Term.int_eval (1)) rfl), trivial⟩ ⟨hq.1, hq.2.1, hq.2.2.1, (hq.2.2.2.sift fun y hy => Or.inr (N y hy)).mono (by decide) (by decide)⟩⟩
theorem main_1_1 : Claimed_1_1 := comes_1 fun _ _ _ _ _ _ h hF => ⟨h.1, hF⟩
theorem main_1_2 : Claimed_1_2 := comes_1 fun _ _ _ _ _ _ h hF => ⟨h.2.1, hF⟩
end Jvm.Pilot.@@N@@
namespace Jvm.Pilot.@@N@@
open Jvm Jvm.ClassFile Sem Op Lib Jvm.Free Jvm.Stand Jvm.Pilot.@@N@@.Jvm.D
/-! MADE BY PROGRAM (witnessworld.py) out of the Statement's table words and the real class files: 20 classes; the members and pool entries that the words name. The judged class is class 1, her method 3. -/
namespace start1
open Jvm.ClassFile
def u (s : String) : CpInfo := .utf8 (stringToUtf16 s)
/-- a pool by its gaps: so many unusable entries, then the entry; so many at the end -/
def gap : Nat → List CpInfo → List CpInfo
  | 0, r => r
  | n + 1, r => .unusable :: gap n r
def poolList (es : List (Nat × CpInfo)) (last : Nat) : List CpInfo := es.foldr (fun e r => gap e.1 (e.2 :: r)) (gap last [])
def pool (es : List (Nat × CpInfo)) (last : Nat) : Array CpInfo := ⟨poolList es last⟩
def fileOf (pool : Array CpInfo) (this : Nat) (attrs : Array Attribute := #[]) (ms : Array MethodInfo := #[]) (fl : Nat := 33) (sup : Nat := 0) (ifs : Array Nat := #[]) (fds : Array FieldInfo := #[]) : ClassFile where
  minorVersion := 0
  majorVersion := 65
  constantPool := pool
  accessFlags := fl
  thisClass := this
  superClass := sup
  interfaces := ifs
  fields := fds
  methods := ms
  attributes := attrs
def plain (name : String) (sup : Option ClassId) : Class where
  name := name
  kind := .ordinary
  loader := none
  accessFlags := 33
  super := sup
  interfaces := #[]
  cf := none
  fields := #[]
  methods := #[]
  instanceTypes := #[]
  staticTypes := #[]
  resolved := #[]
  callSites := []
  init := .initialized
  statics := none
  mirror := none

def pool0 : Array CpInfo := pool [(5, u "<init>"), (0, u "()V"), (1, .class_ 10), (1, u "java/lang/Object")] 113

def k0c0 : Code := { maxStack := 0, maxLocals := 1, code := object_method_1_code, exceptionTable := #[], attributes := #[] }
def k0m0 : Method := { name := "<init>", desc := "()V", sig := { parameters := [], returnType := none }, accessFlags := 1, code := some k0c0 }
/-- java/lang/Object -/
def k0 : Class := { plain "java/lang/Object" none with
  accessFlags := 33
  interfaces := #[]
  cf := some (fileOf pool0 8 #[] #[{ accessFlags := 1, nameIndex := 5, descriptorIndex := 6, attributes := #[] }] 33 0 #[] #[])
  fields := #[]
  methods := #[k0m0]
  instanceTypes := #[]
  staticTypes := #[]
  resolved := Array.replicate 124 none
  statics := none }

def pool1 : Array CpInfo := pool [(2, .class_ 4), (0, .nameAndType 5 6), (0, u "java/lang/Object"), (0, u "<init>"), (0, u "()V"), (0, .class_ 8), (0, u "java/lang/String"), (0, .methodref 7 10), (0, .nameAndType 5 11), (0, u "([C)V"), (0, .methodref 13 14), (0, .class_ 15), (0, .nameAndType 16 17), (0, u "com/example/lit2/lit2/weave/TexOutputDropFinalBreakPinLaw"), (0, u "pick"), (0, u "(I)C"), (0, .class_ 19), (0, u "com/example/lit2/lit2/weave/TexOutput"), (0, .methodref 18 3), (0, .methodref 18 22), (0, .nameAndType 23 24), (0, u "out"), (0, u "(C)V"), (0, .methodref 18 26), (0, .nameAndType 27 6), (0, u "dropFinalBreak"), (0, .methodref 18 29), (0, .nameAndType 30 31), (0, u "lineLength"), (0, u "()I"), (0, .methodref 13 33), (0, .nameAndType 34 35), (0, u "str"), (0, u "(I[C)Ljava/lang/String;"), (0, .methodref 18 37), (0, .nameAndType 38 39), (0, u "endsWith"), (0, u "(Ljava/lang/String;)Z"), (0, .methodref 18 41), (0, .nameAndType 42 31), (0, u "linesWritten"), (3, u "law"), (0, u "(IIII)Z")] 4

def k1m0 : Method := { name := "<init>", desc := "()V", sig := { parameters := [], returnType := none }, accessFlags := 1, code := none }
def k1c1 : Code := { maxStack := 2, maxLocals := 2, code := method_2_code, exceptionTable := #[], attributes := #[] }
def k1m1 : Method := { name := "pick", desc := "(I)C", sig := { parameters := [.int], returnType := some .char }, accessFlags := 10, code := some k1c1 }
def k1c2 : Code := { maxStack := 7, maxLocals := 2, code := method_3_code, exceptionTable := #[], attributes := #[] }
def k1m2 : Method := { name := "str", desc := "(I[C)Ljava/lang/String;", sig := { parameters := [.int, (.array .char)], returnType := some (.object "java/lang/String") }, accessFlags := 10, code := some k1c2 }
def k1c3 : Code := { maxStack := 4, maxLocals := 8, code := code, exceptionTable := #[], attributes := #[] }
def k1m3 : Method := { name := "law", desc := "(IIII)Z", sig := { parameters := [.int, .int, .int, .int], returnType := some .boolean }, accessFlags := 9, code := some k1c3 }
/-- com/example/lit2/lit2/weave/TexOutputDropFinalBreakPinLaw -/
def k1 : Class := { plain "com/example/lit2/lit2/weave/TexOutputDropFinalBreakPinLaw" (some 0) with
  accessFlags := 49
  interfaces := #[]
  cf := some (fileOf pool1 13 #[] #[{ accessFlags := 1, nameIndex := 5, descriptorIndex := 6, attributes := #[] }, { accessFlags := 10, nameIndex := 16, descriptorIndex := 17, attributes := #[] }, { accessFlags := 10, nameIndex := 34, descriptorIndex := 35, attributes := #[] }, { accessFlags := 9, nameIndex := 46, descriptorIndex := 47, attributes := #[] }] 49 2 #[] #[])
  fields := #[]
  methods := #[k1m0, k1m1, k1m2, k1m3]
  instanceTypes := #[]
  staticTypes := #[]
  resolved := Array.replicate 52 none
  statics := none }

def pool2 : Array CpInfo := pool [(1, .methodref 2 3), (0, .class_ 4), (0, .nameAndType 5 6), (0, u "java/lang/Object"), (0, u "<init>"), (0, u "()V"), (0, .integer 65536), (0, .fieldref 9 10), (0, .class_ 11), (0, .nameAndType 12 13), (0, u "com/example/lit2/lit2/weave/TexOutput"), (0, u "document"), (0, u "[B"), (0, .fieldref 9 15), (0, .nameAndType 16 13), (0, u "line"), (0, .fieldref 9 18), (0, .nameAndType 19 20), (0, u "length"), (0, u "I"), (3, .methodref 25 26), (0, .class_ 27), (0, .nameAndType 19 28), (0, u "java/lang/String"), (0, u "()I"), (6, u "out"), (3, u "(C)V"), (0, .methodref 25 41), (0, .nameAndType 42 43), (0, u "charAt"), (0, u "(I)C"), (18, .fieldref 9 63), (0, .nameAndType 64 20), (0, u "linesWritten"), (2, u "forcedCuts"), (9, u "documentLength"), (40, u "LINE_LENGTH"), (9, u "dropFinalBreak"), (0, u "endsWith"), (0, u "(Ljava/lang/String;)Z"), (0, u "lineLength")] 5

def k2c0 : Code := { maxStack := 2, maxLocals := 1, code := prog_135_method_1_code, exceptionTable := #[], attributes := #[] }
def k2m0 : Method := { name := "<init>", desc := "()V", sig := { parameters := [], returnType := none }, accessFlags := 0, code := some k2c0 }
def k2c1 : Code := { maxStack := 3, maxLocals := 2, code := prog_135_method_2_code, exceptionTable := #[], attributes := #[] }
def k2m1 : Method := { name := "out", desc := "(C)V", sig := { parameters := [.char], returnType := none }, accessFlags := 0, code := some k2c1 }
def k2c2 : Code := { maxStack := 3, maxLocals := 1, code := prog_135_method_9_code, exceptionTable := #[], attributes := #[] }
def k2m2 : Method := { name := "dropFinalBreak", desc := "()V", sig := { parameters := [], returnType := none }, accessFlags := 0, code := some k2c2 }
def k2c3 : Code := { maxStack := 3, maxLocals := 5, code := prog_135_method_10_code, exceptionTable := #[], attributes := #[] }
def k2m3 : Method := { name := "endsWith", desc := "(Ljava/lang/String;)Z", sig := { parameters := [(.object "java/lang/String")], returnType := some .boolean }, accessFlags := 0, code := some k2c3 }
def k2c4 : Code := { maxStack := 1, maxLocals := 1, code := prog_135_method_11_code, exceptionTable := #[], attributes := #[] }
def k2m4 : Method := { name := "linesWritten", desc := "()I", sig := { parameters := [], returnType := some .int }, accessFlags := 0, code := some k2c4 }
def k2c5 : Code := { maxStack := 1, maxLocals := 1, code := prog_135_method_12_code, exceptionTable := #[], attributes := #[] }
def k2m5 : Method := { name := "lineLength", desc := "()I", sig := { parameters := [], returnType := some .int }, accessFlags := 0, code := some k2c5 }
/-- com/example/lit2/lit2/weave/TexOutput -/
def k2 : Class := { plain "com/example/lit2/lit2/weave/TexOutput" (some 0) with
  accessFlags := 48
  interfaces := #[]
  cf := some (fileOf pool2 9 #[] #[{ accessFlags := 0, nameIndex := 5, descriptorIndex := 6, attributes := #[] }, { accessFlags := 0, nameIndex := 35, descriptorIndex := 39, attributes := #[] }, { accessFlags := 0, nameIndex := 128, descriptorIndex := 6, attributes := #[] }, { accessFlags := 0, nameIndex := 129, descriptorIndex := 130, attributes := #[] }, { accessFlags := 0, nameIndex := 64, descriptorIndex := 28, attributes := #[] }, { accessFlags := 0, nameIndex := 131, descriptorIndex := 28, attributes := #[] }] 48 2 #[] #[{ accessFlags := 24, nameIndex := 118, descriptorIndex := 20, attributes := #[] }, { accessFlags := 2, nameIndex := 12, descriptorIndex := 13, attributes := #[] }, { accessFlags := 2, nameIndex := 77, descriptorIndex := 20, attributes := #[] }, { accessFlags := 18, nameIndex := 16, descriptorIndex := 13, attributes := #[] }, { accessFlags := 2, nameIndex := 19, descriptorIndex := 20, attributes := #[] }, { accessFlags := 2, nameIndex := 64, descriptorIndex := 20, attributes := #[] }, { accessFlags := 2, nameIndex := 67, descriptorIndex := 20, attributes := #[] }])
  fields := #[{ name := "LINE_LENGTH", type := .int, accessFlags := 24, slot := 0, constantValue := 0 }, { name := "document", type := (.array .byte), accessFlags := 2, slot := 0, constantValue := 0 }, { name := "documentLength", type := .int, accessFlags := 2, slot := 1, constantValue := 0 }, { name := "line", type := (.array .byte), accessFlags := 18, slot := 2, constantValue := 0 }, { name := "length", type := .int, accessFlags := 2, slot := 3, constantValue := 0 }, { name := "linesWritten", type := .int, accessFlags := 2, slot := 4, constantValue := 0 }, { name := "forcedCuts", type := .int, accessFlags := 2, slot := 5, constantValue := 0 }]
  methods := #[k2m0, k2m1, k2m2, k2m3, k2m4, k2m5]
  instanceTypes := #[(.array .byte), .int, (.array .byte), .int, .int, .int]
  staticTypes := #[.int]
  resolved := Array.replicate 137 none
  statics := none }

def pool3 : Array CpInfo := pool [(1, .class_ 2), (0, u "java/io/Serializable"), (0, .class_ 4), (0, u "java/lang/Object")] 2

/-- java/io/Serializable -/
def k3 : Class := { plain "java/io/Serializable" (some 0) with
  accessFlags := 1537
  interfaces := #[]
  cf := some (fileOf pool3 1 #[] #[] 1537 3 #[] #[])
  fields := #[]
  methods := #[]
  instanceTypes := #[]
  staticTypes := #[]
  resolved := Array.replicate 7 none
  statics := none }

def pool4 : Array CpInfo := pool [(1, .class_ 2), (0, u "java/lang/Comparable"), (0, .class_ 4), (0, u "java/lang/Object")] 7

/-- java/lang/Comparable -/
def k4 : Class := { plain "java/lang/Comparable" (some 0) with
  accessFlags := 1537
  interfaces := #[]
  cf := some (fileOf pool4 1 #[] #[] 1537 3 #[] #[])
  fields := #[]
  methods := #[]
  instanceTypes := #[]
  staticTypes := #[]
  resolved := Array.replicate 12 none
  statics := none }

def pool5 : Array CpInfo := pool [(2, .class_ 4), (1, u "java/lang/CharSequence"), (42, .class_ 48), (0, u "java/lang/CharSequence$1CodePointIterator"), (10, .class_ 60), (0, u "java/lang/CharSequence$1CharIterator"), (5, .class_ 67), (0, u "java/lang/Object")] 63

/-- java/lang/CharSequence -/
def k5 : Class := { plain "java/lang/CharSequence" (some 0) with
  accessFlags := 1537
  interfaces := #[]
  cf := some (fileOf pool5 2 #[.nestMembers #[47, 59]] #[] 1537 66 #[] #[])
  fields := #[]
  methods := #[]
  instanceTypes := #[]
  staticTypes := #[]
  resolved := Array.replicate 131 none
  statics := none }

def pool6 : Array CpInfo := pool [(1, .class_ 2), (0, u "java/lang/constant/Constable"), (0, .class_ 4), (0, u "java/lang/Object")] 6

/-- java/lang/constant/Constable -/
def k6 : Class := { plain "java/lang/constant/Constable" (some 0) with
  accessFlags := 1537
  interfaces := #[]
  cf := some (fileOf pool6 1 #[] #[] 1537 3 #[] #[])
  fields := #[]
  methods := #[]
  instanceTypes := #[]
  staticTypes := #[]
  resolved := Array.replicate 11 none
  statics := none }

def pool7 : Array CpInfo := pool [(1, .class_ 2), (0, u "java/lang/constant/ConstantDesc"), (0, .class_ 4), (0, u "java/lang/Object")] 32

/-- java/lang/constant/ConstantDesc -/
def k7 : Class := { plain "java/lang/constant/ConstantDesc" (some 0) with
  accessFlags := 1537
  interfaces := #[]
  cf := some (fileOf pool7 1 #[] #[] 1537 3 #[] #[])
  fields := #[]
  methods := #[]
  instanceTypes := #[]
  staticTypes := #[]
  resolved := Array.replicate 37 none
  statics := none }

def pool8 : Array CpInfo := pool [(1, .methodref 2 3), (0, .class_ 4), (0, .nameAndType 5 6), (0, u "java/lang/Object"), (0, u "<init>"), (0, u "()V"), (0, .string 8), (0, u ""), (0, .fieldref 10 11), (0, .class_ 12), (0, .nameAndType 13 14), (0, u "java/lang/String"), (0, u "value"), (0, u "[B"), (0, .fieldref 10 16), (0, .nameAndType 17 18), (0, u "coder"), (0, u "B"), (2, u "hash"), (0, u "I"), (2, u "hashIsZero"), (0, u "Z"), (0, .methodref 10 28), (0, .nameAndType 5 29), (0, u "([CIILjava/lang/Void;)V"), (8, .fieldref 10 39), (0, .nameAndType 40 26), (0, u "COMPACT_STRINGS"), (1, .class_ 44), (1, u "java/lang/StringUTF16"), (0, u "compress"), (1, .methodref 42 48), (0, .nameAndType 49 50), (0, u "coderFromArrayLen"), (0, u "([BI)B"), (56, .class_ 109), (1, u "java/lang/StringLatin1"), (32, u "()Z"), (34, .methodref 42 178), (0, .nameAndType 45 179), (0, u "([CII)[B"), (154, u "()I"), (0, .methodref 10 336), (0, .nameAndType 17 337), (0, u "()B"), (25, u "([BI)C"), (27, u "(II)V"), (35, u "(I)C"), (64, .methodref 10 493), (0, .nameAndType 494 142), (0, u "isLatin1"), (0, .methodref 107 496), (0, .nameAndType 497 363), (0, u "charAt"), (3, u "checkIndex"), (5, u "length"), (67, .class_ 576), (0, u "java/lang/CharSequence"), (22, u "CASE_INSENSITIVE_ORDER"), (0, u "Ljava/util/Comparator;"), (409, u "([C)V"), (42, .fieldref 1054 1055), (0, .class_ 1056), (0, .nameAndType 1057 1058), (0, u "jdk/internal/util/Preconditions"), (0, u "SIOOBE_FORMATTER"), (0, u "Ljava/util/function/BiFunction;"), (0, .methodref 1054 1060), (0, .nameAndType 501 1061), (0, u "(IILjava/util/function/BiFunction;)I"), (39, u "serialPersistentFields"), (0, u "[Ljava/io/ObjectStreamField;"), (0, .class_ 1104), (0, u "java/lang/String$CaseInsensitiveComparator"), (1, .class_ 1107), (0, u "java/io/Serializable"), (0, .class_ 1109), (0, u "java/lang/Comparable"), (0, .class_ 1111), (0, u "java/lang/constant/Constable"), (0, .class_ 1113), (0, u "java/lang/constant/ConstantDesc"), (2, u "serialVersionUID"), (0, u "J"), (3, u "REPL"), (0, u "C"), (2, u "LATIN1"), (1, u "UTF16")] 323

def k8m0 : Method := { name := "<init>", desc := "()V", sig := { parameters := [], returnType := none }, accessFlags := 1, code := none }
def k8c1 : Code := { maxStack := 5, maxLocals := 2, code := jdk_42_method_3_code, exceptionTable := #[], attributes := #[] }
def k8m1 : Method := { name := "<init>", desc := "([C)V", sig := { parameters := [(.array .char)], returnType := none }, accessFlags := 1, code := some k8c1 }
def k8c2 : Code := { maxStack := 2, maxLocals := 1, code := jdk_42_method_54_code, exceptionTable := #[], attributes := #[] }
def k8m2 : Method := { name := "length", desc := "()I", sig := { parameters := [], returnType := some .int }, accessFlags := 1, code := some k8c2 }
def k8c3 : Code := { maxStack := 2, maxLocals := 2, code := jdk_42_method_56_code, exceptionTable := #[], attributes := #[] }
def k8m3 : Method := { name := "charAt", desc := "(I)C", sig := { parameters := [.int], returnType := some .char }, accessFlags := 1, code := some k8c3 }
def k8c4 : Code := { maxStack := 4, maxLocals := 6, code := jdk_42_method_149_code, exceptionTable := #[], attributes := #[] }
def k8m4 : Method := { name := "<init>", desc := "([CIILjava/lang/Void;)V", sig := { parameters := [(.array .char), .int, .int, (.object "java/lang/Void")], returnType := none }, accessFlags := 2, code := some k8c4 }
def k8c5 : Code := { maxStack := 1, maxLocals := 1, code := jdk_42_method_152_code, exceptionTable := #[], attributes := #[] }
def k8m5 : Method := { name := "coder", desc := "()B", sig := { parameters := [], returnType := some .byte }, accessFlags := 0, code := some k8c5 }
def k8c6 : Code := { maxStack := 1, maxLocals := 1, code := jdk_42_method_154_code, exceptionTable := #[], attributes := #[] }
def k8m6 : Method := { name := "isLatin1", desc := "()Z", sig := { parameters := [], returnType := some .boolean }, accessFlags := 0, code := some k8c6 }
def k8c7 : Code := { maxStack := 3, maxLocals := 2, code := jdk_42_method_155_code, exceptionTable := #[], attributes := #[] }
def k8m7 : Method := { name := "checkIndex", desc := "(II)V", sig := { parameters := [.int, .int], returnType := none }, accessFlags := 8, code := some k8c7 }
/-- java/lang/String -/
def k8 : Class := { plain "java/lang/String" (some 0) with
  accessFlags := 49
  interfaces := #[3, 4, 5, 6, 7]
  cf := some (fileOf pool8 10 #[.nestMembers #[1103]] #[{ accessFlags := 1, nameIndex := 5, descriptorIndex := 6, attributes := #[] }, { accessFlags := 1, nameIndex := 5, descriptorIndex := 1010, attributes := #[] }, { accessFlags := 1, nameIndex := 507, descriptorIndex := 334, attributes := #[] }, { accessFlags := 1, nameIndex := 497, descriptorIndex := 427, attributes := #[] }, { accessFlags := 2, nameIndex := 5, descriptorIndex := 29, attributes := #[] }, { accessFlags := 0, nameIndex := 17, descriptorIndex := 337, attributes := #[] }, { accessFlags := 0, nameIndex := 494, descriptorIndex := 142, attributes := #[] }, { accessFlags := 8, nameIndex := 501, descriptorIndex := 391, attributes := #[] }] 49 2 #[1106, 1108, 575, 1110, 1112] #[{ accessFlags := 18, nameIndex := 13, descriptorIndex := 14, attributes := #[] }, { accessFlags := 18, nameIndex := 17, descriptorIndex := 18, attributes := #[] }, { accessFlags := 2, nameIndex := 21, descriptorIndex := 22, attributes := #[] }, { accessFlags := 2, nameIndex := 25, descriptorIndex := 26, attributes := #[] }, { accessFlags := 26, nameIndex := 1116, descriptorIndex := 1117, attributes := #[] }, { accessFlags := 24, nameIndex := 40, descriptorIndex := 26, attributes := #[] }, { accessFlags := 26, nameIndex := 1101, descriptorIndex := 1102, attributes := #[] }, { accessFlags := 26, nameIndex := 1121, descriptorIndex := 1122, attributes := #[] }, { accessFlags := 25, nameIndex := 599, descriptorIndex := 600, attributes := #[] }, { accessFlags := 24, nameIndex := 1125, descriptorIndex := 18, attributes := #[] }, { accessFlags := 24, nameIndex := 1127, descriptorIndex := 18, attributes := #[] }])
  fields := #[{ name := "value", type := (.array .byte), accessFlags := 18, slot := 0, constantValue := 0 }, { name := "coder", type := .byte, accessFlags := 18, slot := 1, constantValue := 0 }, { name := "hash", type := .int, accessFlags := 2, slot := 2, constantValue := 0 }, { name := "hashIsZero", type := .boolean, accessFlags := 2, slot := 3, constantValue := 0 }, { name := "serialVersionUID", type := .long, accessFlags := 26, slot := 0, constantValue := 0 }, { name := "COMPACT_STRINGS", type := .boolean, accessFlags := 24, slot := 1, constantValue := 0 }, { name := "serialPersistentFields", type := (.array (.object "java/io/ObjectStreamField")), accessFlags := 26, slot := 2, constantValue := 0 }, { name := "REPL", type := .char, accessFlags := 26, slot := 3, constantValue := 0 }, { name := "CASE_INSENSITIVE_ORDER", type := (.object "java/util/Comparator"), accessFlags := 25, slot := 4, constantValue := 0 }, { name := "LATIN1", type := .byte, accessFlags := 24, slot := 5, constantValue := 0 }, { name := "UTF16", type := .byte, accessFlags := 24, slot := 6, constantValue := 0 }]
  methods := #[k8m0, k8m1, k8m2, k8m3, k8m4, k8m5, k8m6, k8m7]
  instanceTypes := #[(.array .byte), .byte, .int, .boolean]
  staticTypes := #[.long, .boolean, (.array (.object "java/io/ObjectStreamField")), .char, (.object "java/util/Comparator"), .byte, .byte]
  resolved := Array.replicate 1451 none
  statics := some 0 }

def pool9 : Array CpInfo := pool [(6, .class_ 8), (1, u "java/lang/Object"), (0, u "<init>"), (0, u "()V"), (1, .class_ 14), (1, u "java/lang/StringUTF16"), (31, u "$assertionsDisabled"), (0, u "Z"), (13, u "HI_BYTE_SHIFT"), (0, u "I"), (2, u "LO_BYTE_SHIFT"), (49, .methodref 12 116), (0, .nameAndType 117 118), (0, u "compress"), (0, u "([CI[BII)I"), (3, u "([CII)[B"), (138, u "coderFromArrayLen"), (0, u "([BI)B"), (106, .class_ 371), (1, u "java/lang/StringUTF16$LinesSpliterator"), (58, u "MAX_LENGTH"), (196, .class_ 628), (0, u "java/lang/StringUTF16$CodePointsSpliterator"), (0, .class_ 630), (0, u "java/lang/StringUTF16$CharsSpliterator")] 4

def k9m0 : Method := { name := "<init>", desc := "()V", sig := { parameters := [], returnType := none }, accessFlags := 0, code := none }
def k9c1 : Code := { maxStack := 2, maxLocals := 2, code := jdk_52_method_15_code, exceptionTable := #[], attributes := #[] }
def k9m1 : Method := { name := "coderFromArrayLen", desc := "([BI)B", sig := { parameters := [(.array .byte), .int], returnType := some .byte }, accessFlags := 8, code := some k9c1 }
def k9c2 : Code := { maxStack := 5, maxLocals := 6, code := jdk_52_method_16_code, exceptionTable := #[], attributes := #[] }
def k9m2 : Method := { name := "compress", desc := "([CII)[B", sig := { parameters := [(.array .char), .int, .int], returnType := some (.array .byte) }, accessFlags := 9, code := some k9c2 }
def k9c3 : Code := { maxStack := 3, maxLocals := 7, code := jdk_52_method_21_code, exceptionTable := #[], attributes := #[] }
def k9m3 : Method := { name := "compress", desc := "([CI[BII)I", sig := { parameters := [(.array .char), .int, (.array .byte), .int, .int], returnType := some .int }, accessFlags := 9, code := some k9c3 }
/-- java/lang/StringUTF16 -/
def k9 : Class := { plain "java/lang/StringUTF16" (some 0) with
  accessFlags := 48
  interfaces := #[]
  cf := some (fileOf pool9 12 #[.nestMembers #[627, 629, 369]] #[{ accessFlags := 0, nameIndex := 9, descriptorIndex := 10, attributes := #[] }, { accessFlags := 8, nameIndex := 261, descriptorIndex := 262, attributes := #[] }, { accessFlags := 9, nameIndex := 117, descriptorIndex := 122, attributes := #[] }, { accessFlags := 9, nameIndex := 117, descriptorIndex := 118, attributes := #[] }] 48 6 #[] #[{ accessFlags := 26, nameIndex := 61, descriptorIndex := 62, attributes := #[] }, { accessFlags := 26, nameIndex := 65, descriptorIndex := 62, attributes := #[] }, { accessFlags := 24, nameIndex := 430, descriptorIndex := 62, attributes := #[] }, { accessFlags := 4120, nameIndex := 46, descriptorIndex := 47, attributes := #[] }])
  fields := #[{ name := "HI_BYTE_SHIFT", type := .int, accessFlags := 26, slot := 0, constantValue := 0 }, { name := "LO_BYTE_SHIFT", type := .int, accessFlags := 26, slot := 1, constantValue := 0 }, { name := "MAX_LENGTH", type := .int, accessFlags := 24, slot := 2, constantValue := 0 }, { name := "$assertionsDisabled", type := .boolean, accessFlags := 4120, slot := 3, constantValue := 0 }]
  methods := #[k9m0, k9m1, k9m2, k9m3]
  instanceTypes := #[]
  staticTypes := #[.int, .int, .int, .boolean]
  resolved := Array.replicate 635 none
  statics := none }

def pool10 : Array CpInfo := pool [(1, .class_ 2), (0, u "java/lang/String"), (1, .class_ 6), (1, u "java/lang/Object"), (0, u "<init>"), (0, u "()V"), (0, .methodref 1 10), (0, .nameAndType 11 12), (0, u "checkIndex"), (0, u "(II)V"), (1, .class_ 16), (1, u "java/lang/StringLatin1"), (36, u "([BI)C"), (67, u "$assertionsDisabled"), (0, u "Z"), (98, .class_ 223), (1, u "java/lang/StringLatin1$LinesSpliterator"), (28, u "charAt"), (137, .class_ 391), (0, u "java/lang/StringLatin1$CharsSpliterator")] 3

def k10m0 : Method := { name := "<init>", desc := "()V", sig := { parameters := [], returnType := none }, accessFlags := 0, code := none }
def k10c1 : Code := { maxStack := 2, maxLocals := 2, code := jdk_43_method_2_code, exceptionTable := #[], attributes := #[] }
def k10m1 : Method := { name := "charAt", desc := "([BI)C", sig := { parameters := [(.array .byte), .int], returnType := some .char }, accessFlags := 9, code := some k10c1 }
/-- java/lang/StringLatin1 -/
def k10 : Class := { plain "java/lang/StringLatin1" (some 0) with
  accessFlags := 48
  interfaces := #[]
  cf := some (fileOf pool10 14 #[.nestMembers #[390, 221]] #[{ accessFlags := 0, nameIndex := 7, descriptorIndex := 8, attributes := #[] }, { accessFlags := 9, nameIndex := 252, descriptorIndex := 53, attributes := #[] }] 48 4 #[] #[{ accessFlags := 4120, nameIndex := 121, descriptorIndex := 122, attributes := #[] }])
  fields := #[{ name := "$assertionsDisabled", type := .boolean, accessFlags := 4120, slot := 0, constantValue := 0 }]
  methods := #[k10m0, k10m1]
  instanceTypes := #[]
  staticTypes := #[.boolean]
  resolved := Array.replicate 395 none
  statics := none }

def pool11 : Array CpInfo := pool [(2, .class_ 4), (1, u "java/lang/Object"), (0, u "<init>"), (0, u "()V"), (17, .class_ 26), (1, u "jdk/internal/util/Preconditions"), (6, u "checkIndex"), (21, .class_ 56), (0, u "jdk/internal/util/Preconditions$4"), (57, .class_ 115), (0, u "jdk/internal/util/Preconditions$1"), (7, u "SIOOBE_FORMATTER"), (0, u "Ljava/util/function/BiFunction;"), (0, .class_ 126), (0, u "jdk/internal/util/Preconditions$2"), (3, u "AIOOBE_FORMATTER"), (0, .class_ 132), (0, u "jdk/internal/util/Preconditions$3"), (3, u "IOOBE_FORMATTER"), (41, u "(IILjava/util/function/BiFunction;)I")] 15

def k11m0 : Method := { name := "<init>", desc := "()V", sig := { parameters := [], returnType := none }, accessFlags := 1, code := none }
def k11c1 : Code := { maxStack := 3, maxLocals := 3, code := jdk_41_method_11_code, exceptionTable := #[], attributes := #[] }
def k11m1 : Method := { name := "checkIndex", desc := "(IILjava/util/function/BiFunction;)I", sig := { parameters := [.int, .int, (.object "java/util/function/BiFunction")], returnType := some .int }, accessFlags := 9, code := some k11c1 }
/-- jdk/internal/util/Preconditions -/
def k11 : Class := { plain "jdk/internal/util/Preconditions" (some 0) with
  accessFlags := 33
  interfaces := #[]
  cf := some (fileOf pool11 24 #[.nestMembers #[55, 131, 125, 114]] #[{ accessFlags := 1, nameIndex := 5, descriptorIndex := 6, attributes := #[] }, { accessFlags := 9, nameIndex := 33, descriptorIndex := 178, attributes := #[] }] 33 2 #[] #[{ accessFlags := 25, nameIndex := 123, descriptorIndex := 124, attributes := #[] }, { accessFlags := 25, nameIndex := 130, descriptorIndex := 124, attributes := #[] }, { accessFlags := 25, nameIndex := 136, descriptorIndex := 124, attributes := #[] }])
  fields := #[{ name := "SIOOBE_FORMATTER", type := (.object "java/util/function/BiFunction"), accessFlags := 25, slot := 0, constantValue := 0 }, { name := "AIOOBE_FORMATTER", type := (.object "java/util/function/BiFunction"), accessFlags := 25, slot := 1, constantValue := 0 }, { name := "IOOBE_FORMATTER", type := (.object "java/util/function/BiFunction"), accessFlags := 25, slot := 2, constantValue := 0 }]
  methods := #[k11m0, k11m1]
  instanceTypes := #[]
  staticTypes := #[(.object "java/util/function/BiFunction"), (.object "java/util/function/BiFunction"), (.object "java/util/function/BiFunction")]
  resolved := Array.replicate 194 none
  statics := some 1 }

def pool12 : Array CpInfo := pool [(9, u "<init>"), (6, .class_ 18), (1, u "java/lang/Object"), (0, u "()V"), (1, .class_ 23), (1, u "jdk/internal/util/ArraysSupport"), (0, u "LOG2_ARRAY_LONG_INDEX_SCALE"), (0, u "I"), (2, u "U"), (0, u "Ljdk/internal/misc/Unsafe;"), (8, u "BIG_ENDIAN"), (0, u "Z"), (8, u "LOG2_BYTE_BIT_SIZE"), (4, u "LOG2_ARRAY_INT_INDEX_SCALE"), (54, u "JLA"), (0, u "Ljdk/internal/access/JavaLangAccess;"), (11, u "LOG2_ARRAY_BOOLEAN_INDEX_SCALE"), (9, u "LOG2_ARRAY_BYTE_INDEX_SCALE"), (5, u "LOG2_ARRAY_CHAR_INDEX_SCALE"), (5, u "LOG2_ARRAY_SHORT_INDEX_SCALE"), (18, u "LOG2_ARRAY_FLOAT_INDEX_SCALE"), (24, u "LOG2_ARRAY_DOUBLE_INDEX_SCALE"), (89, u "T_BOOLEAN"), (2, u "T_CHAR"), (1, u "T_FLOAT"), (1, u "T_DOUBLE"), (1, u "T_BYTE"), (1, u "T_SHORT"), (1, u "T_INT"), (1, u "T_LONG"), (1, u "SOFT_MAX_ARRAY_LENGTH")] 83

def k12m0 : Method := { name := "<init>", desc := "()V", sig := { parameters := [], returnType := none }, accessFlags := 2, code := none }
/-- jdk/internal/util/ArraysSupport -/
def k12 : Class := { plain "jdk/internal/util/ArraysSupport" (some 0) with
  accessFlags := 33
  interfaces := #[]
  cf := some (fileOf pool12 21 #[] #[{ accessFlags := 2, nameIndex := 9, descriptorIndex := 19, attributes := #[] }] 33 16 #[] #[{ accessFlags := 24, nameIndex := 28, descriptorIndex := 29, attributes := #[] }, { accessFlags := 26, nameIndex := 38, descriptorIndex := 39, attributes := #[] }, { accessFlags := 25, nameIndex := 121, descriptorIndex := 25, attributes := #[] }, { accessFlags := 25, nameIndex := 131, descriptorIndex := 25, attributes := #[] }, { accessFlags := 25, nameIndex := 137, descriptorIndex := 25, attributes := #[] }, { accessFlags := 25, nameIndex := 143, descriptorIndex := 25, attributes := #[] }, { accessFlags := 25, nameIndex := 53, descriptorIndex := 25, attributes := #[] }, { accessFlags := 25, nameIndex := 24, descriptorIndex := 25, attributes := #[] }, { accessFlags := 25, nameIndex := 162, descriptorIndex := 25, attributes := #[] }, { accessFlags := 25, nameIndex := 187, descriptorIndex := 25, attributes := #[] }, { accessFlags := 26, nameIndex := 48, descriptorIndex := 25, attributes := #[] }, { accessFlags := 25, nameIndex := 277, descriptorIndex := 25, attributes := #[] }, { accessFlags := 25, nameIndex := 280, descriptorIndex := 25, attributes := #[] }, { accessFlags := 25, nameIndex := 282, descriptorIndex := 25, attributes := #[] }, { accessFlags := 25, nameIndex := 284, descriptorIndex := 25, attributes := #[] }, { accessFlags := 25, nameIndex := 286, descriptorIndex := 25, attributes := #[] }, { accessFlags := 25, nameIndex := 288, descriptorIndex := 25, attributes := #[] }, { accessFlags := 25, nameIndex := 290, descriptorIndex := 25, attributes := #[] }, { accessFlags := 25, nameIndex := 292, descriptorIndex := 25, attributes := #[] }, { accessFlags := 26, nameIndex := 108, descriptorIndex := 109, attributes := #[] }, { accessFlags := 25, nameIndex := 294, descriptorIndex := 25, attributes := #[] }])
  fields := #[{ name := "U", type := (.object "jdk/internal/misc/Unsafe"), accessFlags := 24, slot := 0, constantValue := 0 }, { name := "BIG_ENDIAN", type := .boolean, accessFlags := 26, slot := 1, constantValue := 0 }, { name := "LOG2_ARRAY_BOOLEAN_INDEX_SCALE", type := .int, accessFlags := 25, slot := 2, constantValue := 0 }, { name := "LOG2_ARRAY_BYTE_INDEX_SCALE", type := .int, accessFlags := 25, slot := 3, constantValue := 0 }, { name := "LOG2_ARRAY_CHAR_INDEX_SCALE", type := .int, accessFlags := 25, slot := 4, constantValue := 0 }, { name := "LOG2_ARRAY_SHORT_INDEX_SCALE", type := .int, accessFlags := 25, slot := 5, constantValue := 0 }, { name := "LOG2_ARRAY_INT_INDEX_SCALE", type := .int, accessFlags := 25, slot := 6, constantValue := 0 }, { name := "LOG2_ARRAY_LONG_INDEX_SCALE", type := .int, accessFlags := 25, slot := 7, constantValue := 0 }, { name := "LOG2_ARRAY_FLOAT_INDEX_SCALE", type := .int, accessFlags := 25, slot := 8, constantValue := 0 }, { name := "LOG2_ARRAY_DOUBLE_INDEX_SCALE", type := .int, accessFlags := 25, slot := 9, constantValue := 0 }, { name := "LOG2_BYTE_BIT_SIZE", type := .int, accessFlags := 26, slot := 10, constantValue := 0 }, { name := "T_BOOLEAN", type := .int, accessFlags := 25, slot := 11, constantValue := 0 }, { name := "T_CHAR", type := .int, accessFlags := 25, slot := 12, constantValue := 0 }, { name := "T_FLOAT", type := .int, accessFlags := 25, slot := 13, constantValue := 0 }, { name := "T_DOUBLE", type := .int, accessFlags := 25, slot := 14, constantValue := 0 }, { name := "T_BYTE", type := .int, accessFlags := 25, slot := 15, constantValue := 0 }, { name := "T_SHORT", type := .int, accessFlags := 25, slot := 16, constantValue := 0 }, { name := "T_INT", type := .int, accessFlags := 25, slot := 17, constantValue := 0 }, { name := "T_LONG", type := .int, accessFlags := 25, slot := 18, constantValue := 0 }, { name := "JLA", type := (.object "jdk/internal/access/JavaLangAccess"), accessFlags := 26, slot := 19, constantValue := 0 }, { name := "SOFT_MAX_ARRAY_LENGTH", type := .int, accessFlags := 25, slot := 20, constantValue := 0 }]
  methods := #[k12m0]
  instanceTypes := #[]
  staticTypes := #[(.object "jdk/internal/misc/Unsafe"), .boolean, .int, .int, .int, .int, .int, .int, .int, .int, .int, .int, .int, .int, .int, .int, .int, .int, .int, (.object "jdk/internal/access/JavaLangAccess"), .int]
  resolved := Array.replicate 378 none
  statics := none }

def pool13 : Array CpInfo := pool [(1, u "java/lang/Cloneable"), (0, .class_ 1), (0, u "java/lang/Object"), (0, .class_ 3)] 3

/-- java/lang/Cloneable -/
def k13 : Class := { plain "java/lang/Cloneable" (some 0) with
  accessFlags := 1537
  interfaces := #[]
  cf := some (fileOf pool13 2 #[] #[] 1537 4 #[] #[])
  fields := #[]
  methods := #[]
  instanceTypes := #[]
  staticTypes := #[]
  resolved := Array.replicate 8 none
  statics := none }

/-- the primitive byte -/
def k14 : Class := { plain "byte" none with kind := .primitive 'B', accessFlags := 0x411 }
/-- [B -/
def k15 : Class := { plain "[B" (some 0) with kind := .array 14 .byte, interfaces := #[13, 3], accessFlags := 1041 }

/-- the primitive char -/
def k16 : Class := { plain "char" none with kind := .primitive 'C', accessFlags := 0x411 }
/-- [C -/
def k17 : Class := { plain "[C" (some 0) with kind := .array 16 .char, interfaces := #[13, 3], accessFlags := 1041 }

/-- the primitive int -/
def k18 : Class := { plain "int" none with kind := .primitive 'I', accessFlags := 0x411 }
/-- [I -/
def k19 : Class := { plain "[I" (some 0) with kind := .array 18 .int, interfaces := #[13, 3], accessFlags := 1041 }

def heap : Heap := #[{ cls := 8, slots := #[.long 0, .int 1, .null, .int 0, .null, .int 0, .int 0], vm := .statics 8 },
  { cls := 11, slots := #[.null, .null, .null], vm := .statics 11 }]
def classes : Array Class := #[k0, k1, k2, k3, k4, k5, k6, k7, k8, k9, k10, k11, k12, k13, k14, k15, k16, k17, k18, k19]
def interned : List (Array UInt16 × Addr) := []
def slotsUsed : Nat := 10
def theMethod : MethodId := ⟨1, 3⟩
def args0 : Array Value := #[.int 5, .int 6, .int 7, .int 3]
def aboutOver (below : List Frame) : State where
  vm := { classes := classes, interned := interned.toArray }
  heap := heap
  slotsUsed := slotsUsed
  threads := #[{ frames := .invoking theMethod args0 :: below }]
def below0 : List Frame := [.native { method := ⟨0, 0⟩, args := #[] }]
def about1 : State := aboutOver below0
def p0 : Program := .bare "" "" ""
def e0 : Env := launch0.env 0 0 0
theorem w_frames : about1.frames = Frame.invoking theMethod args0 :: below0 := rfl
set_option maxRecDepth 65536 in
theorem w_args : argsFit about1.vm theMethod args0 = true := by decide +kernel
set_option maxRecDepth 65536 in
theorem w_heap : heapFits about1 = true := by decide +kernel
set_option maxRecDepth 65536 in
theorem w_runnable : about1.curStatus? = some .runnable := by decide +kernel
set_option maxRecDepth 65536 in
theorem w_alone : about1.alone = true := by decide +kernel
set_option maxRecDepth 65536 in
theorem w_named : about1.methodNamed? x = some theMethod := by decide +kernel
set_option maxRecDepth 65536 in
theorem w_hears : about1.hears theMethod below0 = true := by decide +kernel
set_option maxRecDepth 65536 in
theorem w_ripe : about1.ripe theMethod args0 below0 = true := by decide +kernel
theorem w_running : about1.status = .running := rfl
set_option maxRecDepth 65536 in
theorem w_room : about1.hasRoom e0.platform room_1 = true :=
  launch0.hasRoom_least _ room_1 (by decide +kernel) (by decide +kernel) (by decide +kernel) (by decide +kernel) (by decide +kernel) (by decide +kernel)
theorem allAtoms_all (ts : List Jvm.Cond) (a : Array Jvm.Value) (st : Jvm.State) : (allAtoms ts).before a st = ts.all (fun c => c.before a st) := by
  induction ts with
  | nil => rfl
  | cons c t ih =>
    show (Jvm.Cond.and c (allAtoms t)).before a st = _
    rw [Jvm.Cond.before_and, ih, List.all_cons]
def words1 : List Jvm.Cond := Jvm.Cond.code x code maxLocals ret :: tables_1
/-- a 'code' word, met by the world's own term for the bytes: nothing is compared byte by byte -/
theorem code_word {y : MethodName} {bytes : ByteArray} {mx : Nat} {rt : Option FieldType} {a : Array Value} {s : State} {m : MethodId} {meth : Method} {c : Code} (h1 : s.methodNamed? y = some m) (h2 : s.vm.method? m = some meth) (h3 : meth.code = some c) (h4 : c.code = bytes)
    (h5 : (c.maxLocals == mx && c.exceptionTable.isEmpty && decide (c.maxStack ≤ mostOperands) && decide (meth.sig.returnType = rt) && !meth.locks && decide (parseMethodDescriptor y.desc = some meth.sig)) = true) : (Jvm.Cond.code y bytes mx rt).before a s = true := by
  simp only [Bool.and_eq_true, beq_iff_eq, Bool.not_eq_true', decide_eq_true_eq] at h5
  obtain ⟨⟨⟨⟨⟨g1, g2⟩, g3⟩, g4⟩, g5⟩, g6⟩ := h5
  simp [Cond.before, Cond.holds, Cond.value, h1, h2, h3, h4, g1, g2, g3, g4, g5, g6]
def isCode : Jvm.Cond → Bool
  | .code _ _ _ _ => true
  | _ => false
theorem all_split {L : List Jvm.Cond} {P : Jvm.Cond → Bool} (h1 : L.all (fun c => isCode c || P c) = true) (h2 : ∀ c ∈ L.filter isCode, P c = true) : L.all P = true := by
  refine List.all_eq_true.mpr fun c hc => ?_
  have h := List.all_eq_true.mp h1 c hc
  rcases Bool.eq_false_or_eq_true (isCode c) with hi | hi
  · exact h2 c (List.mem_filter.mpr ⟨hc, hi⟩)
  · simpa [hi] using h
set_option maxRecDepth 65536 in
theorem w_c0 : (Jvm.Cond.code x code maxLocals ret).before args0 about1 = true := code_word (m := ⟨1, 3⟩) (meth := k1m3) (c := k1c3) (by decide +kernel) rfl rfl rfl (by decide +kernel)
set_option maxRecDepth 65536 in
theorem w_c1 : (Jvm.Cond.code ({ cls := "com/example/lit2/lit2/weave/TexOutputDropFinalBreakPinLaw", name := "pick", desc := "(I)C" } : Jvm.MethodName) method_2_code (2 : Nat) (Option.some Jvm.ClassFile.FieldType.char)).before args0 about1 = true := code_word (m := ⟨1, 1⟩) (meth := k1m1) (c := k1c1) (by decide +kernel) rfl rfl rfl (by decide +kernel)
set_option maxRecDepth 65536 in
theorem w_c2 : (Jvm.Cond.code ({ cls := "com/example/lit2/lit2/weave/TexOutput", name := "<init>", desc := "()V" } : Jvm.MethodName) prog_135_method_1_code (1 : Nat) (Option.none : Option Jvm.ClassFile.FieldType)).before args0 about1 = true := code_word (m := ⟨2, 0⟩) (meth := k2m0) (c := k2c0) (by decide +kernel) rfl rfl rfl (by decide +kernel)
set_option maxRecDepth 65536 in
theorem w_c3 : (Jvm.Cond.code ({ cls := "java/lang/Object", name := "<init>", desc := "()V" } : Jvm.MethodName) object_method_1_code (1 : Nat) (Option.none : Option Jvm.ClassFile.FieldType)).before args0 about1 = true := code_word (m := ⟨0, 0⟩) (meth := k0m0) (c := k0c0) (by decide +kernel) rfl rfl rfl (by decide +kernel)
set_option maxRecDepth 65536 in
theorem w_c4 : (Jvm.Cond.code ({ cls := "com/example/lit2/lit2/weave/TexOutput", name := "out", desc := "(C)V" } : Jvm.MethodName) prog_135_method_2_code (2 : Nat) (Option.none : Option Jvm.ClassFile.FieldType)).before args0 about1 = true := code_word (m := ⟨2, 1⟩) (meth := k2m1) (c := k2c1) (by decide +kernel) rfl rfl rfl (by decide +kernel)
set_option maxRecDepth 65536 in
theorem w_c5 : (Jvm.Cond.code ({ cls := "com/example/lit2/lit2/weave/TexOutput", name := "dropFinalBreak", desc := "()V" } : Jvm.MethodName) prog_135_method_9_code (1 : Nat) (Option.none : Option Jvm.ClassFile.FieldType)).before args0 about1 = true := code_word (m := ⟨2, 2⟩) (meth := k2m2) (c := k2c2) (by decide +kernel) rfl rfl rfl (by decide +kernel)
set_option maxRecDepth 65536 in
theorem w_c6 : (Jvm.Cond.code ({ cls := "com/example/lit2/lit2/weave/TexOutput", name := "lineLength", desc := "()I" } : Jvm.MethodName) prog_135_method_12_code (1 : Nat) (Option.some Jvm.ClassFile.FieldType.int)).before args0 about1 = true := code_word (m := ⟨2, 5⟩) (meth := k2m5) (c := k2c5) (by decide +kernel) rfl rfl rfl (by decide +kernel)
set_option maxRecDepth 65536 in
theorem w_c7 : (Jvm.Cond.code ({ cls := "com/example/lit2/lit2/weave/TexOutputDropFinalBreakPinLaw", name := "str", desc := "(I[C)Ljava/lang/String;" } : Jvm.MethodName) method_3_code (2 : Nat) (Option.some (Jvm.ClassFile.FieldType.object "java/lang/String"))).before args0 about1 = true := code_word (m := ⟨1, 2⟩) (meth := k1m2) (c := k1c2) (by decide +kernel) rfl rfl rfl (by decide +kernel)
set_option maxRecDepth 65536 in
theorem w_c8 : (Jvm.Cond.code ({ cls := "java/lang/String", name := "<init>", desc := "([C)V" } : Jvm.MethodName) jdk_42_method_3_code (2 : Nat) (Option.none : Option Jvm.ClassFile.FieldType)).before args0 about1 = true := code_word (m := ⟨8, 1⟩) (meth := k8m1) (c := k8c1) (by decide +kernel) rfl rfl rfl (by decide +kernel)
set_option maxRecDepth 65536 in
theorem w_c9 : (Jvm.Cond.code ({ cls := "java/lang/String", name := "<init>", desc := "([CIILjava/lang/Void;)V" } : Jvm.MethodName) jdk_42_method_149_code (6 : Nat) (Option.none : Option Jvm.ClassFile.FieldType)).before args0 about1 = true := code_word (m := ⟨8, 4⟩) (meth := k8m4) (c := k8c4) (by decide +kernel) rfl rfl rfl (by decide +kernel)
set_option maxRecDepth 65536 in
theorem w_c10 : (Jvm.Cond.code ({ cls := "java/lang/StringUTF16", name := "compress", desc := "([CII)[B" } : Jvm.MethodName) jdk_52_method_16_code (6 : Nat) (Option.some (Jvm.ClassFile.FieldType.array Jvm.ClassFile.FieldType.byte))).before args0 about1 = true := code_word (m := ⟨9, 2⟩) (meth := k9m2) (c := k9c2) (by decide +kernel) rfl rfl rfl (by decide +kernel)
set_option maxRecDepth 65536 in
theorem w_c11 : (Jvm.Cond.code ({ cls := "java/lang/StringUTF16", name := "compress", desc := "([CI[BII)I" } : Jvm.MethodName) jdk_52_method_21_code (7 : Nat) (Option.some Jvm.ClassFile.FieldType.int)).before args0 about1 = true := code_word (m := ⟨9, 3⟩) (meth := k9m3) (c := k9c3) (by decide +kernel) rfl rfl rfl (by decide +kernel)
set_option maxRecDepth 65536 in
theorem w_c12 : (Jvm.Cond.code ({ cls := "java/lang/StringUTF16", name := "coderFromArrayLen", desc := "([BI)B" } : Jvm.MethodName) jdk_52_method_15_code (2 : Nat) (Option.some Jvm.ClassFile.FieldType.byte)).before args0 about1 = true := code_word (m := ⟨9, 1⟩) (meth := k9m1) (c := k9c1) (by decide +kernel) rfl rfl rfl (by decide +kernel)
set_option maxRecDepth 65536 in
theorem w_c13 : (Jvm.Cond.code ({ cls := "com/example/lit2/lit2/weave/TexOutput", name := "endsWith", desc := "(Ljava/lang/String;)Z" } : Jvm.MethodName) prog_135_method_10_code (5 : Nat) (Option.some Jvm.ClassFile.FieldType.boolean)).before args0 about1 = true := code_word (m := ⟨2, 3⟩) (meth := k2m3) (c := k2c3) (by decide +kernel) rfl rfl rfl (by decide +kernel)
set_option maxRecDepth 65536 in
theorem w_c14 : (Jvm.Cond.code ({ cls := "java/lang/String", name := "length", desc := "()I" } : Jvm.MethodName) jdk_42_method_54_code (1 : Nat) (Option.some Jvm.ClassFile.FieldType.int)).before args0 about1 = true := code_word (m := ⟨8, 2⟩) (meth := k8m2) (c := k8c2) (by decide +kernel) rfl rfl rfl (by decide +kernel)
set_option maxRecDepth 65536 in
theorem w_c15 : (Jvm.Cond.code ({ cls := "java/lang/String", name := "coder", desc := "()B" } : Jvm.MethodName) jdk_42_method_152_code (1 : Nat) (Option.some Jvm.ClassFile.FieldType.byte)).before args0 about1 = true := code_word (m := ⟨8, 5⟩) (meth := k8m5) (c := k8c5) (by decide +kernel) rfl rfl rfl (by decide +kernel)
set_option maxRecDepth 65536 in
theorem w_c16 : (Jvm.Cond.code ({ cls := "java/lang/String", name := "charAt", desc := "(I)C" } : Jvm.MethodName) jdk_42_method_56_code (2 : Nat) (Option.some Jvm.ClassFile.FieldType.char)).before args0 about1 = true := code_word (m := ⟨8, 3⟩) (meth := k8m3) (c := k8c3) (by decide +kernel) rfl rfl rfl (by decide +kernel)
set_option maxRecDepth 65536 in
theorem w_c17 : (Jvm.Cond.code ({ cls := "java/lang/String", name := "isLatin1", desc := "()Z" } : Jvm.MethodName) jdk_42_method_154_code (1 : Nat) (Option.some Jvm.ClassFile.FieldType.boolean)).before args0 about1 = true := code_word (m := ⟨8, 6⟩) (meth := k8m6) (c := k8c6) (by decide +kernel) rfl rfl rfl (by decide +kernel)
set_option maxRecDepth 65536 in
theorem w_c18 : (Jvm.Cond.code ({ cls := "java/lang/StringLatin1", name := "charAt", desc := "([BI)C" } : Jvm.MethodName) jdk_43_method_2_code (2 : Nat) (Option.some Jvm.ClassFile.FieldType.char)).before args0 about1 = true := code_word (m := ⟨10, 1⟩) (meth := k10m1) (c := k10c1) (by decide +kernel) rfl rfl rfl (by decide +kernel)
set_option maxRecDepth 65536 in
theorem w_c19 : (Jvm.Cond.code ({ cls := "java/lang/String", name := "checkIndex", desc := "(II)V" } : Jvm.MethodName) jdk_42_method_155_code (2 : Nat) (Option.none : Option Jvm.ClassFile.FieldType)).before args0 about1 = true := code_word (m := ⟨8, 7⟩) (meth := k8m7) (c := k8c7) (by decide +kernel) rfl rfl rfl (by decide +kernel)
set_option maxRecDepth 65536 in
theorem w_c20 : (Jvm.Cond.code ({ cls := "jdk/internal/util/Preconditions", name := "checkIndex", desc := "(IILjava/util/function/BiFunction;)I" } : Jvm.MethodName) jdk_41_method_11_code (3 : Nat) (Option.some Jvm.ClassFile.FieldType.int)).before args0 about1 = true := code_word (m := ⟨11, 1⟩) (meth := k11m1) (c := k11c1) (by decide +kernel) rfl rfl rfl (by decide +kernel)
set_option maxRecDepth 65536 in
theorem w_c21 : (Jvm.Cond.code ({ cls := "com/example/lit2/lit2/weave/TexOutput", name := "linesWritten", desc := "()I" } : Jvm.MethodName) prog_135_method_11_code (1 : Nat) (Option.some Jvm.ClassFile.FieldType.int)).before args0 about1 = true := code_word (m := ⟨2, 4⟩) (meth := k2m4) (c := k2c4) (by decide +kernel) rfl rfl rfl (by decide +kernel)
def codes1 : List Jvm.Cond := [Jvm.Cond.code x code maxLocals ret, Jvm.Cond.code ({ cls := "com/example/lit2/lit2/weave/TexOutputDropFinalBreakPinLaw", name := "pick", desc := "(I)C" } : Jvm.MethodName) method_2_code (2 : Nat) (Option.some Jvm.ClassFile.FieldType.char), Jvm.Cond.code ({ cls := "com/example/lit2/lit2/weave/TexOutput", name := "<init>", desc := "()V" } : Jvm.MethodName) prog_135_method_1_code (1 : Nat) (Option.none : Option Jvm.ClassFile.FieldType), Jvm.Cond.code ({ cls := "java/lang/Object", name := "<init>", desc := "()V" } : Jvm.MethodName) object_method_1_code (1 : Nat) (Option.none : Option Jvm.ClassFile.FieldType), Jvm.Cond.code ({ cls := "com/example/lit2/lit2/weave/TexOutput", name := "out", desc := "(C)V" } : Jvm.MethodName) prog_135_method_2_code (2 : Nat) (Option.none : Option Jvm.ClassFile.FieldType), Jvm.Cond.code ({ cls := "com/example/lit2/lit2/weave/TexOutput", name := "dropFinalBreak", desc := "()V" } : Jvm.MethodName) prog_135_method_9_code (1 : Nat) (Option.none : Option Jvm.ClassFile.FieldType), Jvm.Cond.code ({ cls := "com/example/lit2/lit2/weave/TexOutput", name := "lineLength", desc := "()I" } : Jvm.MethodName) prog_135_method_12_code (1 : Nat) (Option.some Jvm.ClassFile.FieldType.int), Jvm.Cond.code ({ cls := "com/example/lit2/lit2/weave/TexOutputDropFinalBreakPinLaw", name := "str", desc := "(I[C)Ljava/lang/String;" } : Jvm.MethodName) method_3_code (2 : Nat) (Option.some (Jvm.ClassFile.FieldType.object "java/lang/String")), Jvm.Cond.code ({ cls := "java/lang/String", name := "<init>", desc := "([C)V" } : Jvm.MethodName) jdk_42_method_3_code (2 : Nat) (Option.none : Option Jvm.ClassFile.FieldType), Jvm.Cond.code ({ cls := "java/lang/String", name := "<init>", desc := "([CIILjava/lang/Void;)V" } : Jvm.MethodName) jdk_42_method_149_code (6 : Nat) (Option.none : Option Jvm.ClassFile.FieldType), Jvm.Cond.code ({ cls := "java/lang/StringUTF16", name := "compress", desc := "([CII)[B" } : Jvm.MethodName) jdk_52_method_16_code (6 : Nat) (Option.some (Jvm.ClassFile.FieldType.array Jvm.ClassFile.FieldType.byte)), Jvm.Cond.code ({ cls := "java/lang/StringUTF16", name := "compress", desc := "([CI[BII)I" } : Jvm.MethodName) jdk_52_method_21_code (7 : Nat) (Option.some Jvm.ClassFile.FieldType.int), Jvm.Cond.code ({ cls := "java/lang/StringUTF16", name := "coderFromArrayLen", desc := "([BI)B" } : Jvm.MethodName) jdk_52_method_15_code (2 : Nat) (Option.some Jvm.ClassFile.FieldType.byte), Jvm.Cond.code ({ cls := "com/example/lit2/lit2/weave/TexOutput", name := "endsWith", desc := "(Ljava/lang/String;)Z" } : Jvm.MethodName) prog_135_method_10_code (5 : Nat) (Option.some Jvm.ClassFile.FieldType.boolean), Jvm.Cond.code ({ cls := "java/lang/String", name := "length", desc := "()I" } : Jvm.MethodName) jdk_42_method_54_code (1 : Nat) (Option.some Jvm.ClassFile.FieldType.int), Jvm.Cond.code ({ cls := "java/lang/String", name := "coder", desc := "()B" } : Jvm.MethodName) jdk_42_method_152_code (1 : Nat) (Option.some Jvm.ClassFile.FieldType.byte), Jvm.Cond.code ({ cls := "java/lang/String", name := "charAt", desc := "(I)C" } : Jvm.MethodName) jdk_42_method_56_code (2 : Nat) (Option.some Jvm.ClassFile.FieldType.char), Jvm.Cond.code ({ cls := "java/lang/String", name := "isLatin1", desc := "()Z" } : Jvm.MethodName) jdk_42_method_154_code (1 : Nat) (Option.some Jvm.ClassFile.FieldType.boolean), Jvm.Cond.code ({ cls := "java/lang/StringLatin1", name := "charAt", desc := "([BI)C" } : Jvm.MethodName) jdk_43_method_2_code (2 : Nat) (Option.some Jvm.ClassFile.FieldType.char), Jvm.Cond.code ({ cls := "java/lang/String", name := "checkIndex", desc := "(II)V" } : Jvm.MethodName) jdk_42_method_155_code (2 : Nat) (Option.none : Option Jvm.ClassFile.FieldType), Jvm.Cond.code ({ cls := "jdk/internal/util/Preconditions", name := "checkIndex", desc := "(IILjava/util/function/BiFunction;)I" } : Jvm.MethodName) jdk_41_method_11_code (3 : Nat) (Option.some Jvm.ClassFile.FieldType.int), Jvm.Cond.code ({ cls := "com/example/lit2/lit2/weave/TexOutput", name := "linesWritten", desc := "()I" } : Jvm.MethodName) prog_135_method_11_code (1 : Nat) (Option.some Jvm.ClassFile.FieldType.int)]
set_option maxRecDepth 65536 in
theorem codes_eq : words1.filter isCode = codes1 := rfl
theorem w_codes : ∀ c ∈ words1.filter isCode, c.before args0 about1 = true := by
  rw [codes_eq]
  intro c hc
  simp only [codes1, List.mem_cons, List.not_mem_nil, or_false] at hc
  rcases hc with rfl | rfl | rfl | rfl | rfl | rfl | rfl | rfl | rfl | rfl | rfl | rfl | rfl | rfl | rfl | rfl | rfl | rfl | rfl | rfl | rfl | rfl
  · exact w_c0
  · exact w_c1
  · exact w_c2
  · exact w_c3
  · exact w_c4
  · exact w_c5
  · exact w_c6
  · exact w_c7
  · exact w_c8
  · exact w_c9
  · exact w_c10
  · exact w_c11
  · exact w_c12
  · exact w_c13
  · exact w_c14
  · exact w_c15
  · exact w_c16
  · exact w_c17
  · exact w_c18
  · exact w_c19
  · exact w_c20
  · exact w_c21
set_option maxRecDepth 65536 in
theorem w_t1 : (words1.take 24).all (fun c => isCode c || c.before args0 about1) = true := by decide +kernel
set_option maxRecDepth 65536 in
theorem w_t2 : ((words1.drop 24).take 24).all (fun c => isCode c || c.before args0 about1) = true := by decide +kernel
set_option maxRecDepth 65536 in
theorem w_t3 : (((words1.drop 24).drop 24).take 24).all (fun c => isCode c || c.before args0 about1) = true := by decide +kernel
set_option maxRecDepth 65536 in
theorem w_t4 : ((((words1.drop 24).drop 24).drop 24).take 24).all (fun c => isCode c || c.before args0 about1) = true := by decide +kernel
set_option maxRecDepth 65536 in
theorem w_t5 : ((((words1.drop 24).drop 24).drop 24).drop 24).all (fun c => isCode c || c.before args0 about1) = true := by decide +kernel
theorem w_tables : (allAtoms (Jvm.Cond.code x code maxLocals ret :: tables_1)).before args0 about1 = true := by
  rw [allAtoms_all]
  show words1.all (fun c => c.before args0 about1) = true
  refine all_split ?_ w_codes
  rw [← List.take_append_drop 24 words1, List.all_append, w_t1, ← List.take_append_drop 24 (words1.drop 24), List.all_append, w_t2, ← List.take_append_drop 24 ((words1.drop 24).drop 24), List.all_append, w_t3, ← List.take_append_drop 24 (((words1.drop 24).drop 24).drop 24), List.all_append, w_t4, w_t5]
  rfl
set_option maxRecDepth 65536 in
theorem w_rest : rest_1_c.before args0 about1 = true := by decide +kernel
set_option maxRecDepth 65536 in
theorem w_case : (Jvm.Cond.and given_1 narrow_1).before args0 about1 = true := by decide +kernel
set_option maxRecDepth 65536 in
theorem w_consts : constsHeld consts_1 about1 := Jvm.Lit.constsHeldB_iff.mp (by decide +kernel)
theorem w_applies : (headSpec (Jvm.Cond.code x code maxLocals ret :: tables_1) room_1).applies x e0.platform about1 = true :=
  (Spec.applies_iff w_frames).mpr ⟨w_running, w_runnable, w_alone, w_named, w_hears, w_ripe, w_room, w_tables⟩
theorem atStart : AtStart classFile x code maxLocals ret World_1 tables_1 room_1 Calls_1 rest_1 Pre_1 launch0 p0 e0 about1 theMethod args0 below0 :=
  ⟨lists_1, trivial, launch0.admits_env _ _ _, launch0.least_env, fairChoices_fair.cas, fairChoices_fair.clock, w_frames, w_args, w_heap, w_applies, ⟨w_consts, trivial⟩, w_rest, w_case⟩
end start1
theorem witness_1 : WitnessClaimed_1 := ⟨start1.p0, start1.e0, start1.about1, start1.theMethod, start1.args0, start1.below0, start1.atStart⟩
end Jvm.Pilot.@@N@@
