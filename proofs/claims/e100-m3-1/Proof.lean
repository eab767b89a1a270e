import JvmDerived
import JvmDerived.Pilot.@@N@@Statement
import JvmDerived.Pilot.@@N@@Code
set_option linter.unusedVariables false
set_option linter.unusedSimpArgs false
namespace Jvm.Pilot.@@N@@
open Jvm Jvm.ClassFile Sem Op Lib Jvm.Free Jvm.Stand Jvm.LawKit Jvm.RoadKit Bundle Jvm.Pilot.@@N@@.Jvm.D

section Own
variable {p : Program} {l : Launch} {e : Env} {R : Room} {s : State} {m : MethodId} {args : Array Value} {below : List Frame} {meth : Method} {c : Code} {T T' : State} {locs : List Loc} {cells slots : Nat}
/-- from the frame f over T the run comes to the method's return, with Q -/
def OwnEnds (p : Program) (e : Env) (below : List Frame) (s : State) (Q : Option Value → Heap → List Loc → Prop) (k n : Nat) (T : State) (f : JFrame) : Prop :=
  ∃ s₂ o, Steps p.tables e below (T.setTop f) s₂ ∧ s₂.status = .running ∧ Ended s₂ below o ∧ ∃ v L, o = .returned v ∧ Q v s₂.heap L ∧ FrameEnd s o s₂ L k n
theorem own_step {Q : Option Value → Heap → List Loc → Prop} {k n : Nat} {f f' : JFrame} (h : ∀ t, Steps p.tables e below (T'.setTop f') t → Steps p.tables e below (T.setTop f) t) (g : OwnEnds p e below s Q k n T' f') : OwnEnds p e below s Q k n T f := by
  obtain ⟨s2, o, h1, h2⟩ := g
  exact ⟨s2, o, h _ h1, h2⟩
theorem own_retN (X : Stand p l e R s m args below meth c T locs cells slots) (hx : p.tables.exec = Jvm.exec) (hlk : meth.locks = false) {pc : Nat} {Ls : Array Slot} {z : Int32} {t : FieldType} {rest : List Value} (hret : meth.sig.returnType = some t) (ht : t = .boolean ∨ t = .byte ∨ t = .char ∨ t = .short)
    (hd : decode c.code pc = .ok (.ireturn, 1)) {Q : Option Value → Heap → List Loc → Prop} {k n : Nat} (hk : cells ≤ k) (hn : slots ≤ n) (hQ : Q (some (.int (nar t z))) T.heap locs) : OwnEnds p e below s Q k n T (mkF m pc Ls (.int z :: rest)) := by
  obtain ⟨fs, hr, hrun, hended, hW, hsame⟩ := X.leave (v := some (.int (nar t z))) (fun h => by rw [hret] at h; cases h) hlk
  exact ⟨_, _, retN X hx hret ht hd hr, hrun, hended, _, _, rfl, hQ, ⟨_, rfl⟩, hW, hsame.mono hk hn⟩
theorem own_retO (X : Stand p l e R s m args below meth c T locs cells slots) (hx : p.tables.exec = Jvm.exec) (hlk : meth.locks = false) {pc : Nat} {Ls : Array Slot} {w : Value} {t : FieldType} {i : Instr} {rest : List Value} (hret : meth.sig.returnType = some t) (hnw : narrow t w = w)
    (hi : (i = .ireturn ∧ (t = .int ∨ t = .boolean ∨ t = .byte ∨ t = .char ∨ t = .short) ∧ ∃ z, w = .int z) ∨ (i = .lreturn ∧ t = .long ∧ ∃ z, w = .long z) ∨ (i = .dreturn ∧ t = .double ∧ ∃ z, w = .double z) ∨ (i = .freturn ∧ t = .float ∧ ∃ z, w = .float z) ∨ (i = .areturn ∧ t.isReference = true ∧ w.isRef = true))
    (hd : decode c.code pc = .ok (i, 1)) {Q : Option Value → Heap → List Loc → Prop} {k n : Nat} (hk : cells ≤ k) (hn : slots ≤ n) (hQ : Q (some w) T.heap locs) : OwnEnds p e below s Q k n T (mkF m pc Ls (w :: rest)) := by
  obtain ⟨fs, hr, hrun, hended, hW, hsame⟩ := X.leave (v := some w) (fun h => by rw [hret] at h; cases h) hlk
  exact ⟨_, _, retOut X hx hret hnw hi hd hr, hrun, hended, _, _, rfl, hQ, ⟨_, rfl⟩, hW, hsame.mono hk hn⟩
theorem own_retV (X : Stand p l e R s m args below meth c T locs cells slots) (hx : p.tables.exec = Jvm.exec) (hlk : meth.locks = false) {pc : Nat} {Ls : Array Slot} (hret : meth.sig.returnType = none)
    (hd : decode c.code pc = .ok (.return_, 1)) {Q : Option Value → Heap → List Loc → Prop} {k n : Nat} (hk : cells ≤ k) (hn : slots ≤ n) (hQ : Q none T.heap locs) : OwnEnds p e below s Q k n T (mkF m pc Ls []) := by
  obtain ⟨fs, hr, hrun, hended, hW, hsame⟩ := X.leave (v := none) (fun _ => rfl) hlk
  exact ⟨_, _, X.returnOut hx hret hd hr, hrun, hended, _, _, rfl, hQ, ⟨_, rfl⟩, hW, hsame.mono hk hn⟩
end Own
theorem own_mvM {Z s : State} {a0 args : Array Value} {own host : String} {index : Nat} {y : MethodName} (hZ : Z.Warmed39 s.vm) (w : (Jvm.Cond.methodLinkNest own index y host).before a0 Z = true) : (Jvm.Cond.methodLinkNest own index y host).before args s = true := (Cond.methodLinkNest_wide hZ w :)
theorem own_irr {x : Int32} : ¬ x < x := by rw [Int32.lt_iff_toInt_lt]; omega
theorem own_lceq {x y : Int64} (h : x = y) : ifCond.holds .eq (lcmpW x y) = true ∧ ifCond.holds .ne (lcmpW x y) = false := by
  have q : lcmpW x y = 0 := by rw [lcW]; exact (lc_eq x y).mpr h
  exact ⟨(if0 _ _).trans (teq q).1, (if0 _ _).trans (teq q).2⟩
theorem own_lcne {x y : Int64} (h : ¬ x = y) : ifCond.holds .eq (lcmpW x y) = false ∧ ifCond.holds .ne (lcmpW x y) = true := by
  have q : ¬ lcmpW x y = 0 := by rw [lcW]; exact fun z => h ((lc_eq x y).mp z)
  exact ⟨(if0 _ _).trans (feq q).1, (if0 _ _).trans (feq q).2⟩
theorem own_lclt {x y : Int64} (h : x < y) : ifCond.holds .lt (lcmpW x y) = true ∧ ifCond.holds .ge (lcmpW x y) = false ∧ ifCond.holds .gt (lcmpW y x) = true ∧ ifCond.holds .le (lcmpW y x) = false := by
  have q : lcmpW x y < 0 := by rw [lcW]; exact (lc_lt x y).mpr h
  have q' : 0 < lcmpW y x := by rw [lcW]; exact (lc_gt y x).mpr h
  exact ⟨(if0 _ _).trans (tlt q).1, (if0 _ _).trans (tlt q).2.1, (if0 _ _).trans (tlt q').2.2.1, (if0 _ _).trans (tlt q').2.2.2⟩
theorem own_lcnl {x y : Int64} (h : ¬ x < y) : ifCond.holds .lt (lcmpW x y) = false ∧ ifCond.holds .ge (lcmpW x y) = true ∧ ifCond.holds .gt (lcmpW y x) = false ∧ ifCond.holds .le (lcmpW y x) = true := by
  have q : ¬ lcmpW x y < 0 := by rw [lcW]; exact fun z => h ((lc_lt x y).mp z)
  have q' : ¬ 0 < lcmpW y x := by rw [lcW]; exact fun z => h ((lc_gt y x).mp z)
  exact ⟨(if0 _ _).trans (flt q).1, (if0 _ _).trans (flt q).2.1, (if0 _ _).trans (flt q').2.2.1, (if0 _ _).trans (flt q').2.2.2⟩
theorem own_ord {args : Array Value} {s : State} {t : Term} {a : Addr} {C n d : String} {k : Int32} (ev : t.eval args s none [] s = some (.ref a)) (h : (Jvm.Cond.eq (.field t C n d) (.int k)).value args s none s [] = some true) : s.fieldOf? a C n d = some (.int k) := by
  have h1 := fld_at (C := C) (n := n) (dd := d) ev
  obtain ⟨x, y, e1, e2, -, k2⟩ := cmp_v (Or.inl h)
  obtain rfl : y = .int k := (Option.some.inj e2).symm
  obtain ⟨z, rfl⟩ := k2
  have q : z = k := by simpa [Jvm.Cond.value, e1, e2] using h
  rw [← h1, e1, q]
theorem own_apart {s : State} {a b : Addr} {C n d : String} {k j : Int32} (h1 : s.fieldOf? a C n d = some (.int k)) (h2 : s.fieldOf? b C n d = some (.int j)) (hk : k ≠ j) : ¬ a = b := fun e => by
  subst e; rw [h1] at h2; exact hk (Value.int.inj (Option.some.inj h2))

theorem own_at {c : Cell} {vs : List Value} {d v : Value} {j : Int32} (hin : ¬ (j < 0 ∨ c.slots.size ≤ j.toNatClampNeg)) (H : Has c vs d) (i : Nat) (hj : j.toNatClampNeg = i) (hv : vs.getD i d = v) : c.slots[j.toNatClampNeg]? = some v := by
  rw [H _ (Nat.lt_of_not_le fun q => hin (Or.inr q)), hj, hv]

section OwnW
variable {p : Program} {l : Launch} {e : Env} {R : Room} {s : State} {m : MethodId} {args : Array Value} {below : List Frame} {meth : Method} {c : Code} {T T' : State} {locs : List Loc} {cells slots : Nat}
def OwnEndsW (p : Program) (e : Env) (below : List Frame) (s : State) (Q : Option Value → Heap → List Loc → Prop) (k n : Nat) (T : State) (f : JFrame) : Prop :=
  ∃ s₂ o, Steps p.tables e below (T.setTop f) s₂ ∧ s₂.status = .running ∧ Ended s₂ below o ∧ ∃ v L, o = .returned v ∧ Q v s₂.heap L ∧ ReturnedEndW s o s₂ L k n
theorem ownW_step {Q : Option Value → Heap → List Loc → Prop} {k n : Nat} {f f' : JFrame} (h : ∀ t, Steps p.tables e below (T'.setTop f') t → Steps p.tables e below (T.setTop f) t) (g : OwnEndsW p e below s Q k n T' f') : OwnEndsW p e below s Q k n T f := by
  obtain ⟨s2, o, h1, h2⟩ := g
  exact ⟨s2, o, h _ h1, h2⟩
theorem ownW_retN {vm₁ : Vm} (X : Stand p l e R (s.setVm vm₁) m args below meth c T locs cells slots) {k1 : Nat} (hS : s.Since vm₁ k1) (hk1 : k1 ≤ T.heap.size) (hx : p.tables.exec = Jvm.exec) (hlk : meth.locks = false) {pc : Nat} {Ls : Array Slot} {z : Int32} {t : FieldType} {rest : List Value} (hret : meth.sig.returnType = some t) (ht : t = .boolean ∨ t = .byte ∨ t = .char ∨ t = .short)
    (hd : decode c.code pc = .ok (.ireturn, 1)) {Q : Option Value → Heap → List Loc → Prop} {k n : Nat} (hk : cells ≤ k) (hn : slots ≤ n) (hQ : Q (some (.int (nar t z))) T.heap locs) : OwnEndsW p e below s Q k n T (mkF m pc Ls (.int z :: rest)) := by
  obtain ⟨fs, hr, hrun, hended, e1, e2, e3, e4⟩ := X.leaveW hS hk1 (v := some (.int (nar t z))) (fun h => by rw [hret] at h; cases h) hlk
  exact ⟨_, _, retN X hx hret ht hd hr, hrun, hended, _, _, rfl, hQ, e1, e2, e3, e4.mono hk hn⟩
end OwnW
theorem own_sta_keep {Z : State} {h h' : Heap} {C n d : String} {v : Value} {ws : List Addr} (F : Sta Z h C n d v) (K : Keep h h' ws) (q : ∀ b ∈ ws, ∃ D, Exa Z h b D) : Sta Z h' C n d v := by
  obtain ⟨cf, i, k, f, st, cell, h1, h2, h3, h4, h5, h6, h7⟩ := F
  refine ⟨cf, i, k, f, st, cell, h1, h2, h3, h4, K.2.1 st cell h5 fun hb => ?_, h6, h7⟩
  obtain ⟨D, cb, kb, e1, -, -, e4, -⟩ := q st hb
  cases h5.symm.trans e1
  rw [h6] at e4; cases e4
theorem own_nf {args : Array Value} {s : State} {C : String} {x z y : MethodName} (hsel : (Jvm.Cond.selects C x z).before args s = true) (hy : y.cls = z.cls) : NotFace s y := fun r0 h0 => by
  obtain ⟨c2, r2, m2, -, -, q3, -, kP, hkP, hkPi⟩ := Cond.selects_spec hsel
  have e1 := findClass_of_methodNamed h0
  have e2 := findClass_of_methodNamed q3
  rw [hy] at e1
  have e3 : r0.cls = m2.cls := Option.some.inj (e1.symm.trans e2)
  exact ⟨kP, by rw [e3]; exact hkP, hkPi⟩
theorem own_same {Z : State} {a0 : Array Value} {C : String} {x z y : MethodName} (hd : (Jvm.Cond.declares y).before a0 Z = true) (hsel : (Jvm.Cond.selects C x z).before a0 Z = true) (hy : y.cls = z.cls) (hm : y.cls ≠ "java/lang/invoke/MethodHandle" ∧ y.cls ≠ "java/lang/invoke/VarHandle") : (Jvm.Cond.sameMethod y.cls y.cls y.name y.desc).before a0 Z = true := by
  obtain ⟨m, meth, h1, -⟩ := Cond.declares_spec hd
  have hf := State.methodFound?_of_named h1 hm
  obtain ⟨kP, hk, hi⟩ := own_nf hsel hy m h1
  have hc := findClass_of_methodNamed h1
  simp [Cond.before, Cond.holds, Cond.value, hc, hf, h1, hk, hi]
theorem own_decl {Z : State} {a0 : Array Value} {y : MethodName} {bytes : ByteArray} {n : Nat} {r : Option FieldType} (hi : (Jvm.Cond.instanceMethod y).before a0 Z = true) (hc : (Jvm.Cond.code y bytes n r).before a0 Z = true) : (Jvm.Cond.declares y).before a0 Z = true := by
  obtain ⟨m, meth, h1, h2, h3, -⟩ := Cond.instanceMethod_spec hi
  obtain ⟨meth', c, g1, -, -, -, -, -, -, g8⟩ := Cond.code_spec h1 hc
  cases h2.symm.trans g1
  simp [Cond.before, Cond.holds, Cond.value, h1, h2, h3, g8]

theorem own_cs {s : State} {args : Array Value} {cs : Int32} (hcw : (Jvm.Cond.not (.eq (.static "java/lang/String" "COMPACT_STRINGS" "Z") (.int 0))).before args s = true) (ecs : (Term.static "java/lang/String" "COMPACT_STRINGS" "Z").eval args s none [] s = some (.int cs)) : ¬ cs = (0 : Int32) := fun q => by
  have u := not_v (Cond.before_iff.mp hcw)
  have w := eq_i ecs (Term.int_eval 0) (by rw [q])
  rw [w] at u; cases u
def OwnSB (Z : State) (h : Heap) (a b : Addr) (k : ClassId) (n : Int32) (vs : List Value) : Prop := Exa Z h a "java/lang/StringBuilder" ∧ Fld Z h a "java/lang/AbstractStringBuilder" "value" "[B" (.ref b) ∧ Fld Z h a "java/lang/AbstractStringBuilder" "coder" "B" (.int (0 : Int32)) ∧ Fld Z h a "java/lang/AbstractStringBuilder" "count" "I" (.int n) ∧ Arv Z h b k .byte (16 : Int32) vs (.int (0 : Int32)) ∧ Exa Z h b "[B" ∧ a ≠ b
def OwnStr (Z : State) (h : Heap) (r b : Addr) (k : ClassId) (n : Int32) (vs : List Value) : Prop := Exa Z h r "java/lang/String" ∧ Fld Z h r "java/lang/String" "coder" "B" (.int (0 : Int32)) ∧ Fld Z h r "java/lang/String" "value" "[B" (.ref b) ∧ Arv Z h b k .byte n vs (.int (0 : Int32))

def QI (r : Int32) (h0 : Heap) (n0 : Nat) (v : Option Value) (h : Heap) (L : List Loc) : Prop := v = some (.int r) ∧ Fr n0 L ∧ h = h0
def QA (r : Addr) (h0 : Heap) (n0 : Nat) (v : Option Value) (h : Heap) (L : List Loc) : Prop := v = some (.ref r) ∧ Fr n0 L ∧ h = h0
def QV (h0 : Heap) (n0 : Nat) (v : Option Value) (h : Heap) (L : List Loc) : Prop := v = none ∧ Fr n0 L ∧ h = h0
theorem d1_0 : decode prog_7_method_2_code 0 = .ok (.iload_n 0, 1) := by decide +kernel
theorem d1_1 : decode prog_7_method_2_code 1 = .ok (.ifCond .eq 9, 3) := by decide +kernel
theorem d1_10 : decode prog_7_method_2_code 10 = .ok (.getstatic 17, 3) := by decide +kernel
theorem d1_13 : decode prog_7_method_2_code 13 = .ok (.areturn, 1) := by decide +kernel
theorem pn_1 : plainName "com/example/umriss/umriss/runtime/BooleanValue" = true := by first | (simp [plainName, overriddenIn]; done) | decide +kernel
theorem ef_rm1_0 (m : MethodId) (x0 : Int32) : entryFrame m #[(.int x0)] 1 = mkF m 0 #[.val (.int x0)] [] := by first | (simp [entryFrame, mkF, argsToLocals, Value.category]; done) | rfl
set_option maxRecDepth 65536 in
set_option maxHeartbeats 40000000 in
theorem rm1_0 (l : Launch) (Z : State) (a0 : Array Value) (hw : ∀ d ∈ tables_1, d.before a0 Z = true) (ws : List Jvm.Cond)  (h0 : Heap) (n0 : Nat) (Z0 : n0 ≤ h0.size) (aT aF : Addr) (S_T : Sta Z h0 "com/example/umriss/umriss/runtime/BooleanValue" "TRUE" "Lcom/example/umriss/umriss/runtime/BooleanValue;" (.ref aT)) (S_F : Sta Z h0 "com/example/umriss/umriss/runtime/BooleanValue" "FALSE" "Lcom/example/umriss/umriss/runtime/BooleanValue;" (.ref aF)) :
    MetFree l (⟨"com/example/umriss/umriss/runtime/BooleanValue", "of", "(Z)Lcom/example/umriss/umriss/runtime/BooleanValue;"⟩ : MethodName) (head1 (Jvm.Cond.code (⟨"com/example/umriss/umriss/runtime/BooleanValue", "of", "(Z)Lcom/example/umriss/umriss/runtime/BooleanValue;"⟩ : MethodName) prog_7_method_2_code 1 (some (.object "com/example/umriss/umriss/runtime/BooleanValue")) :: ws) ({ frames := 0, cells := 0, slots := 0, locals := 0 } : Room)) (fun a U => a = #[(.int (0 : Int32))] ∧ Z.Warmed39 U.vm ∧ U.heap = h0) (fun _ _ _ _ _ => True) (fun _ U o U' => ∃ v L, o = .returned v ∧ QA aF h0 n0 v U'.heap L ∧ FrameEnd U o U' L ({ frames := 0, cells := 0, slots := 0, locals := 0 } : Room).cells ({ frames := 0, cells := 0, slots := 0, locals := 0 } : Room).slots) := by
  refine MetFree.of_bodySF (plainFor_of_name pn_1) hisR ?_
  intro p e s m args below meth c s₁ Bd hml0 hP hK
  obtain ⟨rfl, hZ, hh⟩ := hP
  have hx := Bd.exec
  have hby := Bd.bytes
  have hlk : meth.locks = false := BodyLoose.notSynchronized Bd
  have hml : c.maxLocals = 1 := hml0
  have hown : s.vm.findClass "com/example/umriss/umriss/runtime/BooleanValue" = some m.cls := findClass_of_methodNamed Bd.named
  have hnm := (name_of_methodNamed Bd.named Bd.method).1
  have X0 : Stand p l e ({ frames := 0, cells := 0, slots := 0, locals := 0 } : Room) s m #[(.int (0 : Int32))] below meth c s₁ [] 0 0 := Stand.of_body Bd
  have e0 : s₁.heap = h0 := by rw [← hh, Bd.state]; rfl
  have N0 := Fr.nil n0
  show OwnEnds p e below s (QA aF h0 n0) ({ frames := 0, cells := 0, slots := 0, locals := 0 } : Room).cells ({ frames := 0, cells := 0, slots := 0, locals := 0 } : Room).slots s₁ (entryFrame m #[(.int (0 : Int32))] 1)
  refine own_step (T' := s₁) (f' := (mkF m 0 #[.val (.int (0 : Int32))] [])) (fun t k => castTop (ef_rm1_0 m (0 : Int32)) k) ?_
  refine own_step (T' := s₁) (f' := (mkF m 1 #[.val (.int (0 : Int32))] [(.int (0 : Int32))])) (fun t k => XS.iloadN X0.here hx rfl (hb hby d1_0) rfl k) ?_
  refine own_step (T' := s₁) (f' := (mkF m 10 #[.val (.int (0 : Int32))] [])) (fun t k => XS.ifYes X0.here hx rfl (pc0 := 1) (pc' := 10) rfl (hb hby d1_1) rfl ((if0 _ _).trans (teq (by decide : (0 : Int32) = (0 : Int32))).1) (by decide) (by decide) k) ?_
  obtain ⟨T1, X1, e1, st1⟩ := getS2 X0 hx hZ hown (host := "") (Or.inl (hw _ (List.mem_of_getElem? (i := 4) rfl))) Via.refl e0 S_F (g := (mkF m 10 #[.val (.int (0 : Int32))] [])) rfl (hb hby d1_10)
  refine own_step (T' := T1) (f' := (mkF m 13 #[.val (.int (0 : Int32))] [(.ref aF)])) (fun t k => st1 t k) ?_
  exact own_retO X1 hx hlk Bd.returns rfl (Or.inr (Or.inr (Or.inr (Or.inr ⟨rfl, rfl, rfl⟩)))) (hb hby d1_13) (by decide) (by decide) ⟨rfl, N0, e1⟩

theorem d1_4 : decode prog_7_method_2_code 4 = .ok (.getstatic 13, 3) := by decide +kernel
theorem d1_7 : decode prog_7_method_2_code 7 = .ok (.goto 6, 3) := by decide +kernel
theorem ef_rm1_1 (m : MethodId) (x0 : Int32) : entryFrame m #[(.int x0)] 1 = mkF m 0 #[.val (.int x0)] [] := by first | (simp [entryFrame, mkF, argsToLocals, Value.category]; done) | rfl
set_option maxRecDepth 65536 in
set_option maxHeartbeats 40000000 in
theorem rm1_1 (l : Launch) (Z : State) (a0 : Array Value) (hw : ∀ d ∈ tables_1, d.before a0 Z = true) (ws : List Jvm.Cond)  (h0 : Heap) (n0 : Nat) (Z0 : n0 ≤ h0.size) (aT aF : Addr) (S_T : Sta Z h0 "com/example/umriss/umriss/runtime/BooleanValue" "TRUE" "Lcom/example/umriss/umriss/runtime/BooleanValue;" (.ref aT)) (S_F : Sta Z h0 "com/example/umriss/umriss/runtime/BooleanValue" "FALSE" "Lcom/example/umriss/umriss/runtime/BooleanValue;" (.ref aF)) :
    MetFree l (⟨"com/example/umriss/umriss/runtime/BooleanValue", "of", "(Z)Lcom/example/umriss/umriss/runtime/BooleanValue;"⟩ : MethodName) (head1 (Jvm.Cond.code (⟨"com/example/umriss/umriss/runtime/BooleanValue", "of", "(Z)Lcom/example/umriss/umriss/runtime/BooleanValue;"⟩ : MethodName) prog_7_method_2_code 1 (some (.object "com/example/umriss/umriss/runtime/BooleanValue")) :: ws) ({ frames := 0, cells := 0, slots := 0, locals := 0 } : Room)) (fun a U => a = #[(.int (1 : Int32))] ∧ Z.Warmed39 U.vm ∧ U.heap = h0) (fun _ _ _ _ _ => True) (fun _ U o U' => ∃ v L, o = .returned v ∧ QA aT h0 n0 v U'.heap L ∧ FrameEnd U o U' L ({ frames := 0, cells := 0, slots := 0, locals := 0 } : Room).cells ({ frames := 0, cells := 0, slots := 0, locals := 0 } : Room).slots) := by
  refine MetFree.of_bodySF (plainFor_of_name pn_1) hisR ?_
  intro p e s m args below meth c s₁ Bd hml0 hP hK
  obtain ⟨rfl, hZ, hh⟩ := hP
  have hx := Bd.exec
  have hby := Bd.bytes
  have hlk : meth.locks = false := BodyLoose.notSynchronized Bd
  have hml : c.maxLocals = 1 := hml0
  have hown : s.vm.findClass "com/example/umriss/umriss/runtime/BooleanValue" = some m.cls := findClass_of_methodNamed Bd.named
  have hnm := (name_of_methodNamed Bd.named Bd.method).1
  have X0 : Stand p l e ({ frames := 0, cells := 0, slots := 0, locals := 0 } : Room) s m #[(.int (1 : Int32))] below meth c s₁ [] 0 0 := Stand.of_body Bd
  have e0 : s₁.heap = h0 := by rw [← hh, Bd.state]; rfl
  have N0 := Fr.nil n0
  show OwnEnds p e below s (QA aT h0 n0) ({ frames := 0, cells := 0, slots := 0, locals := 0 } : Room).cells ({ frames := 0, cells := 0, slots := 0, locals := 0 } : Room).slots s₁ (entryFrame m #[(.int (1 : Int32))] 1)
  refine own_step (T' := s₁) (f' := (mkF m 0 #[.val (.int (1 : Int32))] [])) (fun t k => castTop (ef_rm1_1 m (1 : Int32)) k) ?_
  refine own_step (T' := s₁) (f' := (mkF m 1 #[.val (.int (1 : Int32))] [(.int (1 : Int32))])) (fun t k => XS.iloadN X0.here hx rfl (hb hby d1_0) rfl k) ?_
  refine own_step (T' := s₁) (f' := (mkF m 4 #[.val (.int (1 : Int32))] [])) (fun t k => XS.ifNo X0.here hx rfl (hb hby d1_1) rfl ((if0 _ _).trans (feq (by decide : ¬ ((1 : Int32) = (0 : Int32)))).1) k) ?_
  obtain ⟨T1, X1, e1, st1⟩ := getS2 X0 hx hZ hown (host := "") (Or.inl (hw _ (List.mem_of_getElem? (i := 6) rfl))) Via.refl e0 S_T (g := (mkF m 4 #[.val (.int (1 : Int32))] [])) rfl (hb hby d1_4)
  refine own_step (T' := T1) (f' := (mkF m 7 #[.val (.int (1 : Int32))] [(.ref aT)])) (fun t k => st1 t k) ?_
  refine own_step (T' := T1) (f' := (mkF m 13 #[.val (.int (1 : Int32))] [(.ref aT)])) (fun t k => XS.goto X1.here hx rfl (pc0 := 7) (pc' := 13) rfl (hb hby d1_7) (by decide) (by decide) k) ?_
  exact own_retO X1 hx hlk Bd.returns rfl (Or.inr (Or.inr (Or.inr (Or.inr ⟨rfl, rfl, rfl⟩)))) (hb hby d1_13) (by decide) (by decide) ⟨rfl, N0, e1⟩

theorem d2_0 : decode prog_7_method_3_code 0 = .ok (.aload_n 0, 1) := by decide +kernel
theorem d2_1 : decode prog_7_method_3_code 1 = .ok (.getfield 7, 3) := by decide +kernel
theorem d2_4 : decode prog_7_method_3_code 4 = .ok (.ireturn, 1) := by decide +kernel
theorem pn_2 : plainName "com/example/umriss/umriss/runtime/BooleanValue" = true := by first | (simp [plainName, overriddenIn]; done) | decide +kernel
theorem ef_rm2_0 (m : MethodId) (x0 : Addr) : entryFrame m #[(.ref x0)] 1 = mkF m 0 #[.val (.ref x0)] [] := by first | (simp [entryFrame, mkF, argsToLocals, Value.category]; done) | rfl
set_option maxRecDepth 65536 in
set_option maxHeartbeats 40000000 in
theorem rm2_0 (l : Launch) (Z : State) (a0 : Array Value) (hw : ∀ d ∈ tables_1, d.before a0 Z = true) (ws : List Jvm.Cond) (a1 : Addr) (h0 : Heap) (n0 : Nat) (Z0 : n0 ≤ h0.size) (F_v : Fld Z h0 a1 "com/example/umriss/umriss/runtime/BooleanValue" "value" "Z" (.int (0 : Int32))) :
    MetFree l (⟨"com/example/umriss/umriss/runtime/BooleanValue", "value", "()Z"⟩ : MethodName) (head1 (Jvm.Cond.code (⟨"com/example/umriss/umriss/runtime/BooleanValue", "value", "()Z"⟩ : MethodName) prog_7_method_3_code 1 (some .boolean) :: ws) ({ frames := 0, cells := 0, slots := 0, locals := 0 } : Room)) (fun a U => a = #[(.ref a1)] ∧ Z.Warmed39 U.vm ∧ U.heap = h0) (fun _ _ _ _ _ => True) (fun _ U o U' => ∃ v L, o = .returned v ∧ QI 0 h0 n0 v U'.heap L ∧ FrameEnd U o U' L ({ frames := 0, cells := 0, slots := 0, locals := 0 } : Room).cells ({ frames := 0, cells := 0, slots := 0, locals := 0 } : Room).slots) := by
  refine MetFree.of_bodySF (plainFor_of_name pn_2) hisR ?_
  intro p e s m args below meth c s₁ Bd hml0 hP hK
  obtain ⟨rfl, hZ, hh⟩ := hP
  have hx := Bd.exec
  have hby := Bd.bytes
  have hlk : meth.locks = false := BodyLoose.notSynchronized Bd
  have hml : c.maxLocals = 1 := hml0
  have hown : s.vm.findClass "com/example/umriss/umriss/runtime/BooleanValue" = some m.cls := findClass_of_methodNamed Bd.named
  have hnm := (name_of_methodNamed Bd.named Bd.method).1
  have X0 : Stand p l e ({ frames := 0, cells := 0, slots := 0, locals := 0 } : Room) s m #[(.ref a1)] below meth c s₁ [] 0 0 := Stand.of_body Bd
  have e0 : s₁.heap = h0 := by rw [← hh, Bd.state]; rfl
  have N0 := Fr.nil n0
  show OwnEnds p e below s (QI 0 h0 n0) ({ frames := 0, cells := 0, slots := 0, locals := 0 } : Room).cells ({ frames := 0, cells := 0, slots := 0, locals := 0 } : Room).slots s₁ (entryFrame m #[(.ref a1)] 1)
  refine own_step (T' := s₁) (f' := (mkF m 0 #[.val (.ref a1)] [])) (fun t k => castTop (ef_rm2_0 m a1) k) ?_
  refine own_step (T' := s₁) (f' := (mkF m 1 #[.val (.ref a1)] [(.ref a1)])) (fun t k => XS.aloadN X0.here hx rfl (hb hby d2_0) rfl rfl k) ?_
  obtain ⟨T1, X1, e1, st1⟩ := getF X0 hx hZ hown (host := "") (Or.inl (hw _ (List.mem_of_getElem? (i := 13) rfl))) Via.refl e0 F_v (g := (mkF m 1 #[.val (.ref a1)] [(.ref a1)])) rfl rfl (hb hby d2_1)
  refine own_step (T' := T1) (f' := (mkF m 4 #[.val (.ref a1)] [(.int (0 : Int32))])) (fun t k => st1 t k) ?_
  exact own_retN X1 hx hlk (t := .boolean) Bd.returns (by simp) (hb hby d2_4) (by decide) (by decide) ⟨rfl, N0, e1⟩

theorem ef_rm2_1 (m : MethodId) (x0 : Addr) : entryFrame m #[(.ref x0)] 1 = mkF m 0 #[.val (.ref x0)] [] := by first | (simp [entryFrame, mkF, argsToLocals, Value.category]; done) | rfl
set_option maxRecDepth 65536 in
set_option maxHeartbeats 40000000 in
theorem rm2_1 (l : Launch) (Z : State) (a0 : Array Value) (hw : ∀ d ∈ tables_1, d.before a0 Z = true) (ws : List Jvm.Cond) (a1 : Addr) (h0 : Heap) (n0 : Nat) (Z0 : n0 ≤ h0.size) (F_v : Fld Z h0 a1 "com/example/umriss/umriss/runtime/BooleanValue" "value" "Z" (.int (1 : Int32))) :
    MetFree l (⟨"com/example/umriss/umriss/runtime/BooleanValue", "value", "()Z"⟩ : MethodName) (head1 (Jvm.Cond.code (⟨"com/example/umriss/umriss/runtime/BooleanValue", "value", "()Z"⟩ : MethodName) prog_7_method_3_code 1 (some .boolean) :: ws) ({ frames := 0, cells := 0, slots := 0, locals := 0 } : Room)) (fun a U => a = #[(.ref a1)] ∧ Z.Warmed39 U.vm ∧ U.heap = h0) (fun _ _ _ _ _ => True) (fun _ U o U' => ∃ v L, o = .returned v ∧ QI 1 h0 n0 v U'.heap L ∧ FrameEnd U o U' L ({ frames := 0, cells := 0, slots := 0, locals := 0 } : Room).cells ({ frames := 0, cells := 0, slots := 0, locals := 0 } : Room).slots) := by
  refine MetFree.of_bodySF (plainFor_of_name pn_2) hisR ?_
  intro p e s m args below meth c s₁ Bd hml0 hP hK
  obtain ⟨rfl, hZ, hh⟩ := hP
  have hx := Bd.exec
  have hby := Bd.bytes
  have hlk : meth.locks = false := BodyLoose.notSynchronized Bd
  have hml : c.maxLocals = 1 := hml0
  have hown : s.vm.findClass "com/example/umriss/umriss/runtime/BooleanValue" = some m.cls := findClass_of_methodNamed Bd.named
  have hnm := (name_of_methodNamed Bd.named Bd.method).1
  have X0 : Stand p l e ({ frames := 0, cells := 0, slots := 0, locals := 0 } : Room) s m #[(.ref a1)] below meth c s₁ [] 0 0 := Stand.of_body Bd
  have e0 : s₁.heap = h0 := by rw [← hh, Bd.state]; rfl
  have N0 := Fr.nil n0
  show OwnEnds p e below s (QI 1 h0 n0) ({ frames := 0, cells := 0, slots := 0, locals := 0 } : Room).cells ({ frames := 0, cells := 0, slots := 0, locals := 0 } : Room).slots s₁ (entryFrame m #[(.ref a1)] 1)
  refine own_step (T' := s₁) (f' := (mkF m 0 #[.val (.ref a1)] [])) (fun t k => castTop (ef_rm2_1 m a1) k) ?_
  refine own_step (T' := s₁) (f' := (mkF m 1 #[.val (.ref a1)] [(.ref a1)])) (fun t k => XS.aloadN X0.here hx rfl (hb hby d2_0) rfl rfl k) ?_
  obtain ⟨T1, X1, e1, st1⟩ := getF X0 hx hZ hown (host := "") (Or.inl (hw _ (List.mem_of_getElem? (i := 13) rfl))) Via.refl e0 F_v (g := (mkF m 1 #[.val (.ref a1)] [(.ref a1)])) rfl rfl (hb hby d2_1)
  refine own_step (T' := T1) (f' := (mkF m 4 #[.val (.ref a1)] [(.int (1 : Int32))])) (fun t k => st1 t k) ?_
  exact own_retN X1 hx hlk (t := .boolean) Bd.returns (by simp) (hb hby d2_4) (by decide) (by decide) ⟨rfl, N0, e1⟩

theorem d3_0 : decode prog_7_method_4_code 0 = .ok (.getstatic 20, 3) := by decide +kernel
theorem d3_3 : decode prog_7_method_4_code 3 = .ok (.areturn, 1) := by decide +kernel
theorem pn_3 : plainName "com/example/umriss/umriss/runtime/BooleanValue" = true := by first | (simp [plainName, overriddenIn]; done) | decide +kernel
theorem ef_rm3 (m : MethodId) (x0 : Addr) : entryFrame m #[(.ref x0)] 1 = mkF m 0 #[.val (.ref x0)] [] := by first | (simp [entryFrame, mkF, argsToLocals, Value.category]; done) | rfl
set_option maxRecDepth 65536 in
set_option maxHeartbeats 40000000 in
theorem rm3 (l : Launch) (Z : State) (a0 : Array Value) (hw : ∀ d ∈ tables_1, d.before a0 Z = true) (ws : List Jvm.Cond) (a1 : Addr) (h0 : Heap) (n0 : Nat) (Z0 : n0 ≤ h0.size) (aK : Addr) (S_K : Sta Z h0 "com/example/umriss/umriss/runtime/Value$Kind" "BOOLEAN" "Lcom/example/umriss/umriss/runtime/Value$Kind;" (.ref aK)) :
    MetFree l (⟨"com/example/umriss/umriss/runtime/BooleanValue", "kind", "()Lcom/example/umriss/umriss/runtime/Value$Kind;"⟩ : MethodName) (head1 (Jvm.Cond.code (⟨"com/example/umriss/umriss/runtime/BooleanValue", "kind", "()Lcom/example/umriss/umriss/runtime/Value$Kind;"⟩ : MethodName) prog_7_method_4_code 1 (some (.object "com/example/umriss/umriss/runtime/Value$Kind")) :: ws) ({ frames := 0, cells := 0, slots := 0, locals := 0 } : Room)) (fun a U => a = #[(.ref a1)] ∧ Z.Warmed39 U.vm ∧ U.heap = h0) (fun _ _ _ _ _ => True) (fun _ U o U' => ∃ v L, o = .returned v ∧ QA aK h0 n0 v U'.heap L ∧ FrameEnd U o U' L ({ frames := 0, cells := 0, slots := 0, locals := 0 } : Room).cells ({ frames := 0, cells := 0, slots := 0, locals := 0 } : Room).slots) := by
  refine MetFree.of_bodySF (plainFor_of_name pn_3) hisR ?_
  intro p e s m args below meth c s₁ Bd hml0 hP hK
  obtain ⟨rfl, hZ, hh⟩ := hP
  have hx := Bd.exec
  have hby := Bd.bytes
  have hlk : meth.locks = false := BodyLoose.notSynchronized Bd
  have hml : c.maxLocals = 1 := hml0
  have hown : s.vm.findClass "com/example/umriss/umriss/runtime/BooleanValue" = some m.cls := findClass_of_methodNamed Bd.named
  have hnm := (name_of_methodNamed Bd.named Bd.method).1
  have X0 : Stand p l e ({ frames := 0, cells := 0, slots := 0, locals := 0 } : Room) s m #[(.ref a1)] below meth c s₁ [] 0 0 := Stand.of_body Bd
  have e0 : s₁.heap = h0 := by rw [← hh, Bd.state]; rfl
  have N0 := Fr.nil n0
  show OwnEnds p e below s (QA aK h0 n0) ({ frames := 0, cells := 0, slots := 0, locals := 0 } : Room).cells ({ frames := 0, cells := 0, slots := 0, locals := 0 } : Room).slots s₁ (entryFrame m #[(.ref a1)] 1)
  refine own_step (T' := s₁) (f' := (mkF m 0 #[.val (.ref a1)] [])) (fun t k => castTop (ef_rm3 m a1) k) ?_
  obtain ⟨T1, X1, e1, st1⟩ := getS2 X0 hx hZ hown (host := "") (Or.inl (hw _ (List.mem_of_getElem? (i := 20) rfl))) Via.refl e0 S_K (g := (mkF m 0 #[.val (.ref a1)] [])) rfl (hb hby d3_0)
  refine own_step (T' := T1) (f' := (mkF m 3 #[.val (.ref a1)] [(.ref aK)])) (fun t k => st1 t k) ?_
  exact own_retO X1 hx hlk Bd.returns rfl (Or.inr (Or.inr (Or.inr (Or.inr ⟨rfl, rfl, rfl⟩)))) (hb hby d3_3) (by decide) (by decide) ⟨rfl, N0, e1⟩

theorem d7_0 : decode jdk_2055_method_14_code 0 = .ok (.iload_n 0, 1) := by decide +kernel
theorem d7_1 : decode jdk_2055_method_14_code 1 = .ok (.iload_n 1, 1) := by decide +kernel
theorem d7_2 : decode jdk_2055_method_14_code 2 = .ok (.if_icmp .ne 7, 3) := by decide +kernel
theorem d7_5 : decode jdk_2055_method_14_code 5 = .ok (.iconst 0, 1) := by decide +kernel
theorem d7_6 : decode jdk_2055_method_14_code 6 = .ok (.goto 12, 3) := by decide +kernel
theorem d7_9 : decode jdk_2055_method_14_code 9 = .ok (.iload_n 0, 1) := by decide +kernel
theorem d7_10 : decode jdk_2055_method_14_code 10 = .ok (.ifCond .eq 7, 3) := by decide +kernel
theorem d7_13 : decode jdk_2055_method_14_code 13 = .ok (.iconst 1, 1) := by decide +kernel
theorem d7_14 : decode jdk_2055_method_14_code 14 = .ok (.goto 4, 3) := by decide +kernel
theorem d7_17 : decode jdk_2055_method_14_code 17 = .ok (.iconst (-1), 1) := by decide +kernel
theorem d7_18 : decode jdk_2055_method_14_code 18 = .ok (.ireturn, 1) := by decide +kernel
theorem pn_7 : plainName "java/lang/Boolean" = true := by first | (simp [plainName, overriddenIn]; done) | decide +kernel
theorem ef_rm7 (m : MethodId) (x0 : Int32) (x1 : Int32) : entryFrame m #[(.int x0), (.int x1)] 2 = mkF m 0 #[.val (.int x0), .val (.int x1)] [] := by first | (simp [entryFrame, mkF, argsToLocals, Value.category]; done) | rfl
def own_bcmp (p1 : Int32) (p2 : Int32) : Int32 := (if p1 = p2 then (0 : Int32) else (if p1 = (0 : Int32) then (-1 : Int32) else (1 : Int32)))
set_option maxRecDepth 65536 in
set_option maxHeartbeats 40000000 in
theorem rm7 (l : Launch) (Z : State) (a0 : Array Value) (hw : ∀ d ∈ tables_1, d.before a0 Z = true) (ws : List Jvm.Cond) (p1 : Int32) (p2 : Int32) (h0 : Heap) (n0 : Nat) (Z0 : n0 ≤ h0.size)  :
    MetFree l (⟨"java/lang/Boolean", "compare", "(ZZ)I"⟩ : MethodName) (head1 (Jvm.Cond.code (⟨"java/lang/Boolean", "compare", "(ZZ)I"⟩ : MethodName) jdk_2055_method_14_code 2 (some .int) :: ws) ({ frames := 0, cells := 0, slots := 0, locals := 0 } : Room)) (fun a U => a = #[(.int p1), (.int p2)] ∧ Z.Warmed39 U.vm ∧ U.heap = h0) (fun _ _ _ _ _ => True) (fun _ U o U' => ∃ v L, o = .returned v ∧ QI (own_bcmp p1 p2) h0 n0 v U'.heap L ∧ FrameEnd U o U' L ({ frames := 0, cells := 0, slots := 0, locals := 0 } : Room).cells ({ frames := 0, cells := 0, slots := 0, locals := 0 } : Room).slots) := by
  refine MetFree.of_bodySF (plainFor_of_name pn_7) hisR ?_
  intro p e s m args below meth c s₁ Bd hml0 hP hK
  obtain ⟨rfl, hZ, hh⟩ := hP
  have hx := Bd.exec
  have hby := Bd.bytes
  have hlk : meth.locks = false := BodyLoose.notSynchronized Bd
  have hml : c.maxLocals = 2 := hml0
  have hown : s.vm.findClass "java/lang/Boolean" = some m.cls := findClass_of_methodNamed Bd.named
  have hnm := (name_of_methodNamed Bd.named Bd.method).1
  have X0 : Stand p l e ({ frames := 0, cells := 0, slots := 0, locals := 0 } : Room) s m #[(.int p1), (.int p2)] below meth c s₁ [] 0 0 := Stand.of_body Bd
  have e0 : s₁.heap = h0 := by rw [← hh, Bd.state]; rfl
  have N0 := Fr.nil n0
  show OwnEnds p e below s (QI (own_bcmp p1 p2) h0 n0) ({ frames := 0, cells := 0, slots := 0, locals := 0 } : Room).cells ({ frames := 0, cells := 0, slots := 0, locals := 0 } : Room).slots s₁ (entryFrame m #[(.int p1), (.int p2)] 2)
  refine own_step (T' := s₁) (f' := (mkF m 0 #[.val (.int p1), .val (.int p2)] [])) (fun t k => castTop (ef_rm7 m p1 p2) k) ?_
  refine own_step (T' := s₁) (f' := (mkF m 1 #[.val (.int p1), .val (.int p2)] [(.int p1)])) (fun t k => XS.iloadN X0.here hx rfl (hb hby d7_0) rfl k) ?_
  refine own_step (T' := s₁) (f' := (mkF m 2 #[.val (.int p1), .val (.int p2)] [(.int p2), (.int p1)])) (fun t k => XS.iloadN X0.here hx rfl (hb hby d7_1) rfl k) ?_
  by_cases hc2_1 : p1 = p2
  · skip
    refine own_step (T' := s₁) (f' := (mkF m 5 #[.val (.int p1), .val (.int p2)] [])) (fun t k => XS.icmpNo X0.here hx rfl (hb hby d7_2) rfl (teq hc2_1).2 k) ?_
    refine own_step (T' := s₁) (f' := (mkF m 6 #[.val (.int p1), .val (.int p2)] [(.int (0 : Int32))])) (fun t k => XS.iconst X0.here hx rfl (hb hby d7_5) k) ?_
    refine own_step (T' := s₁) (f' := (mkF m 18 #[.val (.int p1), .val (.int p2)] [(.int (0 : Int32))])) (fun t k => XS.goto X0.here hx rfl (pc0 := 6) (pc' := 18) rfl (hb hby d7_6) (by decide) (by decide) k) ?_
    exact own_retO X0 hx hlk Bd.returns rfl (Or.inl ⟨rfl, Or.inl rfl, _, rfl⟩) (hb hby d7_18) (by decide) (by decide) ⟨by unfold own_bcmp; rw [if_pos hc2_1]; try rfl, N0, e0⟩
  · skip
    refine own_step (T' := s₁) (f' := (mkF m 9 #[.val (.int p1), .val (.int p2)] [])) (fun t k => XS.icmpYes X0.here hx rfl (pc0 := 2) (pc' := 9) rfl (hb hby d7_2) rfl (feq hc2_1).2 (by decide) (by decide) k) ?_
    refine own_step (T' := s₁) (f' := (mkF m 10 #[.val (.int p1), .val (.int p2)] [(.int p1)])) (fun t k => XS.iloadN X0.here hx rfl (hb hby d7_9) rfl k) ?_
    by_cases hc10_2 : p1 = (0 : Int32)
    · skip
      refine own_step (T' := s₁) (f' := (mkF m 17 #[.val (.int p1), .val (.int p2)] [])) (fun t k => XS.ifYes X0.here hx rfl (pc0 := 10) (pc' := 17) rfl (hb hby d7_10) rfl ((if0 _ _).trans (teq hc10_2).1) (by decide) (by decide) k) ?_
      refine own_step (T' := s₁) (f' := (mkF m 18 #[.val (.int p1), .val (.int p2)] [(.int (-1 : Int32))])) (fun t k => XS.iconst X0.here hx rfl (hb hby d7_17) k) ?_
      exact own_retO X0 hx hlk Bd.returns rfl (Or.inl ⟨rfl, Or.inl rfl, _, rfl⟩) (hb hby d7_18) (by decide) (by decide) ⟨by unfold own_bcmp; rw [if_neg hc2_1, if_pos hc10_2]; try rfl, N0, e0⟩
    · skip
      refine own_step (T' := s₁) (f' := (mkF m 13 #[.val (.int p1), .val (.int p2)] [])) (fun t k => XS.ifNo X0.here hx rfl (hb hby d7_10) rfl ((if0 _ _).trans (feq hc10_2).1) k) ?_
      refine own_step (T' := s₁) (f' := (mkF m 14 #[.val (.int p1), .val (.int p2)] [(.int (1 : Int32))])) (fun t k => XS.iconst X0.here hx rfl (hb hby d7_13) k) ?_
      refine own_step (T' := s₁) (f' := (mkF m 18 #[.val (.int p1), .val (.int p2)] [(.int (1 : Int32))])) (fun t k => XS.goto X0.here hx rfl (pc0 := 14) (pc' := 18) rfl (hb hby d7_14) (by decide) (by decide) k) ?_
      exact own_retO X0 hx hlk Bd.returns rfl (Or.inl ⟨rfl, Or.inl rfl, _, rfl⟩) (hb hby d7_18) (by decide) (by decide) ⟨by unfold own_bcmp; rw [if_neg hc2_1, if_neg hc10_2]; try rfl, N0, e0⟩

theorem d6_0 : decode prog_7_method_5_code 0 = .ok (.aload_n 0, 1) := by decide +kernel
theorem d6_1 : decode prog_7_method_5_code 1 = .ok (.getfield 7, 3) := by decide +kernel
theorem d6_4 : decode prog_7_method_5_code 4 = .ok (.aload_n 1, 1) := by decide +kernel
theorem d6_5 : decode prog_7_method_5_code 5 = .ok (.checkcast 8, 3) := by decide +kernel
theorem d6_8 : decode prog_7_method_5_code 8 = .ok (.getfield 7, 3) := by decide +kernel
theorem d6_11 : decode prog_7_method_5_code 11 = .ok (.invokestatic 26, 3) := by decide +kernel
theorem d6_14 : decode prog_7_method_5_code 14 = .ok (.ireturn, 1) := by decide +kernel
theorem pn_6 : plainName "com/example/umriss/umriss/runtime/BooleanValue" = true := by first | (simp [plainName, overriddenIn]; done) | decide +kernel
theorem pd_6_0 : parseMethodDescriptor "(ZZ)I" = some ⟨[.boolean, .boolean], some .int⟩ := by decide +kernel
theorem ef_rm6 (m : MethodId) (x0 : Addr) (x1 : Addr) : entryFrame m #[(.ref x0), (.ref x1)] 2 = mkF m 0 #[.val (.ref x0), .val (.ref x1)] [] := by first | (simp [entryFrame, mkF, argsToLocals, Value.category]; done) | rfl
set_option maxRecDepth 65536 in
set_option maxHeartbeats 40000000 in
theorem rm6 (l : Launch) (Z : State) (a0 : Array Value) (hw : ∀ d ∈ tables_1, d.before a0 Z = true) (ws : List Jvm.Cond) (a1 : Addr) (a2 : Addr) (h0 : Heap) (n0 : Nat) (Z0 : n0 ≤ h0.size) (z1 z2 : Int32) (F_a1 : Fld Z h0 a1 "com/example/umriss/umriss/runtime/BooleanValue" "value" "Z" (.int z1)) (E_a1 : Exa Z h0 a1 "com/example/umriss/umriss/runtime/BooleanValue") (F_a2 : Fld Z h0 a2 "com/example/umriss/umriss/runtime/BooleanValue" "value" "Z" (.int z2)) (E_a2 : Exa Z h0 a2 "com/example/umriss/umriss/runtime/BooleanValue") :
    MetFree l (⟨"com/example/umriss/umriss/runtime/BooleanValue", "compareWithinKind", "(Lcom/example/umriss/umriss/runtime/Value;)I"⟩ : MethodName) (head1 (Jvm.Cond.code (⟨"com/example/umriss/umriss/runtime/BooleanValue", "compareWithinKind", "(Lcom/example/umriss/umriss/runtime/Value;)I"⟩ : MethodName) prog_7_method_5_code 2 (some .int) :: ws) ({ frames := 1, cells := 0, slots := 0, locals := 13 } : Room)) (fun a U => a = #[(.ref a1), (.ref a2)] ∧ Z.Warmed39 U.vm ∧ U.heap = h0) (fun _ _ _ _ _ => True) (fun _ U o U' => ∃ v L, o = .returned v ∧ QI (own_bcmp z1 z2) h0 n0 v U'.heap L ∧ FrameEnd U o U' L ({ frames := 1, cells := 0, slots := 0, locals := 13 } : Room).cells ({ frames := 1, cells := 0, slots := 0, locals := 13 } : Room).slots) := by
  refine MetFree.of_bodySF (plainFor_of_name pn_6) hisR ?_
  intro p e s m args below meth c s₁ Bd hml0 hP hK
  obtain ⟨rfl, hZ, hh⟩ := hP
  have hx := Bd.exec
  have hby := Bd.bytes
  have hlk : meth.locks = false := BodyLoose.notSynchronized Bd
  have hml : c.maxLocals = 2 := hml0
  have hown : s.vm.findClass "com/example/umriss/umriss/runtime/BooleanValue" = some m.cls := findClass_of_methodNamed Bd.named
  have hnm := (name_of_methodNamed Bd.named Bd.method).1
  have X0 : Stand p l e ({ frames := 1, cells := 0, slots := 0, locals := 13 } : Room) s m #[(.ref a1), (.ref a2)] below meth c s₁ [] 0 0 := Stand.of_body Bd
  have e0 : s₁.heap = h0 := by rw [← hh, Bd.state]; rfl
  have N0 := Fr.nil n0
  show OwnEnds p e below s (QI (own_bcmp z1 z2) h0 n0) ({ frames := 1, cells := 0, slots := 0, locals := 13 } : Room).cells ({ frames := 1, cells := 0, slots := 0, locals := 13 } : Room).slots s₁ (entryFrame m #[(.ref a1), (.ref a2)] 2)
  refine own_step (T' := s₁) (f' := (mkF m 0 #[.val (.ref a1), .val (.ref a2)] [])) (fun t k => castTop (ef_rm6 m a1 a2) k) ?_
  refine own_step (T' := s₁) (f' := (mkF m 1 #[.val (.ref a1), .val (.ref a2)] [(.ref a1)])) (fun t k => XS.aloadN X0.here hx rfl (hb hby d6_0) rfl rfl k) ?_
  obtain ⟨T1, X1, e1, st1⟩ := getF X0 hx hZ hown (host := "") (Or.inl (hw _ (List.mem_of_getElem? (i := 13) rfl))) Via.refl e0 F_a1 (g := (mkF m 1 #[.val (.ref a1), .val (.ref a2)] [(.ref a1)])) rfl rfl (hb hby d6_1)
  refine own_step (T' := T1) (f' := (mkF m 4 #[.val (.ref a1), .val (.ref a2)] [(.int z1)])) (fun t k => st1 t k) ?_
  refine own_step (T' := T1) (f' := (mkF m 5 #[.val (.ref a1), .val (.ref a2)] [(.ref a2), (.int z1)])) (fun t k => XS.aloadN X1.here hx rfl (hb hby d6_4) rfl rfl k) ?_
  obtain ⟨T2, X2, e2, st2⟩ := castY X1 hx hZ hown (hw _ (List.mem_of_getElem? (i := 54) rfl)) e1 (Ins.self E_a2) (g := (mkF m 5 #[.val (.ref a1), .val (.ref a2)] [(.ref a2), (.int z1)])) rfl rfl (hb hby d6_5)
  refine own_step (T' := T2) (f' := (mkF m 8 #[.val (.ref a1), .val (.ref a2)] [(.ref a2), (.int z1)])) (fun t k => st2 t k) ?_
  obtain ⟨T3, X3, e3, st3⟩ := getF X2 hx hZ hown (host := "") (Or.inl (hw _ (List.mem_of_getElem? (i := 13) rfl))) Via.refl e2 F_a2 (g := (mkF m 8 #[.val (.ref a1), .val (.ref a2)] [(.ref a2), (.int z1)])) rfl rfl (hb hby d6_8)
  refine own_step (T' := T3) (f' := (mkF m 11 #[.val (.ref a1), .val (.ref a2)] [(.int z2), (.int z1)])) (fun t k => st3 t k) ?_
  obtain ⟨_, _, ⟨T4, L4, k4, n4⟩, -, X4, ⟨Lc4, hQ4, l4, y4, z4⟩, st4⟩ := Jvm.LawKit.callS X3 hx (y := (⟨"java/lang/Boolean", "compare", "(ZZ)I"⟩ : MethodName)) hown (mvT hZ (hw _ (List.mem_of_getElem? (i := 56) rfl))) (mvT hZ (hw _ (List.mem_of_getElem? (i := 57) rfl))) (mvT hZ (hw _ (List.mem_of_getElem? (i := 58) rfl))) (mvT hZ (hw _ (List.mem_of_getElem? (i := 59) rfl))) (by decide) (backOf (W := 0) (rm7 l Z a0 hw [] z1 z2 h0 n0 Z0) hZ (hw _ (List.mem_of_getElem? (i := 59) rfl)) (hw _ (List.mem_of_getElem? (i := 58) rfl)) (by decide) (by decide)) (g := (mkF m 11 #[.val (.ref a1), .val (.ref a2)] [(.int z2), (.int z1)])) rfl (by rw [hml]; rfl) (argsL := [(.int z1), (.int z2)]) (rest := []) (lenOf pd_6_0 rfl) rfl (by show 2 * 0 + _ ≤ _; exact Nat.le_of_eq rfl) (hb hby d6_11) (fun _ _ => ⟨rfl, e3, (by decide : 0 + 0 ≤ _), (by decide : 0 + 0 ≤ _)⟩)
  dsimp only [Pt.U, Pt.locs, Pt.cells, Pt.slots] at X4 l4 y4 z4 st4 hQ4
  subst l4 y4 z4
  obtain ⟨rfl, N4q, E4⟩ := hQ4
  have N4 := Fr.app N0 N4q
  refine own_step (T' := T4) (f' := (mkF m 14 #[.val (.ref a1), .val (.ref a2)] [(.int (own_bcmp z1 z2))])) (fun t k => st4 t k) ?_
  exact own_retO X4 hx hlk Bd.returns rfl (Or.inl ⟨rfl, Or.inl rfl, _, rfl⟩) (hb hby d6_14) (by decide) (by decide) ⟨rfl, N4, E4⟩

theorem own_mirror {Z s : State} {C : String} {c : ClassId} {k : Class} {mr : Addr} (hZ : Z.Warmed39 s.vm) (hM : ∃ (c : ClassId) (k : Class), Z.vm.findClass C = some c ∧ Z.vm.classes[c]? = some k ∧ k.mirror = some mr) (h1 : s.vm.findClass C = some c) (h2 : s.vm.classes[c]? = some k) : k.mirror = some mr := by
  obtain ⟨c0, k0, m1, m2, m3⟩ := hM
  rw [hZ.alike.findClass] at h1
  cases h1.symm.trans m1
  obtain ⟨k', q, ek⟩ := hZ.alike.2.2 _ _ m2
  cases h2.symm.trans q
  rw [ek]; exact m3
theorem d5_0 : decode jdk_37_method_8_code 0 = .ok (.aload_n 1, 1) := by decide +kernel
theorem d5_1 : decode jdk_37_method_8_code 1 = .ok (.astore_n 2, 1) := by decide +kernel
theorem d5_2 : decode jdk_37_method_8_code 2 = .ok (.aload_n 0, 1) := by decide +kernel
theorem d5_3 : decode jdk_37_method_8_code 3 = .ok (.astore_n 3, 1) := by decide +kernel
theorem d5_4 : decode jdk_37_method_8_code 4 = .ok (.aload_n 3, 1) := by decide +kernel
theorem d5_5 : decode jdk_37_method_8_code 5 = .ok (.invokevirtual 29, 3) := by decide +kernel
theorem d5_8 : decode jdk_37_method_8_code 8 = .ok (.aload_n 2, 1) := by decide +kernel
theorem d5_9 : decode jdk_37_method_8_code 9 = .ok (.invokevirtual 29, 3) := by decide +kernel
theorem d5_12 : decode jdk_37_method_8_code 12 = .ok (.if_acmp .eq 22, 3) := by decide +kernel
theorem d5_34 : decode jdk_37_method_8_code 34 = .ok (.aload_n 3, 1) := by decide +kernel
theorem d5_35 : decode jdk_37_method_8_code 35 = .ok (.getfield 7, 3) := by decide +kernel
theorem d5_38 : decode jdk_37_method_8_code 38 = .ok (.aload_n 2, 1) := by decide +kernel
theorem d5_39 : decode jdk_37_method_8_code 39 = .ok (.getfield 7, 3) := by decide +kernel
theorem d5_42 : decode jdk_37_method_8_code 42 = .ok (.isub, 1) := by decide +kernel
theorem d5_43 : decode jdk_37_method_8_code 43 = .ok (.ireturn, 1) := by decide +kernel
theorem pn_5 : plainName "java/lang/Enum" = true := by first | (simp [plainName, overriddenIn]; done) | decide +kernel
theorem ef_rm5 (m : MethodId) (x0 : Addr) (x1 : Addr) : entryFrame m #[(.ref x0), (.ref x1)] 4 = mkF m 0 #[.val (.ref x0), .val (.ref x1), .unset, .unset] [] := by first | (simp [entryFrame, mkF, argsToLocals, Value.category]; done) | rfl
set_option maxRecDepth 65536 in
set_option maxHeartbeats 40000000 in
theorem rm5 (l : Launch) (Z : State) (a0 : Array Value) (hw : ∀ d ∈ tables_1, d.before a0 Z = true) (ws : List Jvm.Cond) (a1 : Addr) (h0 : Heap) (n0 : Nat) (Z0 : n0 ≤ h0.size) (X_K : Exa Z h0 a1 "com/example/umriss/umriss/runtime/Value$Kind") (F_o : Fld Z h0 a1 "java/lang/Enum" "ordinal" "I" (.int (1 : Int32))) (mr : Addr) (hM : ∃ (c : ClassId) (k : Class), Z.vm.findClass "com/example/umriss/umriss/runtime/Value$Kind" = some c ∧ Z.vm.classes[c]? = some k ∧ k.mirror = some mr) :
    MetFree l (⟨"java/lang/Enum", "compareTo", "(Ljava/lang/Enum;)I"⟩ : MethodName) (head1 (Jvm.Cond.code (⟨"java/lang/Enum", "compareTo", "(Ljava/lang/Enum;)I"⟩ : MethodName) jdk_37_method_8_code 4 (some .int) :: ws) ({ frames := 1, cells := 0, slots := 0, locals := 20 } : Room)) (fun a U => a = #[(.ref a1), (.ref a1)] ∧ Z.Warmed39 U.vm ∧ U.heap = h0) (fun _ _ _ _ _ => True) (fun _ U o U' => ∃ v L, o = .returned v ∧ QI 0 h0 n0 v U'.heap L ∧ FrameEnd U o U' L ({ frames := 1, cells := 0, slots := 0, locals := 20 } : Room).cells ({ frames := 1, cells := 0, slots := 0, locals := 20 } : Room).slots) := by
  refine MetFree.of_bodySF (plainFor_of_name pn_5) hisR ?_
  intro p e s m args below meth c s₁ Bd hml0 hP hK
  obtain ⟨rfl, hZ, hh⟩ := hP
  have hx := Bd.exec
  have hby := Bd.bytes
  have hlk : meth.locks = false := BodyLoose.notSynchronized Bd
  have hml : c.maxLocals = 4 := hml0
  have hown : s.vm.findClass "java/lang/Enum" = some m.cls := findClass_of_methodNamed Bd.named
  have hnm := (name_of_methodNamed Bd.named Bd.method).1
  have X0 : Stand p l e ({ frames := 1, cells := 0, slots := 0, locals := 20 } : Room) s m #[(.ref a1), (.ref a1)] below meth c s₁ [] 0 0 := Stand.of_body Bd
  have e0 : s₁.heap = h0 := by rw [← hh, Bd.state]; rfl
  have N0 := Fr.nil n0
  show OwnEnds p e below s (QI 0 h0 n0) ({ frames := 1, cells := 0, slots := 0, locals := 20 } : Room).cells ({ frames := 1, cells := 0, slots := 0, locals := 20 } : Room).slots s₁ (entryFrame m #[(.ref a1), (.ref a1)] 4)
  refine own_step (T' := s₁) (f' := (mkF m 0 #[.val (.ref a1), .val (.ref a1), .unset, .unset] [])) (fun t k => castTop (ef_rm5 m a1 a1) k) ?_
  refine own_step (T' := s₁) (f' := (mkF m 1 #[.val (.ref a1), .val (.ref a1), .unset, .unset] [(.ref a1)])) (fun t k => XS.aloadN X0.here hx rfl (hb hby d5_0) rfl rfl k) ?_
  refine own_step (T' := s₁) (f' := (mkF m 2 #[.val (.ref a1), .val (.ref a1), .val (.ref a1), .unset] [])) (fun t k => XS.astoreN X0.here hx rfl (hb hby d5_1) rfl rfl (l' := #[.val (.ref a1), .val (.ref a1), .val (.ref a1), .unset]) rfl k) ?_
  refine own_step (T' := s₁) (f' := (mkF m 3 #[.val (.ref a1), .val (.ref a1), .val (.ref a1), .unset] [(.ref a1)])) (fun t k => XS.aloadN X0.here hx rfl (hb hby d5_2) rfl rfl k) ?_
  refine own_step (T' := s₁) (f' := (mkF m 4 #[.val (.ref a1), .val (.ref a1), .val (.ref a1), .val (.ref a1)] [])) (fun t k => XS.astoreN X0.here hx rfl (hb hby d5_3) rfl rfl (l' := #[.val (.ref a1), .val (.ref a1), .val (.ref a1), .val (.ref a1)]) rfl k) ?_
  refine own_step (T' := s₁) (f' := (mkF m 5 #[.val (.ref a1), .val (.ref a1), .val (.ref a1), .val (.ref a1)] [(.ref a1)])) (fun t k => XS.aloadN X0.here hx rfl (hb hby d5_4) rfl rfl k) ?_
  obtain ⟨cq1, kq1, q1a, q1b, q1c⟩ := isOf hZ e0 X_K
  obtain ⟨vm1, X1, st1⟩ := X0.getClassOf hx hown (mvT hZ (hw _ (List.mem_of_getElem? (i := 41) rfl))) (mvT hZ (hw _ (List.mem_of_getElem? (i := 42) rfl))) (notFace_of_selects (args := #[]) (mvT hZ (hw _ (List.mem_of_getElem? (i := 44) rfl)))) (mvT hZ (hw _ (List.mem_of_getElem? (i := 44) rfl))) (mvT hZ (hw _ (List.mem_of_getElem? (i := 43) rfl))) (mvT hZ (hw _ (List.mem_of_getElem? (i := 45) rfl))) q1a q1c q1b (own_mirror hZ hM q1a q1b) (g := (mkF m 5 #[.val (.ref a1), .val (.ref a1), .val (.ref a1), .val (.ref a1)] [(.ref a1)])) rfl (by rw [hml]; rfl) rfl (hb hby d5_5) (by decide) (by show 2 * 0 + _ + _ ≤ _; exact Nat.le_of_ble_eq_true rfl)
  refine own_step (T' := (s₁.setVm vm1)) (f' := (mkF m 8 #[.val (.ref a1), .val (.ref a1), .val (.ref a1), .val (.ref a1)] [(.ref mr)])) (fun t k => st1 t k) ?_
  refine own_step (T' := (s₁.setVm vm1)) (f' := (mkF m 9 #[.val (.ref a1), .val (.ref a1), .val (.ref a1), .val (.ref a1)] [(.ref a1), (.ref mr)])) (fun t k => XS.aloadN X1.here hx rfl (hb hby d5_8) rfl rfl k) ?_
  obtain ⟨cq2, kq2, q2a, q2b, q2c⟩ := isOf hZ e0 X_K
  obtain ⟨vm2, X2, st2⟩ := X1.getClassOf hx hown (mvT hZ (hw _ (List.mem_of_getElem? (i := 41) rfl))) (mvT hZ (hw _ (List.mem_of_getElem? (i := 42) rfl))) (notFace_of_selects (args := #[]) (mvT hZ (hw _ (List.mem_of_getElem? (i := 44) rfl)))) (mvT hZ (hw _ (List.mem_of_getElem? (i := 44) rfl))) (mvT hZ (hw _ (List.mem_of_getElem? (i := 43) rfl))) (mvT hZ (hw _ (List.mem_of_getElem? (i := 45) rfl))) q2a q2c q2b (own_mirror hZ hM q2a q2b) (g := (mkF m 9 #[.val (.ref a1), .val (.ref a1), .val (.ref a1), .val (.ref a1)] [(.ref a1), (.ref mr)])) rfl (by rw [hml]; rfl) rfl (hb hby d5_9) (by decide) (by show 2 * 0 + _ + _ ≤ _; exact Nat.le_of_ble_eq_true rfl)
  refine own_step (T' := ((s₁.setVm vm1).setVm vm2)) (f' := (mkF m 12 #[.val (.ref a1), .val (.ref a1), .val (.ref a1), .val (.ref a1)] [(.ref mr), (.ref mr)])) (fun t k => st2 t k) ?_
  refine own_step (T' := ((s₁.setVm vm1).setVm vm2)) (f' := (mkF m 34 #[.val (.ref a1), .val (.ref a1), .val (.ref a1), .val (.ref a1)] [])) (fun t k => Jvm.RoadKit.acmp (g := (mkF m 12 #[.val (.ref a1), .val (.ref a1), .val (.ref a1), .val (.ref a1)] [(.ref mr), (.ref mr)])) X2 hx rfl rfl rfl (pc0 := 12) (pc' := 34) (same := true) rfl (hb hby d5_12) rfl (decide_eq_true rfl) (by decide) (by decide) k) ?_
  refine own_step (T' := ((s₁.setVm vm1).setVm vm2)) (f' := (mkF m 35 #[.val (.ref a1), .val (.ref a1), .val (.ref a1), .val (.ref a1)] [(.ref a1)])) (fun t k => XS.aloadN X2.here hx rfl (hb hby d5_34) rfl rfl k) ?_
  obtain ⟨T3, X3, e3, st3⟩ := getF X2 hx hZ hown (host := "") (Or.inl (hw _ (List.mem_of_getElem? (i := 47) rfl))) Via.refl e0 F_o (g := (mkF m 35 #[.val (.ref a1), .val (.ref a1), .val (.ref a1), .val (.ref a1)] [(.ref a1)])) rfl rfl (hb hby d5_35)
  refine own_step (T' := T3) (f' := (mkF m 38 #[.val (.ref a1), .val (.ref a1), .val (.ref a1), .val (.ref a1)] [(.int (1 : Int32))])) (fun t k => st3 t k) ?_
  refine own_step (T' := T3) (f' := (mkF m 39 #[.val (.ref a1), .val (.ref a1), .val (.ref a1), .val (.ref a1)] [(.ref a1), (.int (1 : Int32))])) (fun t k => XS.aloadN X3.here hx rfl (hb hby d5_38) rfl rfl k) ?_
  obtain ⟨T4, X4, e4, st4⟩ := getF X3 hx hZ hown (host := "") (Or.inl (hw _ (List.mem_of_getElem? (i := 47) rfl))) Via.refl e3 F_o (g := (mkF m 39 #[.val (.ref a1), .val (.ref a1), .val (.ref a1), .val (.ref a1)] [(.ref a1), (.int (1 : Int32))])) rfl rfl (hb hby d5_39)
  refine own_step (T' := T4) (f' := (mkF m 42 #[.val (.ref a1), .val (.ref a1), .val (.ref a1), .val (.ref a1)] [(.int (1 : Int32)), (.int (1 : Int32))])) (fun t k => st4 t k) ?_
  refine own_step (T' := T4) (f' := (mkF m 43 #[.val (.ref a1), .val (.ref a1), .val (.ref a1), .val (.ref a1)] [(.int (0 : Int32))])) (fun t k => XS.isub X4.here hx rfl (hb hby d5_42) rfl k) ?_
  exact own_retO X4 hx hlk Bd.returns rfl (Or.inl ⟨rfl, Or.inl rfl, _, rfl⟩) (hb hby d5_43) (by decide) (by decide) ⟨rfl, N0, e4⟩

theorem d4_0 : decode prog_66_method_5_code 0 = .ok (.aload_n 0, 1) := by decide +kernel
theorem d4_1 : decode prog_66_method_5_code 1 = .ok (.invokevirtual 7, 3) := by decide +kernel
theorem d4_4 : decode prog_66_method_5_code 4 = .ok (.aload_n 1, 1) := by decide +kernel
theorem d4_5 : decode prog_66_method_5_code 5 = .ok (.invokevirtual 7, 3) := by decide +kernel
theorem d4_8 : decode prog_66_method_5_code 8 = .ok (.invokevirtual 13, 3) := by decide +kernel
theorem d4_11 : decode prog_66_method_5_code 11 = .ok (.istore_n 2, 1) := by decide +kernel
theorem d4_12 : decode prog_66_method_5_code 12 = .ok (.iload_n 2, 1) := by decide +kernel
theorem d4_13 : decode prog_66_method_5_code 13 = .ok (.ifCond .ne 9, 3) := by decide +kernel
theorem d4_16 : decode prog_66_method_5_code 16 = .ok (.aload_n 0, 1) := by decide +kernel
theorem d4_17 : decode prog_66_method_5_code 17 = .ok (.aload_n 1, 1) := by decide +kernel
theorem d4_18 : decode prog_66_method_5_code 18 = .ok (.invokevirtual 19, 3) := by decide +kernel
theorem d4_21 : decode prog_66_method_5_code 21 = .ok (.istore_n 2, 1) := by decide +kernel
theorem d4_22 : decode prog_66_method_5_code 22 = .ok (.iload_n 2, 1) := by decide +kernel
theorem d4_23 : decode prog_66_method_5_code 23 = .ok (.ireturn, 1) := by decide +kernel
theorem pn_4 : plainName "com/example/umriss/umriss/runtime/Value" = true := by first | (simp [plainName, overriddenIn]; done) | decide +kernel
theorem pd_4_0 : parseMethodDescriptor "()Lcom/example/umriss/umriss/runtime/Value$Kind;" = some ⟨[], some (.object "com/example/umriss/umriss/runtime/Value$Kind")⟩ := by decide +kernel
theorem pd_4_1 : parseMethodDescriptor "(Ljava/lang/Enum;)I" = some ⟨[(.object "java/lang/Enum")], some .int⟩ := by decide +kernel
theorem pd_4_2 : parseMethodDescriptor "(Lcom/example/umriss/umriss/runtime/Value;)I" = some ⟨[(.object "com/example/umriss/umriss/runtime/Value")], some .int⟩ := by decide +kernel
theorem ef_rm4 (m : MethodId) (x0 : Addr) (x1 : Addr) : entryFrame m #[(.ref x0), (.ref x1)] 3 = mkF m 0 #[.val (.ref x0), .val (.ref x1), .unset] [] := by first | (simp [entryFrame, mkF, argsToLocals, Value.category]; done) | rfl
set_option maxRecDepth 65536 in
set_option maxHeartbeats 40000000 in
theorem rm4 (l : Launch) (Z : State) (a0 : Array Value) (hw : ∀ d ∈ tables_1, d.before a0 Z = true) (ws : List Jvm.Cond) (a1 : Addr) (a2 : Addr) (h0 : Heap) (n0 : Nat) (Z0 : n0 ≤ h0.size) (z1 z2 : Int32) (F_a1 : Fld Z h0 a1 "com/example/umriss/umriss/runtime/BooleanValue" "value" "Z" (.int z1)) (E_a1 : Exa Z h0 a1 "com/example/umriss/umriss/runtime/BooleanValue") (F_a2 : Fld Z h0 a2 "com/example/umriss/umriss/runtime/BooleanValue" "value" "Z" (.int z2)) (E_a2 : Exa Z h0 a2 "com/example/umriss/umriss/runtime/BooleanValue") (aK : Addr) (S_K : Sta Z h0 "com/example/umriss/umriss/runtime/Value$Kind" "BOOLEAN" "Lcom/example/umriss/umriss/runtime/Value$Kind;" (.ref aK)) (X_K : Exa Z h0 aK "com/example/umriss/umriss/runtime/Value$Kind") (F_o : Fld Z h0 aK "java/lang/Enum" "ordinal" "I" (.int (1 : Int32))) (mr : Addr) (hM : ∃ (c : ClassId) (k : Class), Z.vm.findClass "com/example/umriss/umriss/runtime/Value$Kind" = some c ∧ Z.vm.classes[c]? = some k ∧ k.mirror = some mr) :
    MetFree l (⟨"com/example/umriss/umriss/runtime/Value", "compareTo", "(Lcom/example/umriss/umriss/runtime/Value;)I"⟩ : MethodName) (head1 (Jvm.Cond.code (⟨"com/example/umriss/umriss/runtime/Value", "compareTo", "(Lcom/example/umriss/umriss/runtime/Value;)I"⟩ : MethodName) prog_66_method_5_code 3 (some .int) :: ws) ({ frames := 2, cells := 0, slots := 0, locals := 40 } : Room)) (fun a U => a = #[(.ref a1), (.ref a2)] ∧ Z.Warmed39 U.vm ∧ U.heap = h0) (fun _ _ _ _ _ => True) (fun _ U o U' => ∃ v L, o = .returned v ∧ QI (own_bcmp z1 z2) h0 n0 v U'.heap L ∧ FrameEnd U o U' L ({ frames := 2, cells := 0, slots := 0, locals := 40 } : Room).cells ({ frames := 2, cells := 0, slots := 0, locals := 40 } : Room).slots) := by
  refine MetFree.of_bodySF (plainFor_of_name pn_4) hisR ?_
  intro p e s m args below meth c s₁ Bd hml0 hP hK
  obtain ⟨rfl, hZ, hh⟩ := hP
  have hx := Bd.exec
  have hby := Bd.bytes
  have hlk : meth.locks = false := BodyLoose.notSynchronized Bd
  have hml : c.maxLocals = 3 := hml0
  have hown : s.vm.findClass "com/example/umriss/umriss/runtime/Value" = some m.cls := findClass_of_methodNamed Bd.named
  have hnm := (name_of_methodNamed Bd.named Bd.method).1
  have X0 : Stand p l e ({ frames := 2, cells := 0, slots := 0, locals := 40 } : Room) s m #[(.ref a1), (.ref a2)] below meth c s₁ [] 0 0 := Stand.of_body Bd
  have e0 : s₁.heap = h0 := by rw [← hh, Bd.state]; rfl
  have N0 := Fr.nil n0
  show OwnEnds p e below s (QI (own_bcmp z1 z2) h0 n0) ({ frames := 2, cells := 0, slots := 0, locals := 40 } : Room).cells ({ frames := 2, cells := 0, slots := 0, locals := 40 } : Room).slots s₁ (entryFrame m #[(.ref a1), (.ref a2)] 3)
  refine own_step (T' := s₁) (f' := (mkF m 0 #[.val (.ref a1), .val (.ref a2), .unset] [])) (fun t k => castTop (ef_rm4 m a1 a2) k) ?_
  refine own_step (T' := s₁) (f' := (mkF m 1 #[.val (.ref a1), .val (.ref a2), .unset] [(.ref a1)])) (fun t k => XS.aloadN X0.here hx rfl (hb hby d4_0) rfl rfl k) ?_
  obtain ⟨cq1, kq1, q1a, q1b, q1c⟩ := isOf hZ e0 E_a1
  obtain ⟨_, _, ⟨T1, L1, k1, n1⟩, -, X1, ⟨Lc1, hQ1, l1, y1, z1⟩, st1⟩ := X0.virtualBack hx (y := (⟨"com/example/umriss/umriss/runtime/Value", "kind", "()Lcom/example/umriss/umriss/runtime/Value$Kind;"⟩ : MethodName)) (z := (⟨"com/example/umriss/umriss/runtime/BooleanValue", "kind", "()Lcom/example/umriss/umriss/runtime/Value$Kind;"⟩ : MethodName)) hown (mvT hZ (hw _ (List.mem_of_getElem? (i := 31) rfl))) (mvT hZ (hw _ (List.mem_of_getElem? (i := 32) rfl))) (own_nf (args := #[]) (mvT hZ (hw _ (List.mem_of_getElem? (i := 28) rfl))) rfl) (mvT hZ (hw _ (List.mem_of_getElem? (i := 33) rfl))) (mvT hZ (hw _ (List.mem_of_getElem? (i := 17) rfl))) (by decide) (backOf (W := 0) (rm3 l Z a0 hw [] a1 h0 n0 Z0 aK S_K) hZ (hw _ (List.mem_of_getElem? (i := 19) rfl)) (hw _ (List.mem_of_getElem? (i := 2) rfl)) (by decide) (by decide)) q1a q1c (g := (mkF m 1 #[.val (.ref a1), .val (.ref a2), .unset] [(.ref a1)])) rfl (by rw [hml]; rfl) (Steps.refl _) (argsL := []) (rest := []) (lenOf pd_4_0 rfl) rfl (by show 2 * 0 + _ ≤ _; exact Nat.le_of_eq rfl) (hb hby d4_1) (fun _ _ => ⟨rfl, e0, (by decide : 0 + 0 ≤ _), (by decide : 0 + 0 ≤ _)⟩)
  dsimp only [Pt.U, Pt.locs, Pt.cells, Pt.slots] at X1 l1 y1 z1 st1 hQ1
  subst l1 y1 z1
  obtain ⟨rfl, N1q, E1⟩ := hQ1
  have N1 := Fr.app N0 N1q
  refine own_step (T' := T1) (f' := (mkF m 4 #[.val (.ref a1), .val (.ref a2), .unset] [(.ref aK)])) (fun t k => st1.trans k) ?_
  refine own_step (T' := T1) (f' := (mkF m 5 #[.val (.ref a1), .val (.ref a2), .unset] [(.ref a2), (.ref aK)])) (fun t k => XS.aloadN X1.here hx rfl (hb hby d4_4) rfl rfl k) ?_
  obtain ⟨cq2, kq2, q2a, q2b, q2c⟩ := isOf hZ E1 E_a2
  obtain ⟨_, _, ⟨T2, L2, k2, n2⟩, -, X2, ⟨Lc2, hQ2, l2, y2, z2⟩, st2⟩ := X1.virtualBack hx (y := (⟨"com/example/umriss/umriss/runtime/Value", "kind", "()Lcom/example/umriss/umriss/runtime/Value$Kind;"⟩ : MethodName)) (z := (⟨"com/example/umriss/umriss/runtime/BooleanValue", "kind", "()Lcom/example/umriss/umriss/runtime/Value$Kind;"⟩ : MethodName)) hown (mvT hZ (hw _ (List.mem_of_getElem? (i := 31) rfl))) (mvT hZ (hw _ (List.mem_of_getElem? (i := 32) rfl))) (own_nf (args := #[]) (mvT hZ (hw _ (List.mem_of_getElem? (i := 28) rfl))) rfl) (mvT hZ (hw _ (List.mem_of_getElem? (i := 33) rfl))) (mvT hZ (hw _ (List.mem_of_getElem? (i := 17) rfl))) (by decide) (backOf (W := 1) (rm3 l Z a0 hw [] a2 h0 n0 Z0 aK S_K) hZ (hw _ (List.mem_of_getElem? (i := 19) rfl)) (hw _ (List.mem_of_getElem? (i := 2) rfl)) (by decide) (by decide)) q2a q2c (g := (mkF m 5 #[.val (.ref a1), .val (.ref a2), .unset] [(.ref a2), (.ref aK)])) rfl (by rw [hml]; rfl) (Steps.refl _) (argsL := []) (rest := [(.ref aK)]) (lenOf pd_4_0 rfl) rfl (by show 2 * 0 + _ ≤ _; exact Nat.le_of_eq rfl) (hb hby d4_5) (fun _ _ => ⟨rfl, E1, (by decide : 0 + 0 ≤ _), (by decide : 0 + 0 ≤ _)⟩)
  dsimp only [Pt.U, Pt.locs, Pt.cells, Pt.slots] at X2 l2 y2 z2 st2 hQ2
  subst l2 y2 z2
  obtain ⟨rfl, N2q, E2⟩ := hQ2
  have N2 := Fr.app N1 N2q
  refine own_step (T' := T2) (f' := (mkF m 8 #[.val (.ref a1), .val (.ref a2), .unset] [(.ref aK), (.ref aK)])) (fun t k => st2.trans k) ?_
  obtain ⟨cq3, kq3, q3a, q3b, q3c⟩ := isOf hZ E2 X_K
  obtain ⟨_, _, ⟨T3, L3, k3, n3⟩, -, X3, ⟨Lc3, hQ3, l3, y3, z3⟩, st3⟩ := X2.virtualBackUp hx (x := (⟨"com/example/umriss/umriss/runtime/Value$Kind", "compareTo", "(Ljava/lang/Enum;)I"⟩ : MethodName)) (y := (⟨"java/lang/Enum", "compareTo", "(Ljava/lang/Enum;)I"⟩ : MethodName)) (owner := "java/lang/Enum") hown (mvT hZ (hw _ (List.mem_of_getElem? (i := 34) rfl))) (mvT hZ (hw _ (List.mem_of_getElem? (i := 35) rfl))) (mvT hZ (hw _ (List.mem_of_getElem? (i := 36) rfl))) (by decide) (mvT hZ (hw _ (List.mem_of_getElem? (i := 38) rfl))) (mvT hZ (hw _ (List.mem_of_getElem? (i := 37) rfl))) (backOf (W := 0) (rm5 l Z a0 hw [] aK h0 n0 Z0 X_K F_o mr hM) hZ (hw _ (List.mem_of_getElem? (i := 40) rfl)) (hw _ (List.mem_of_getElem? (i := 39) rfl)) (by decide) (by decide)) q3a q3c (g := (mkF m 8 #[.val (.ref a1), .val (.ref a2), .unset] [(.ref aK), (.ref aK)])) rfl (by rw [hml]; rfl) (Steps.refl _) (argsL := [(.ref aK)]) (rest := []) (lenOf pd_4_1 rfl) rfl (by show 2 * 0 + _ ≤ _; exact Nat.le_of_eq rfl) (hb hby d4_8) (fun _ _ => ⟨rfl, E2, (by decide : 0 + 0 ≤ _), (by decide : 0 + 0 ≤ _)⟩)
  dsimp only [Pt.U, Pt.locs, Pt.cells, Pt.slots] at X3 l3 y3 z3 st3 hQ3
  subst l3 y3 z3
  obtain ⟨rfl, N3q, E3⟩ := hQ3
  have N3 := Fr.app N2 N3q
  refine own_step (T' := T3) (f' := (mkF m 11 #[.val (.ref a1), .val (.ref a2), .unset] [(.int (0 : Int32))])) (fun t k => st3.trans k) ?_
  refine own_step (T' := T3) (f' := (mkF m 12 #[.val (.ref a1), .val (.ref a2), .val (.int (0 : Int32))] [])) (fun t k => XS.istoreN X3.here hx rfl (hb hby d4_11) rfl (l' := #[.val (.ref a1), .val (.ref a2), .val (.int (0 : Int32))]) rfl k) ?_
  refine own_step (T' := T3) (f' := (mkF m 13 #[.val (.ref a1), .val (.ref a2), .val (.int (0 : Int32))] [(.int (0 : Int32))])) (fun t k => XS.iloadN X3.here hx rfl (hb hby d4_12) rfl k) ?_
  refine own_step (T' := T3) (f' := (mkF m 16 #[.val (.ref a1), .val (.ref a2), .val (.int (0 : Int32))] [])) (fun t k => XS.ifNo X3.here hx rfl (hb hby d4_13) rfl ((if0 _ _).trans (teq (by decide : (0 : Int32) = (0 : Int32))).2) k) ?_
  refine own_step (T' := T3) (f' := (mkF m 17 #[.val (.ref a1), .val (.ref a2), .val (.int (0 : Int32))] [(.ref a1)])) (fun t k => XS.aloadN X3.here hx rfl (hb hby d4_16) rfl rfl k) ?_
  refine own_step (T' := T3) (f' := (mkF m 18 #[.val (.ref a1), .val (.ref a2), .val (.int (0 : Int32))] [(.ref a2), (.ref a1)])) (fun t k => XS.aloadN X3.here hx rfl (hb hby d4_17) rfl rfl k) ?_
  obtain ⟨cq4, kq4, q4a, q4b, q4c⟩ := isOf hZ E3 E_a1
  obtain ⟨_, _, ⟨T4, L4, k4, n4⟩, -, X4, ⟨Lc4, hQ4, l4, y4, z4⟩, st4⟩ := X3.virtualBack hx (y := (⟨"com/example/umriss/umriss/runtime/Value", "compareWithinKind", "(Lcom/example/umriss/umriss/runtime/Value;)I"⟩ : MethodName)) (z := (⟨"com/example/umriss/umriss/runtime/BooleanValue", "compareWithinKind", "(Lcom/example/umriss/umriss/runtime/Value;)I"⟩ : MethodName)) hown (mvT hZ (hw _ (List.mem_of_getElem? (i := 49) rfl))) (mvT hZ (hw _ (List.mem_of_getElem? (i := 50) rfl))) (own_nf (args := #[]) (mvT hZ (hw _ (List.mem_of_getElem? (i := 28) rfl))) rfl) (mvT hZ (hw _ (List.mem_of_getElem? (i := 51) rfl))) (mvT hZ (hw _ (List.mem_of_getElem? (i := 52) rfl))) (by decide) (backOf (W := 0) (rm6 l Z a0 hw [] a1 a2 h0 n0 Z0 z1 z2 F_a1 E_a1 F_a2 E_a2) hZ (hw _ (List.mem_of_getElem? (i := 53) rfl)) (hw _ (List.mem_of_getElem? (i := 2) rfl)) (by decide) (by decide)) q4a q4c (g := (mkF m 18 #[.val (.ref a1), .val (.ref a2), .val (.int (0 : Int32))] [(.ref a2), (.ref a1)])) rfl (by rw [hml]; rfl) (Steps.refl _) (argsL := [(.ref a2)]) (rest := []) (lenOf pd_4_2 rfl) rfl (by show 2 * 0 + _ ≤ _; exact Nat.le_of_eq rfl) (hb hby d4_18) (fun _ _ => ⟨rfl, E3, (by decide : 0 + 0 ≤ _), (by decide : 0 + 0 ≤ _)⟩)
  dsimp only [Pt.U, Pt.locs, Pt.cells, Pt.slots] at X4 l4 y4 z4 st4 hQ4
  subst l4 y4 z4
  obtain ⟨rfl, N4q, E4⟩ := hQ4
  have N4 := Fr.app N3 N4q
  refine own_step (T' := T4) (f' := (mkF m 21 #[.val (.ref a1), .val (.ref a2), .val (.int (0 : Int32))] [(.int (own_bcmp z1 z2))])) (fun t k => st4.trans k) ?_
  refine own_step (T' := T4) (f' := (mkF m 22 #[.val (.ref a1), .val (.ref a2), .val (.int (own_bcmp z1 z2))] [])) (fun t k => XS.istoreN X4.here hx rfl (hb hby d4_21) rfl (l' := #[.val (.ref a1), .val (.ref a2), .val (.int (own_bcmp z1 z2))]) rfl k) ?_
  refine own_step (T' := T4) (f' := (mkF m 23 #[.val (.ref a1), .val (.ref a2), .val (.int (own_bcmp z1 z2))] [(.int (own_bcmp z1 z2))])) (fun t k => XS.iloadN X4.here hx rfl (hb hby d4_22) rfl k) ?_
  exact own_retO X4 hx hlk Bd.returns rfl (Or.inl ⟨rfl, Or.inl rfl, _, rfl⟩) (hb hby d4_23) (by decide) (by decide) ⟨rfl, N4, E4⟩

def Q10 (Z : State) (a1 : Addr) (h0 : Heap) (n0 : Nat) (v : Option Value) (h : Heap) (L : List Loc) : Prop := v = none ∧ Fr n0 L ∧ Keep h0 h [a1] ∧ ∃ (b : Addr) (k : ClassId), h0.size ≤ b ∧ OwnSB Z h a1 b k 0 [(.int (0 : Int32)), (.int (0 : Int32)), (.int (0 : Int32)), (.int (0 : Int32)), (.int (0 : Int32)), (.int (0 : Int32)), (.int (0 : Int32)), (.int (0 : Int32)), (.int (0 : Int32)), (.int (0 : Int32)), (.int (0 : Int32)), (.int (0 : Int32)), (.int (0 : Int32)), (.int (0 : Int32)), (.int (0 : Int32)), (.int (0 : Int32))]
theorem d10_0 : decode jdk_68_method_2_code 0 = .ok (.aload_n 0, 1) := by decide +kernel
theorem d10_1 : decode jdk_68_method_2_code 1 = .ok (.invokespecial 3, 3) := by decide +kernel
theorem d10_4 : decode jdk_68_method_2_code 4 = .ok (.getstatic 18, 3) := by decide +kernel
theorem d10_7 : decode jdk_68_method_2_code 7 = .ok (.ifCond .eq 18, 3) := by decide +kernel
theorem d10_10 : decode jdk_68_method_2_code 10 = .ok (.aload_n 0, 1) := by decide +kernel
theorem d10_11 : decode jdk_68_method_2_code 11 = .ok (.iload_n 1, 1) := by decide +kernel
theorem d10_12 : decode jdk_68_method_2_code 12 = .ok (.newarray .byte, 2) := by decide +kernel
theorem d10_14 : decode jdk_68_method_2_code 14 = .ok (.putfield 15, 3) := by decide +kernel
theorem d10_17 : decode jdk_68_method_2_code 17 = .ok (.aload_n 0, 1) := by decide +kernel
theorem d10_18 : decode jdk_68_method_2_code 18 = .ok (.iconst 0, 1) := by decide +kernel
theorem d10_19 : decode jdk_68_method_2_code 19 = .ok (.putfield 22, 3) := by decide +kernel
theorem d10_22 : decode jdk_68_method_2_code 22 = .ok (.goto 16, 3) := by decide +kernel
theorem d10_38 : decode jdk_68_method_2_code 38 = .ok (.return_, 1) := by decide +kernel
theorem pn_10 : plainName "java/lang/AbstractStringBuilder" = true := by first | (simp [plainName, overriddenIn]; done) | decide +kernel
theorem ef_rm10 (m : MethodId) (x0 : Addr) (x1 : Int32) : entryFrame m #[(.ref x0), (.int x1)] 2 = mkF m 0 #[.val (.ref x0), .val (.int x1)] [] := by first | (simp [entryFrame, mkF, argsToLocals, Value.category]; done) | rfl
set_option maxRecDepth 65536 in
set_option maxHeartbeats 40000000 in
theorem rm10 (l : Launch) (Z : State) (a0 : Array Value) (hw : ∀ d ∈ tables_1, d.before a0 Z = true) (ws : List Jvm.Cond) (a1 : Addr) (h0 : Heap) (n0 : Nat) (Z0 : n0 ≤ h0.size) (E_a1 : Exa Z h0 a1 "java/lang/StringBuilder") (F_value_a1 : Fld Z h0 a1 "java/lang/AbstractStringBuilder" "value" "[B" .null) (F_coder_a1 : Fld Z h0 a1 "java/lang/AbstractStringBuilder" "coder" "B" (.int (0 : Int32))) (F_count_a1 : Fld Z h0 a1 "java/lang/AbstractStringBuilder" "count" "I" (.int (0 : Int32))) (g_a1 : n0 ≤ a1) (cs : Int32) (S_CS : Sta Z h0 "java/lang/String" "COMPACT_STRINGS" "Z" (.int cs)) (hcs : ¬ cs = (0 : Int32)) :
    MetFree l (⟨"java/lang/AbstractStringBuilder", "<init>", "(I)V"⟩ : MethodName) (head1 (Jvm.Cond.code (⟨"java/lang/AbstractStringBuilder", "<init>", "(I)V"⟩ : MethodName) jdk_68_method_2_code 2 none :: ws) ({ frames := 1, cells := 1, slots := 16, locals := 12 } : Room)) (fun a U => a = #[(.ref a1), (.int (16 : Int32))] ∧ Z.Warmed39 U.vm ∧ U.heap = h0) (fun _ _ _ _ _ => True) (fun _ U o U' => ∃ v L, o = .returned v ∧ Q10 Z a1 h0 n0 v U'.heap L ∧ FrameEnd U o U' L ({ frames := 1, cells := 1, slots := 16, locals := 12 } : Room).cells ({ frames := 1, cells := 1, slots := 16, locals := 12 } : Room).slots) := by
  refine MetFree.of_bodySF (plainFor_of_name pn_10) hisR ?_
  intro p e s m args below meth c s₁ Bd hml0 hP hK
  obtain ⟨rfl, hZ, hh⟩ := hP
  have hx := Bd.exec
  have hby := Bd.bytes
  have hlk : meth.locks = false := BodyLoose.notSynchronized Bd
  have hml : c.maxLocals = 2 := hml0
  have hown : s.vm.findClass "java/lang/AbstractStringBuilder" = some m.cls := findClass_of_methodNamed Bd.named
  have hnm := (name_of_methodNamed Bd.named Bd.method).1
  have X0 : Stand p l e ({ frames := 1, cells := 1, slots := 16, locals := 12 } : Room) s m #[(.ref a1), (.int (16 : Int32))] below meth c s₁ [] 0 0 := Stand.of_body Bd
  have e0 : s₁.heap = h0 := by rw [← hh, Bd.state]; rfl
  have N0 := Fr.nil n0
  have Zz := Z0
  have Kp : Keep h0 h0 [a1] := Keep.refl _ _
  show OwnEnds p e below s (Q10 Z a1 h0 n0) ({ frames := 1, cells := 1, slots := 16, locals := 12 } : Room).cells ({ frames := 1, cells := 1, slots := 16, locals := 12 } : Room).slots s₁ (entryFrame m #[(.ref a1), (.int (16 : Int32))] 2)
  refine own_step (T' := s₁) (f' := (mkF m 0 #[.val (.ref a1), .val (.int (16 : Int32))] [])) (fun t k => castTop (ef_rm10 m a1 (16 : Int32)) k) ?_
  refine own_step (T' := s₁) (f' := (mkF m 1 #[.val (.ref a1), .val (.int (16 : Int32))] [(.ref a1)])) (fun t k => XS.aloadN X0.here hx rfl (hb hby d10_0) rfl rfl k) ?_
  obtain ⟨T1, X1, e1, st1⟩ := initO X0 hx hZ hown (hw _ (List.mem_of_getElem? (i := 78) rfl)) (hw _ (List.mem_of_getElem? (i := 79) rfl)) (hw _ (List.mem_of_getElem? (i := 80) rfl)) e0 (g := (mkF m 1 #[.val (.ref a1), .val (.int (16 : Int32))] [(.ref a1)])) rfl (by rw [hml]; rfl) rfl (hb hby d10_1) (by decide) (W := 0) (by show 2 * 0 + _ ≤ _; exact Nat.le_of_eq rfl) (by decide)
  refine own_step (T' := T1) (f' := (mkF m 4 #[.val (.ref a1), .val (.int (16 : Int32))] [])) (fun t k => st1 t k) ?_
  obtain ⟨T2, X2, e2, st2⟩ := getS2 X1 hx hZ hown (host := "") (Or.inl (hw _ (List.mem_of_getElem? (i := 81) rfl))) Via.refl e1 S_CS (g := (mkF m 4 #[.val (.ref a1), .val (.int (16 : Int32))] [])) rfl (hb hby d10_4)
  refine own_step (T' := T2) (f' := (mkF m 7 #[.val (.ref a1), .val (.int (16 : Int32))] [(.int cs)])) (fun t k => st2 t k) ?_
  refine own_step (T' := T2) (f' := (mkF m 10 #[.val (.ref a1), .val (.int (16 : Int32))] [])) (fun t k => XS.ifNo X2.here hx rfl (hb hby d10_7) rfl ((if0 _ _).trans (feq hcs).1) k) ?_
  refine own_step (T' := T2) (f' := (mkF m 11 #[.val (.ref a1), .val (.int (16 : Int32))] [(.ref a1)])) (fun t k => XS.aloadN X2.here hx rfl (hb hby d10_10) rfl rfl k) ?_
  refine own_step (T' := T2) (f' := (mkF m 12 #[.val (.ref a1), .val (.int (16 : Int32))] [(.int (16 : Int32)), (.ref a1)])) (fun t k => XS.iloadN X2.here hx rfl (hb hby d10_11) rfl k) ?_
  obtain ⟨T3, h3, k3, X3, e3, E3, A3, EX3, st3⟩ := newPE X2 hx hZ (hw _ (List.mem_of_getElem? (i := 83) rfl)) e2 (g := (mkF m 12 #[.val (.ref a1), .val (.int (16 : Int32))] [(.int (16 : Int32)), (.ref a1)])) rfl (hb hby d10_12) rfl (by decide) (cap := 16) (by decide) (by decide) (by decide) (by decide) (ad := "[B") rfl
  obtain ⟨b3, g3⟩ : ∃ z, z = h0.size := ⟨_, rfl⟩
  rw [← g3] at A3 EX3 st3
  have ne_a1_b3 : a1 ≠ b3 := Nat.ne_of_lt (Nat.lt_of_lt_of_le E_a1.lt (Nat.le_of_eq g3.symm))
  have g_b3 : n0 ≤ b3 := Nat.le_trans Zz (Nat.le_of_eq g3.symm)
  have sz_b3 : h0.size ≤ b3 := Nat.le_trans Kp.1 (Nat.le_of_eq g3.symm)
  replace E_a1 := E_a1.ext E3
  replace F_value_a1 := F_value_a1.ext E3
  replace F_coder_a1 := F_coder_a1.ext E3
  replace F_count_a1 := F_count_a1.ext E3
  replace S_CS := S_CS.ext E3
  replace Zz := Nat.le_trans Zz E3.1
  replace Kp := Kp.ext E3
  have V_b3 : Arv Z h3 b3 k3 .byte (16 : Int32) [(.int (0 : Int32)), (.int (0 : Int32)), (.int (0 : Int32)), (.int (0 : Int32)), (.int (0 : Int32)), (.int (0 : Int32)), (.int (0 : Int32)), (.int (0 : Int32)), (.int (0 : Int32)), (.int (0 : Int32)), (.int (0 : Int32)), (.int (0 : Int32)), (.int (0 : Int32)), (.int (0 : Int32)), (.int (0 : Int32)), (.int (0 : Int32))] (.int (0 : Int32)) := (Arv.new A3 (by decide)).pad (pad_rep [] (.int (0 : Int32)) 16)
  have EX_b3 := EX3
  refine own_step (T' := T3) (f' := (mkF m 14 #[.val (.ref a1), .val (.int (16 : Int32))] [(.ref b3), (.ref a1)])) (fun t k => st3 t k) ?_
  obtain ⟨T4, h4, X4, e4, W4, st4⟩ := putF X3 hx hZ hown (host := "") (Or.inl (hw _ (List.mem_of_getElem? (i := 84) rfl))) Via.refl e3 F_value_a1 E_a1 (Or.inl (hw _ (List.mem_of_getElem? (i := 85) rfl))) (hw _ (List.mem_of_getElem? (i := 67) rfl)) (ty := (.array .byte)) (by decide) rfl rfl (g := (mkF m 14 #[.val (.ref a1), .val (.int (16 : Int32))] [(.ref b3), (.ref a1)])) rfl rfl (hb hby d10_14)
  replace E_a1 := E_a1.wr W4
  replace F_value_a1 := F_value_a1.same W4
  replace F_coder_a1 := F_coder_a1.other W4 (Or.inr (Jvm.RoadKit.slot_ne (Or.inl (hw _ (List.mem_of_getElem? (i := 87) rfl))) (Or.inl (hw _ (List.mem_of_getElem? (i := 85) rfl))) (by decide) (t := .byte) (t' := (.array .byte)) (by decide) (by decide)))
  replace F_count_a1 := F_count_a1.other W4 (Or.inr (Jvm.RoadKit.slot_ne (Or.inl (hw _ (List.mem_of_getElem? (i := 104) rfl))) (Or.inl (hw _ (List.mem_of_getElem? (i := 85) rfl))) (by decide) (t := .int) (t' := (.array .byte)) (by decide) (by decide)))
  replace S_CS := S_CS.wr W4
  replace V_b3 := V_b3.other W4 (Ne.symm ne_a1_b3)
  replace EX_b3 := EX_b3.wr W4
  replace Zz := Nat.le_trans Zz (Keep.of_wr W4).1
  replace Kp := Kp.wr W4 (Or.inl (List.mem_of_getElem? (i := 0) rfl))
  have N4 := Fr.snoc X4 N0 g_a1
  refine own_step (T' := T4) (f' := (mkF m 17 #[.val (.ref a1), .val (.int (16 : Int32))] [])) (fun t k => st4 t k) ?_
  refine own_step (T' := T4) (f' := (mkF m 18 #[.val (.ref a1), .val (.int (16 : Int32))] [(.ref a1)])) (fun t k => XS.aloadN X4.here hx rfl (hb hby d10_17) rfl rfl k) ?_
  refine own_step (T' := T4) (f' := (mkF m 19 #[.val (.ref a1), .val (.int (16 : Int32))] [(.int (0 : Int32)), (.ref a1)])) (fun t k => XS.iconst X4.here hx rfl (hb hby d10_18) k) ?_
  obtain ⟨T5, h5, X5, e5, W5, st5⟩ := putFN X4 hx hZ hown (hw _ (List.mem_of_getElem? (i := 86) rfl)) Via.refl e4 F_coder_a1 E_a1 (Or.inl (hw _ (List.mem_of_getElem? (i := 87) rfl))) (hw _ (List.mem_of_getElem? (i := 67) rfl)) (ty := .byte) (v' := (.int (0 : Int32))) (by decide) rfl (by decide) (g := (mkF m 19 #[.val (.ref a1), .val (.int (16 : Int32))] [(.int (0 : Int32)), (.ref a1)])) rfl rfl (hb hby d10_19)
  replace E_a1 := E_a1.wr W5
  replace F_value_a1 := F_value_a1.other W5 (Or.inr (Jvm.RoadKit.slot_ne (Or.inl (hw _ (List.mem_of_getElem? (i := 85) rfl))) (Or.inl (hw _ (List.mem_of_getElem? (i := 87) rfl))) (by decide) (t := (.array .byte)) (t' := .byte) (by decide) (by decide)))
  replace F_coder_a1 := F_coder_a1.same W5
  replace F_count_a1 := F_count_a1.other W5 (Or.inr (Jvm.RoadKit.slot_ne (Or.inl (hw _ (List.mem_of_getElem? (i := 104) rfl))) (Or.inl (hw _ (List.mem_of_getElem? (i := 87) rfl))) (by decide) (t := .int) (t' := .byte) (by decide) (by decide)))
  replace S_CS := S_CS.wr W5
  replace V_b3 := V_b3.other W5 (Ne.symm ne_a1_b3)
  replace EX_b3 := EX_b3.wr W5
  replace Zz := Nat.le_trans Zz (Keep.of_wr W5).1
  replace Kp := Kp.wr W5 (Or.inl (List.mem_of_getElem? (i := 0) rfl))
  have N5 := Fr.snoc X5 N4 g_a1
  refine own_step (T' := T5) (f' := (mkF m 22 #[.val (.ref a1), .val (.int (16 : Int32))] [])) (fun t k => st5 t k) ?_
  refine own_step (T' := T5) (f' := (mkF m 38 #[.val (.ref a1), .val (.int (16 : Int32))] [])) (fun t k => XS.goto X5.here hx rfl (pc0 := 22) (pc' := 38) rfl (hb hby d10_22) (by decide) (by decide) k) ?_
  exact own_retV X5 hx hlk Bd.returns (hb hby d10_38) (by decide) (by decide) (by rw [e5]; exact ⟨rfl, N5, Kp, b3, k3, sz_b3, E_a1, F_value_a1, F_coder_a1, F_count_a1, V_b3, EX_b3, ne_a1_b3⟩)

theorem d9_0 : decode jdk_67_method_1_code 0 = .ok (.aload_n 0, 1) := by decide +kernel
theorem d9_1 : decode jdk_67_method_1_code 1 = .ok (.bipush 16, 2) := by decide +kernel
theorem d9_3 : decode jdk_67_method_1_code 3 = .ok (.invokespecial 1, 3) := by decide +kernel
theorem d9_6 : decode jdk_67_method_1_code 6 = .ok (.return_, 1) := by decide +kernel
theorem pn_9 : plainName "java/lang/StringBuilder" = true := by first | (simp [plainName, overriddenIn]; done) | decide +kernel
theorem pd_9_0 : parseMethodDescriptor "(I)V" = some ⟨[.int], none⟩ := by decide +kernel
theorem ef_rm9 (m : MethodId) (x0 : Addr) : entryFrame m #[(.ref x0)] 1 = mkF m 0 #[.val (.ref x0)] [] := by first | (simp [entryFrame, mkF, argsToLocals, Value.category]; done) | rfl
set_option maxRecDepth 65536 in
set_option maxHeartbeats 40000000 in
theorem rm9 (l : Launch) (Z : State) (a0 : Array Value) (hw : ∀ d ∈ tables_1, d.before a0 Z = true) (ws : List Jvm.Cond) (a1 : Addr) (h0 : Heap) (n0 : Nat) (Z0 : n0 ≤ h0.size) (E_a1 : Exa Z h0 a1 "java/lang/StringBuilder") (F_value_a1 : Fld Z h0 a1 "java/lang/AbstractStringBuilder" "value" "[B" .null) (F_coder_a1 : Fld Z h0 a1 "java/lang/AbstractStringBuilder" "coder" "B" (.int (0 : Int32))) (F_count_a1 : Fld Z h0 a1 "java/lang/AbstractStringBuilder" "count" "I" (.int (0 : Int32))) (g_a1 : n0 ≤ a1) (cs : Int32) (S_CS : Sta Z h0 "java/lang/String" "COMPACT_STRINGS" "Z" (.int cs)) (hcs : ¬ cs = (0 : Int32)) :
    MetFree l (⟨"java/lang/StringBuilder", "<init>", "()V"⟩ : MethodName) (head1 (Jvm.Cond.code (⟨"java/lang/StringBuilder", "<init>", "()V"⟩ : MethodName) jdk_67_method_1_code 1 none :: ws) ({ frames := 2, cells := 1, slots := 16, locals := 25 } : Room)) (fun a U => a = #[(.ref a1)] ∧ Z.Warmed39 U.vm ∧ U.heap = h0) (fun _ _ _ _ _ => True) (fun _ U o U' => ∃ v L, o = .returned v ∧ Q10 Z a1 h0 n0 v U'.heap L ∧ FrameEnd U o U' L ({ frames := 2, cells := 1, slots := 16, locals := 25 } : Room).cells ({ frames := 2, cells := 1, slots := 16, locals := 25 } : Room).slots) := by
  refine MetFree.of_bodySF (plainFor_of_name pn_9) hisR ?_
  intro p e s m args below meth c s₁ Bd hml0 hP hK
  obtain ⟨rfl, hZ, hh⟩ := hP
  have hx := Bd.exec
  have hby := Bd.bytes
  have hlk : meth.locks = false := BodyLoose.notSynchronized Bd
  have hml : c.maxLocals = 1 := hml0
  have hown : s.vm.findClass "java/lang/StringBuilder" = some m.cls := findClass_of_methodNamed Bd.named
  have hnm := (name_of_methodNamed Bd.named Bd.method).1
  have X0 : Stand p l e ({ frames := 2, cells := 1, slots := 16, locals := 25 } : Room) s m #[(.ref a1)] below meth c s₁ [] 0 0 := Stand.of_body Bd
  have e0 : s₁.heap = h0 := by rw [← hh, Bd.state]; rfl
  have N0 := Fr.nil n0
  show OwnEnds p e below s (Q10 Z a1 h0 n0) ({ frames := 2, cells := 1, slots := 16, locals := 25 } : Room).cells ({ frames := 2, cells := 1, slots := 16, locals := 25 } : Room).slots s₁ (entryFrame m #[(.ref a1)] 1)
  refine own_step (T' := s₁) (f' := (mkF m 0 #[.val (.ref a1)] [])) (fun t k => castTop (ef_rm9 m a1) k) ?_
  refine own_step (T' := s₁) (f' := (mkF m 1 #[.val (.ref a1)] [(.ref a1)])) (fun t k => XS.aloadN X0.here hx rfl (hb hby d9_0) rfl rfl k) ?_
  refine own_step (T' := s₁) (f' := (mkF m 3 #[.val (.ref a1)] [(.int (16 : Int32)), (.ref a1)])) (fun t k => XS.bipush X0.here hx rfl (hb hby d9_1) k) ?_
  obtain ⟨_, _, ⟨T1, L1, k1, n1⟩, -, X1, ⟨Lc1, hQ1, l1, y1, z1⟩, st1⟩ := X0.specialBack hx (y := (⟨"java/lang/AbstractStringBuilder", "<init>", "(I)V"⟩ : MethodName)) rfl hown (mvT hZ (hw _ (List.mem_of_getElem? (i := 72) rfl))) (mvT hZ (hw _ (List.mem_of_getElem? (i := 73) rfl))) (mvT hZ (hw _ (List.mem_of_getElem? (i := 77) rfl))) (by decide) (backOf (W := 0) (rm10 l Z a0 hw [] a1 h0 n0 Z0 E_a1 F_value_a1 F_coder_a1 F_count_a1 g_a1 cs S_CS hcs) hZ (hw _ (List.mem_of_getElem? (i := 77) rfl)) (hw _ (List.mem_of_getElem? (i := 76) rfl)) (by decide) (by decide)) (g := (mkF m 3 #[.val (.ref a1)] [(.int (16 : Int32)), (.ref a1)])) rfl (by rw [hml]; rfl) (Steps.refl _) (a := a1) (argsL := [(.int (16 : Int32))]) (rest := []) (lenOf pd_9_0 rfl) rfl (by show 2 * 0 + _ ≤ _; exact Nat.le_of_eq rfl) (hb hby d9_3) (fun _ _ => ⟨rfl, e0, (by decide : 0 + 1 ≤ _), (by decide : 0 + 16 ≤ _)⟩)
  dsimp only [Pt.U, Pt.locs, Pt.cells, Pt.slots] at X1 l1 y1 z1 st1 hQ1
  subst l1 y1 z1
  obtain ⟨rfl, N1q, K1, bb1, kk1, zz1, Ow1⟩ := hQ1
  have N1 := Fr.app N0 N1q
  refine own_step (T' := T1) (f' := (mkF m 6 #[.val (.ref a1)] [])) (fun t k => st1.trans k) ?_
  exact own_retV X1 hx hlk Bd.returns (hb hby d9_6) (by decide) (by decide) ⟨rfl, N1, K1, bb1, kk1, zz1, Ow1⟩

theorem d16_0 : decode jdk_68_method_68_code 0 = .ok (.getstatic 18, 3) := by decide +kernel
theorem d16_3 : decode jdk_68_method_68_code 3 = .ok (.ifCond .eq 14, 3) := by decide +kernel
theorem d16_6 : decode jdk_68_method_68_code 6 = .ok (.aload_n 0, 1) := by decide +kernel
theorem d16_7 : decode jdk_68_method_68_code 7 = .ok (.getfield 22, 3) := by decide +kernel
theorem d16_10 : decode jdk_68_method_68_code 10 = .ok (.ifCond .ne 7, 3) := by decide +kernel
theorem d16_13 : decode jdk_68_method_68_code 13 = .ok (.iconst 1, 1) := by decide +kernel
theorem d16_14 : decode jdk_68_method_68_code 14 = .ok (.goto 4, 3) := by decide +kernel
theorem d16_18 : decode jdk_68_method_68_code 18 = .ok (.ireturn, 1) := by decide +kernel
theorem pn_16 : plainName "java/lang/AbstractStringBuilder" = true := by first | (simp [plainName, overriddenIn]; done) | decide +kernel
theorem ef_rm16 (m : MethodId) (x0 : Addr) : entryFrame m #[(.ref x0)] 1 = mkF m 0 #[.val (.ref x0)] [] := by first | (simp [entryFrame, mkF, argsToLocals, Value.category]; done) | rfl
set_option maxRecDepth 65536 in
set_option maxHeartbeats 40000000 in
theorem rm16 (l : Launch) (Z : State) (a0 : Array Value) (hw : ∀ d ∈ tables_1, d.before a0 Z = true) (ws : List Jvm.Cond) (a1 : Addr) (h0 : Heap) (n0 : Nat) (Z0 : n0 ≤ h0.size) (F_c : Fld Z h0 a1 "java/lang/AbstractStringBuilder" "coder" "B" (.int (0 : Int32))) (cs : Int32) (S_CS : Sta Z h0 "java/lang/String" "COMPACT_STRINGS" "Z" (.int cs)) (hcs : ¬ cs = (0 : Int32)) :
    MetFree l (⟨"java/lang/AbstractStringBuilder", "isLatin1", "()Z"⟩ : MethodName) (head1 (Jvm.Cond.code (⟨"java/lang/AbstractStringBuilder", "isLatin1", "()Z"⟩ : MethodName) jdk_68_method_68_code 1 (some .boolean) :: ws) ({ frames := 0, cells := 0, slots := 0, locals := 0 } : Room)) (fun a U => a = #[(.ref a1)] ∧ Z.Warmed39 U.vm ∧ U.heap = h0) (fun _ _ _ _ _ => True) (fun _ U o U' => ∃ v L, o = .returned v ∧ QI 1 h0 n0 v U'.heap L ∧ FrameEnd U o U' L ({ frames := 0, cells := 0, slots := 0, locals := 0 } : Room).cells ({ frames := 0, cells := 0, slots := 0, locals := 0 } : Room).slots) := by
  refine MetFree.of_bodySF (plainFor_of_name pn_16) hisR ?_
  intro p e s m args below meth c s₁ Bd hml0 hP hK
  obtain ⟨rfl, hZ, hh⟩ := hP
  have hx := Bd.exec
  have hby := Bd.bytes
  have hlk : meth.locks = false := BodyLoose.notSynchronized Bd
  have hml : c.maxLocals = 1 := hml0
  have hown : s.vm.findClass "java/lang/AbstractStringBuilder" = some m.cls := findClass_of_methodNamed Bd.named
  have hnm := (name_of_methodNamed Bd.named Bd.method).1
  have X0 : Stand p l e ({ frames := 0, cells := 0, slots := 0, locals := 0 } : Room) s m #[(.ref a1)] below meth c s₁ [] 0 0 := Stand.of_body Bd
  have e0 : s₁.heap = h0 := by rw [← hh, Bd.state]; rfl
  have N0 := Fr.nil n0
  show OwnEnds p e below s (QI 1 h0 n0) ({ frames := 0, cells := 0, slots := 0, locals := 0 } : Room).cells ({ frames := 0, cells := 0, slots := 0, locals := 0 } : Room).slots s₁ (entryFrame m #[(.ref a1)] 1)
  refine own_step (T' := s₁) (f' := (mkF m 0 #[.val (.ref a1)] [])) (fun t k => castTop (ef_rm16 m a1) k) ?_
  obtain ⟨T1, X1, e1, st1⟩ := getS2 X0 hx hZ hown (host := "") (Or.inl (hw _ (List.mem_of_getElem? (i := 81) rfl))) Via.refl e0 S_CS (g := (mkF m 0 #[.val (.ref a1)] [])) rfl (hb hby d16_0)
  refine own_step (T' := T1) (f' := (mkF m 3 #[.val (.ref a1)] [(.int cs)])) (fun t k => st1 t k) ?_
  refine own_step (T' := T1) (f' := (mkF m 6 #[.val (.ref a1)] [])) (fun t k => XS.ifNo X1.here hx rfl (hb hby d16_3) rfl ((if0 _ _).trans (feq hcs).1) k) ?_
  refine own_step (T' := T1) (f' := (mkF m 7 #[.val (.ref a1)] [(.ref a1)])) (fun t k => XS.aloadN X1.here hx rfl (hb hby d16_6) rfl rfl k) ?_
  obtain ⟨T2, X2, e2, st2⟩ := getF X1 hx hZ hown (host := "") (Or.inl (hw _ (List.mem_of_getElem? (i := 86) rfl))) Via.refl e1 F_c (g := (mkF m 7 #[.val (.ref a1)] [(.ref a1)])) rfl rfl (hb hby d16_7)
  refine own_step (T' := T2) (f' := (mkF m 10 #[.val (.ref a1)] [(.int (0 : Int32))])) (fun t k => st2 t k) ?_
  refine own_step (T' := T2) (f' := (mkF m 13 #[.val (.ref a1)] [])) (fun t k => XS.ifNo X2.here hx rfl (hb hby d16_10) rfl ((if0 _ _).trans (teq (by decide : (0 : Int32) = (0 : Int32))).2) k) ?_
  refine own_step (T' := T2) (f' := (mkF m 14 #[.val (.ref a1)] [(.int (1 : Int32))])) (fun t k => XS.iconst X2.here hx rfl (hb hby d16_13) k) ?_
  refine own_step (T' := T2) (f' := (mkF m 18 #[.val (.ref a1)] [(.int (1 : Int32))])) (fun t k => XS.goto X2.here hx rfl (pc0 := 14) (pc' := 18) rfl (hb hby d16_14) (by decide) (by decide) k) ?_
  exact own_retN X2 hx hlk (t := .boolean) Bd.returns (by simp) (hb hby d16_18) (by decide) (by decide) ⟨rfl, N0, e2⟩

theorem d20_0 : decode jdk_68_method_64_code 0 = .ok (.aload_n 0, 1) := by decide +kernel
theorem d20_1 : decode jdk_68_method_64_code 1 = .ok (.getfield 15, 3) := by decide +kernel
theorem d20_4 : decode jdk_68_method_64_code 4 = .ok (.areturn, 1) := by decide +kernel
theorem pn_20 : plainName "java/lang/AbstractStringBuilder" = true := by first | (simp [plainName, overriddenIn]; done) | decide +kernel
theorem ef_rm20 (m : MethodId) (x0 : Addr) : entryFrame m #[(.ref x0)] 1 = mkF m 0 #[.val (.ref x0)] [] := by first | (simp [entryFrame, mkF, argsToLocals, Value.category]; done) | rfl
set_option maxRecDepth 65536 in
set_option maxHeartbeats 40000000 in
theorem rm20 (l : Launch) (Z : State) (a0 : Array Value) (hw : ∀ d ∈ tables_1, d.before a0 Z = true) (ws : List Jvm.Cond) (a1 : Addr) (h0 : Heap) (n0 : Nat) (Z0 : n0 ≤ h0.size) (bv : Addr) (F_v : Fld Z h0 a1 "java/lang/AbstractStringBuilder" "value" "[B" (.ref bv)) :
    MetFree l (⟨"java/lang/AbstractStringBuilder", "getValue", "()[B"⟩ : MethodName) (head1 (Jvm.Cond.code (⟨"java/lang/AbstractStringBuilder", "getValue", "()[B"⟩ : MethodName) jdk_68_method_64_code 1 (some (.array .byte)) :: ws) ({ frames := 0, cells := 0, slots := 0, locals := 0 } : Room)) (fun a U => a = #[(.ref a1)] ∧ Z.Warmed39 U.vm ∧ U.heap = h0) (fun _ _ _ _ _ => True) (fun _ U o U' => ∃ v L, o = .returned v ∧ QA bv h0 n0 v U'.heap L ∧ FrameEnd U o U' L ({ frames := 0, cells := 0, slots := 0, locals := 0 } : Room).cells ({ frames := 0, cells := 0, slots := 0, locals := 0 } : Room).slots) := by
  refine MetFree.of_bodySF (plainFor_of_name pn_20) hisR ?_
  intro p e s m args below meth c s₁ Bd hml0 hP hK
  obtain ⟨rfl, hZ, hh⟩ := hP
  have hx := Bd.exec
  have hby := Bd.bytes
  have hlk : meth.locks = false := BodyLoose.notSynchronized Bd
  have hml : c.maxLocals = 1 := hml0
  have hown : s.vm.findClass "java/lang/AbstractStringBuilder" = some m.cls := findClass_of_methodNamed Bd.named
  have hnm := (name_of_methodNamed Bd.named Bd.method).1
  have X0 : Stand p l e ({ frames := 0, cells := 0, slots := 0, locals := 0 } : Room) s m #[(.ref a1)] below meth c s₁ [] 0 0 := Stand.of_body Bd
  have e0 : s₁.heap = h0 := by rw [← hh, Bd.state]; rfl
  have N0 := Fr.nil n0
  show OwnEnds p e below s (QA bv h0 n0) ({ frames := 0, cells := 0, slots := 0, locals := 0 } : Room).cells ({ frames := 0, cells := 0, slots := 0, locals := 0 } : Room).slots s₁ (entryFrame m #[(.ref a1)] 1)
  refine own_step (T' := s₁) (f' := (mkF m 0 #[.val (.ref a1)] [])) (fun t k => castTop (ef_rm20 m a1) k) ?_
  refine own_step (T' := s₁) (f' := (mkF m 1 #[.val (.ref a1)] [(.ref a1)])) (fun t k => XS.aloadN X0.here hx rfl (hb hby d20_0) rfl rfl k) ?_
  obtain ⟨T1, X1, e1, st1⟩ := getF X0 hx hZ hown (host := "") (Or.inl (hw _ (List.mem_of_getElem? (i := 84) rfl))) Via.refl e0 F_v (g := (mkF m 1 #[.val (.ref a1)] [(.ref a1)])) rfl rfl (hb hby d20_1)
  refine own_step (T' := T1) (f' := (mkF m 4 #[.val (.ref a1)] [(.ref bv)])) (fun t k => st1 t k) ?_
  exact own_retO X1 hx hlk Bd.returns rfl (Or.inr (Or.inr (Or.inr (Or.inr ⟨rfl, rfl, rfl⟩)))) (hb hby d20_4) (by decide) (by decide) ⟨rfl, N0, e1⟩

theorem d22_0 : decode jdk_68_method_6_code 0 = .ok (.aload_n 0, 1) := by decide +kernel
theorem d22_1 : decode jdk_68_method_6_code 1 = .ok (.getfield 79, 3) := by decide +kernel
theorem d22_4 : decode jdk_68_method_6_code 4 = .ok (.ireturn, 1) := by decide +kernel
theorem pn_22 : plainName "java/lang/AbstractStringBuilder" = true := by first | (simp [plainName, overriddenIn]; done) | decide +kernel
theorem ef_rm22 (m : MethodId) (x0 : Addr) : entryFrame m #[(.ref x0)] 1 = mkF m 0 #[.val (.ref x0)] [] := by first | (simp [entryFrame, mkF, argsToLocals, Value.category]; done) | rfl
set_option maxRecDepth 65536 in
set_option maxHeartbeats 40000000 in
theorem rm22 (l : Launch) (Z : State) (a0 : Array Value) (hw : ∀ d ∈ tables_1, d.before a0 Z = true) (ws : List Jvm.Cond) (a1 : Addr) (h0 : Heap) (n0 : Nat) (Z0 : n0 ≤ h0.size) (nn : Int32) (F_n : Fld Z h0 a1 "java/lang/AbstractStringBuilder" "count" "I" (.int nn)) :
    MetFree l (⟨"java/lang/AbstractStringBuilder", "length", "()I"⟩ : MethodName) (head1 (Jvm.Cond.code (⟨"java/lang/AbstractStringBuilder", "length", "()I"⟩ : MethodName) jdk_68_method_6_code 1 (some .int) :: ws) ({ frames := 0, cells := 0, slots := 0, locals := 0 } : Room)) (fun a U => a = #[(.ref a1)] ∧ Z.Warmed39 U.vm ∧ U.heap = h0) (fun _ _ _ _ _ => True) (fun _ U o U' => ∃ v L, o = .returned v ∧ QI nn h0 n0 v U'.heap L ∧ FrameEnd U o U' L ({ frames := 0, cells := 0, slots := 0, locals := 0 } : Room).cells ({ frames := 0, cells := 0, slots := 0, locals := 0 } : Room).slots) := by
  refine MetFree.of_bodySF (plainFor_of_name pn_22) hisR ?_
  intro p e s m args below meth c s₁ Bd hml0 hP hK
  obtain ⟨rfl, hZ, hh⟩ := hP
  have hx := Bd.exec
  have hby := Bd.bytes
  have hlk : meth.locks = false := BodyLoose.notSynchronized Bd
  have hml : c.maxLocals = 1 := hml0
  have hown : s.vm.findClass "java/lang/AbstractStringBuilder" = some m.cls := findClass_of_methodNamed Bd.named
  have hnm := (name_of_methodNamed Bd.named Bd.method).1
  have X0 : Stand p l e ({ frames := 0, cells := 0, slots := 0, locals := 0 } : Room) s m #[(.ref a1)] below meth c s₁ [] 0 0 := Stand.of_body Bd
  have e0 : s₁.heap = h0 := by rw [← hh, Bd.state]; rfl
  have N0 := Fr.nil n0
  show OwnEnds p e below s (QI nn h0 n0) ({ frames := 0, cells := 0, slots := 0, locals := 0 } : Room).cells ({ frames := 0, cells := 0, slots := 0, locals := 0 } : Room).slots s₁ (entryFrame m #[(.ref a1)] 1)
  refine own_step (T' := s₁) (f' := (mkF m 0 #[.val (.ref a1)] [])) (fun t k => castTop (ef_rm22 m a1) k) ?_
  refine own_step (T' := s₁) (f' := (mkF m 1 #[.val (.ref a1)] [(.ref a1)])) (fun t k => XS.aloadN X0.here hx rfl (hb hby d22_0) rfl rfl k) ?_
  obtain ⟨T1, X1, e1, st1⟩ := getF X0 hx hZ hown (host := "") (Or.inl (hw _ (List.mem_of_getElem? (i := 103) rfl))) Via.refl e0 F_n (g := (mkF m 1 #[.val (.ref a1)] [(.ref a1)])) rfl rfl (hb hby d22_1)
  refine own_step (T' := T1) (f' := (mkF m 4 #[.val (.ref a1)] [(.int nn)])) (fun t k => st1 t k) ?_
  exact own_retO X1 hx hlk Bd.returns rfl (Or.inl ⟨rfl, Or.inl rfl, _, rfl⟩) (hb hby d22_4) (by decide) (by decide) ⟨rfl, N0, e1⟩

theorem d21_0 : decode jdk_67_method_93_code 0 = .ok (.aload_n 0, 1) := by decide +kernel
theorem d21_1 : decode jdk_67_method_93_code 1 = .ok (.invokespecial 343, 3) := by decide +kernel
theorem d21_4 : decode jdk_67_method_93_code 4 = .ok (.ireturn, 1) := by decide +kernel
theorem pn_21 : plainName "java/lang/StringBuilder" = true := by first | (simp [plainName, overriddenIn]; done) | decide +kernel
theorem pd_21_0 : parseMethodDescriptor "()I" = some ⟨[], some .int⟩ := by decide +kernel
theorem ef_rm21 (m : MethodId) (x0 : Addr) : entryFrame m #[(.ref x0)] 1 = mkF m 0 #[.val (.ref x0)] [] := by first | (simp [entryFrame, mkF, argsToLocals, Value.category]; done) | rfl
set_option maxRecDepth 65536 in
set_option maxHeartbeats 40000000 in
theorem rm21 (l : Launch) (Z : State) (a0 : Array Value) (hw : ∀ d ∈ tables_1, d.before a0 Z = true) (ws : List Jvm.Cond) (a1 : Addr) (h0 : Heap) (n0 : Nat) (Z0 : n0 ≤ h0.size) (nn : Int32) (F_n : Fld Z h0 a1 "java/lang/AbstractStringBuilder" "count" "I" (.int nn)) (E_a1 : Exa Z h0 a1 "java/lang/StringBuilder") :
    MetFree l (⟨"java/lang/StringBuilder", "length", "()I"⟩ : MethodName) (head1 (Jvm.Cond.code (⟨"java/lang/StringBuilder", "length", "()I"⟩ : MethodName) jdk_67_method_93_code 1 (some .int) :: ws) ({ frames := 1, cells := 0, slots := 0, locals := 12 } : Room)) (fun a U => a = #[(.ref a1)] ∧ Z.Warmed39 U.vm ∧ U.heap = h0) (fun _ _ _ _ _ => True) (fun _ U o U' => ∃ v L, o = .returned v ∧ QI nn h0 n0 v U'.heap L ∧ FrameEnd U o U' L ({ frames := 1, cells := 0, slots := 0, locals := 12 } : Room).cells ({ frames := 1, cells := 0, slots := 0, locals := 12 } : Room).slots) := by
  refine MetFree.of_bodySF (plainFor_of_name pn_21) hisR ?_
  intro p e s m args below meth c s₁ Bd hml0 hP hK
  obtain ⟨rfl, hZ, hh⟩ := hP
  have hx := Bd.exec
  have hby := Bd.bytes
  have hlk : meth.locks = false := BodyLoose.notSynchronized Bd
  have hml : c.maxLocals = 1 := hml0
  have hown : s.vm.findClass "java/lang/StringBuilder" = some m.cls := findClass_of_methodNamed Bd.named
  have hnm := (name_of_methodNamed Bd.named Bd.method).1
  have X0 : Stand p l e ({ frames := 1, cells := 0, slots := 0, locals := 12 } : Room) s m #[(.ref a1)] below meth c s₁ [] 0 0 := Stand.of_body Bd
  have e0 : s₁.heap = h0 := by rw [← hh, Bd.state]; rfl
  have N0 := Fr.nil n0
  show OwnEnds p e below s (QI nn h0 n0) ({ frames := 1, cells := 0, slots := 0, locals := 12 } : Room).cells ({ frames := 1, cells := 0, slots := 0, locals := 12 } : Room).slots s₁ (entryFrame m #[(.ref a1)] 1)
  refine own_step (T' := s₁) (f' := (mkF m 0 #[.val (.ref a1)] [])) (fun t k => castTop (ef_rm21 m a1) k) ?_
  refine own_step (T' := s₁) (f' := (mkF m 1 #[.val (.ref a1)] [(.ref a1)])) (fun t k => XS.aloadN X0.here hx rfl (hb hby d21_0) rfl rfl k) ?_
  obtain ⟨_, _, ⟨T1, L1, k1, n1⟩, -, X1, ⟨Lc1, hQ1, l1, y1, z1⟩, st1⟩ := superBack X0 hx hZ (y := (⟨"java/lang/AbstractStringBuilder", "length", "()I"⟩ : MethodName)) hown (hw _ (List.mem_of_getElem? (i := 141) rfl)) (own_same (y := (⟨"java/lang/AbstractStringBuilder", "length", "()I"⟩ : MethodName)) (hw _ (List.mem_of_getElem? (i := 136) rfl)) (hw _ (List.mem_of_getElem? (i := 113) rfl)) rfl (by decide)) (hw _ (List.mem_of_getElem? (i := 137) rfl)) (hw _ (List.mem_of_getElem? (i := 100) rfl)) (by decide) (backOf (W := 0) (rm22 l Z a0 hw [] a1 h0 n0 Z0 nn F_n) hZ (hw _ (List.mem_of_getElem? (i := 142) rfl)) (hw _ (List.mem_of_getElem? (i := 76) rfl)) (by decide) (by decide)) e0 (Ins.self E_a1) (g := (mkF m 1 #[.val (.ref a1)] [(.ref a1)])) rfl (by rw [hml]; rfl) (hw _ (List.mem_of_getElem? (i := 142) rfl)) (argsL := []) (rest := []) (lenOf pd_21_0 rfl) rfl (by show 2 * 0 + _ ≤ _; exact Nat.le_of_eq rfl) (hb hby d21_1) (fun _ _ => ⟨rfl, e0, (by decide : 0 + 0 ≤ _), (by decide : 0 + 0 ≤ _)⟩)
  dsimp only [Pt.U, Pt.locs, Pt.cells, Pt.slots] at X1 l1 y1 z1 st1 hQ1
  subst l1 y1 z1
  obtain ⟨rfl, N1q, E1⟩ := hQ1
  have N1 := Fr.app N0 N1q
  refine own_step (T' := T1) (f' := (mkF m 4 #[.val (.ref a1)] [(.int nn)])) (fun t k => st1.trans k) ?_
  exact own_retO X1 hx hlk Bd.returns rfl (Or.inl ⟨rfl, Or.inl rfl, _, rfl⟩) (hb hby d21_4) (by decide) (by decide) ⟨rfl, N1, E1⟩

theorem d15_0 : decode jdk_68_method_9_code 0 = .ok (.aload_n 0, 1) := by decide +kernel
theorem d15_1 : decode jdk_68_method_9_code 1 = .ok (.getfield 15, 3) := by decide +kernel
theorem d15_4 : decode jdk_68_method_9_code 4 = .ok (.arraylength, 1) := by decide +kernel
theorem d15_5 : decode jdk_68_method_9_code 5 = .ok (.aload_n 0, 1) := by decide +kernel
theorem d15_6 : decode jdk_68_method_9_code 6 = .ok (.getfield 22, 3) := by decide +kernel
theorem d15_9 : decode jdk_68_method_9_code 9 = .ok (.ishr, 1) := by decide +kernel
theorem d15_10 : decode jdk_68_method_9_code 10 = .ok (.istore_n 2, 1) := by decide +kernel
theorem d15_11 : decode jdk_68_method_9_code 11 = .ok (.iload_n 1, 1) := by decide +kernel
theorem d15_12 : decode jdk_68_method_9_code 12 = .ok (.iload_n 2, 1) := by decide +kernel
theorem d15_13 : decode jdk_68_method_9_code 13 = .ok (.isub, 1) := by decide +kernel
theorem d15_14 : decode jdk_68_method_9_code 14 = .ok (.ifCond .le 24, 3) := by decide +kernel
theorem d15_38 : decode jdk_68_method_9_code 38 = .ok (.return_, 1) := by decide +kernel
theorem pn_15 : plainName "java/lang/AbstractStringBuilder" = true := by first | (simp [plainName, overriddenIn]; done) | decide +kernel
theorem ef_rm15_1 (m : MethodId) (x0 : Addr) (x1 : Int32) : entryFrame m #[(.ref x0), (.int x1)] 3 = mkF m 0 #[.val (.ref x0), .val (.int x1), .unset] [] := by first | (simp [entryFrame, mkF, argsToLocals, Value.category]; done) | rfl
set_option maxRecDepth 65536 in
set_option maxHeartbeats 40000000 in
theorem rm15_1 (l : Launch) (Z : State) (a0 : Array Value) (hw : ∀ d ∈ tables_1, d.before a0 Z = true) (ws : List Jvm.Cond) (a1 : Addr) (h0 : Heap) (n0 : Nat) (Z0 : n0 ≤ h0.size) (bv : Addr) (kv : ClassId) (F_value_a1 : Fld Z h0 a1 "java/lang/AbstractStringBuilder" "value" "[B" (.ref bv)) (F_coder_a1 : Fld Z h0 a1 "java/lang/AbstractStringBuilder" "coder" "B" (.int (0 : Int32))) (V_bv : Arv Z h0 bv kv .byte (16 : Int32) [(.int (0 : Int32)), (.int (0 : Int32)), (.int (0 : Int32)), (.int (0 : Int32)), (.int (0 : Int32)), (.int (0 : Int32)), (.int (0 : Int32)), (.int (0 : Int32)), (.int (0 : Int32)), (.int (0 : Int32)), (.int (0 : Int32)), (.int (0 : Int32)), (.int (0 : Int32)), (.int (0 : Int32)), (.int (0 : Int32)), (.int (0 : Int32))] (.int (0 : Int32))) :
    MetFree l (⟨"java/lang/AbstractStringBuilder", "ensureCapacityInternal", "(I)V"⟩ : MethodName) (head1 (Jvm.Cond.code (⟨"java/lang/AbstractStringBuilder", "ensureCapacityInternal", "(I)V"⟩ : MethodName) jdk_68_method_9_code 3 none :: ws) ({ frames := 0, cells := 0, slots := 0, locals := 0 } : Room)) (fun a U => a = #[(.ref a1), (.int (4 : Int32))] ∧ Z.Warmed39 U.vm ∧ U.heap = h0) (fun _ _ _ _ _ => True) (fun _ U o U' => ∃ v L, o = .returned v ∧ QV h0 n0 v U'.heap L ∧ FrameEnd U o U' L ({ frames := 0, cells := 0, slots := 0, locals := 0 } : Room).cells ({ frames := 0, cells := 0, slots := 0, locals := 0 } : Room).slots) := by
  refine MetFree.of_bodySF (plainFor_of_name pn_15) hisR ?_
  intro p e s m args below meth c s₁ Bd hml0 hP hK
  obtain ⟨rfl, hZ, hh⟩ := hP
  have hx := Bd.exec
  have hby := Bd.bytes
  have hlk : meth.locks = false := BodyLoose.notSynchronized Bd
  have hml : c.maxLocals = 3 := hml0
  have hown : s.vm.findClass "java/lang/AbstractStringBuilder" = some m.cls := findClass_of_methodNamed Bd.named
  have hnm := (name_of_methodNamed Bd.named Bd.method).1
  have X0 : Stand p l e ({ frames := 0, cells := 0, slots := 0, locals := 0 } : Room) s m #[(.ref a1), (.int (4 : Int32))] below meth c s₁ [] 0 0 := Stand.of_body Bd
  have e0 : s₁.heap = h0 := by rw [← hh, Bd.state]; rfl
  have N0 := Fr.nil n0
  have Zz := Z0
  have Kp : Keep h0 h0 [] := Keep.refl _ _
  show OwnEnds p e below s (QV h0 n0) ({ frames := 0, cells := 0, slots := 0, locals := 0 } : Room).cells ({ frames := 0, cells := 0, slots := 0, locals := 0 } : Room).slots s₁ (entryFrame m #[(.ref a1), (.int (4 : Int32))] 3)
  refine own_step (T' := s₁) (f' := (mkF m 0 #[.val (.ref a1), .val (.int (4 : Int32)), .unset] [])) (fun t k => castTop (ef_rm15_1 m a1 (4 : Int32)) k) ?_
  refine own_step (T' := s₁) (f' := (mkF m 1 #[.val (.ref a1), .val (.int (4 : Int32)), .unset] [(.ref a1)])) (fun t k => XS.aloadN X0.here hx rfl (hb hby d15_0) rfl rfl k) ?_
  obtain ⟨T1, X1, e1, st1⟩ := getF X0 hx hZ hown (host := "") (Or.inl (hw _ (List.mem_of_getElem? (i := 84) rfl))) Via.refl e0 F_value_a1 (g := (mkF m 1 #[.val (.ref a1), .val (.int (4 : Int32)), .unset] [(.ref a1)])) rfl rfl (hb hby d15_1)
  refine own_step (T' := T1) (f' := (mkF m 4 #[.val (.ref a1), .val (.int (4 : Int32)), .unset] [(.ref bv)])) (fun t k => st1 t k) ?_
  obtain ⟨cl2, Ar2, q2, S2, M2, H2, G2⟩ := id V_bv
  refine own_step (T' := T1) (f' := (mkF m 5 #[.val (.ref a1), .val (.int (4 : Int32)), .unset] [(.int (16 : Int32))])) (fun t k => X1.arraylength hx (by rw [e1]; exact Ar2.1) (State.isArrayOf_alike hZ.alike Ar2.2.1) (g := (mkF m 4 #[.val (.ref a1), .val (.int (4 : Int32)), .unset] [(.ref bv)])) rfl rfl (hb hby d15_4) _ (by rw [len_of S2 M2]; exact k)) ?_
  refine own_step (T' := T1) (f' := (mkF m 6 #[.val (.ref a1), .val (.int (4 : Int32)), .unset] [(.ref a1), (.int (16 : Int32))])) (fun t k => XS.aloadN X1.here hx rfl (hb hby d15_5) rfl rfl k) ?_
  obtain ⟨T3, X3, e3, st3⟩ := getF X1 hx hZ hown (host := "") (Or.inl (hw _ (List.mem_of_getElem? (i := 86) rfl))) Via.refl e1 F_coder_a1 (g := (mkF m 6 #[.val (.ref a1), .val (.int (4 : Int32)), .unset] [(.ref a1), (.int (16 : Int32))])) rfl rfl (hb hby d15_6)
  refine own_step (T' := T3) (f' := (mkF m 9 #[.val (.ref a1), .val (.int (4 : Int32)), .unset] [(.int (0 : Int32)), (.int (16 : Int32))])) (fun t k => st3 t k) ?_
  refine own_step (T' := T3) (f' := (mkF m 10 #[.val (.ref a1), .val (.int (4 : Int32)), .unset] [(.int ((16 : Int32) >>> ((0 : Int32) &&& 31)))])) (fun t k => XS.ishr X3.here hx rfl (hb hby d15_9) rfl k) ?_
  refine own_step (T' := T3) (f' := (mkF m 11 #[.val (.ref a1), .val (.int (4 : Int32)), .val (.int ((16 : Int32) >>> ((0 : Int32) &&& 31)))] [])) (fun t k => XS.istoreN X3.here hx rfl (hb hby d15_10) rfl (l' := #[.val (.ref a1), .val (.int (4 : Int32)), .val (.int ((16 : Int32) >>> ((0 : Int32) &&& 31)))]) rfl k) ?_
  refine own_step (T' := T3) (f' := (mkF m 12 #[.val (.ref a1), .val (.int (4 : Int32)), .val (.int ((16 : Int32) >>> ((0 : Int32) &&& 31)))] [(.int (4 : Int32))])) (fun t k => XS.iloadN X3.here hx rfl (hb hby d15_11) rfl k) ?_
  refine own_step (T' := T3) (f' := (mkF m 13 #[.val (.ref a1), .val (.int (4 : Int32)), .val (.int ((16 : Int32) >>> ((0 : Int32) &&& 31)))] [(.int ((16 : Int32) >>> ((0 : Int32) &&& 31))), (.int (4 : Int32))])) (fun t k => XS.iloadN X3.here hx rfl (hb hby d15_12) rfl k) ?_
  refine own_step (T' := T3) (f' := (mkF m 14 #[.val (.ref a1), .val (.int (4 : Int32)), .val (.int ((16 : Int32) >>> ((0 : Int32) &&& 31)))] [(.int ((4 : Int32) - ((16 : Int32) >>> ((0 : Int32) &&& 31))))])) (fun t k => XS.isub X3.here hx rfl (hb hby d15_13) rfl k) ?_
  refine own_step (T' := T3) (f' := (mkF m 38 #[.val (.ref a1), .val (.int (4 : Int32)), .val (.int ((16 : Int32) >>> ((0 : Int32) &&& 31)))] [])) (fun t k => XS.ifYes X3.here hx rfl (pc0 := 14) (pc' := 38) rfl (hb hby d15_14) rfl ((if0 _ _).trans (flt (by decide : ¬ ((0 : Int32) < ((4 : Int32) - ((16 : Int32) >>> ((0 : Int32) &&& 31)))))).2.2.2) (by decide) (by decide) k) ?_
  exact own_retV X3 hx hlk Bd.returns (hb hby d15_38) (by decide) (by decide) ⟨rfl, N0, e3⟩

def Q14_1 (Z : State) (a1 bv : Addr) (kv : ClassId) (h0 : Heap) (n0 : Nat) (v : Option Value) (h : Heap) (L : List Loc) : Prop := v = some (.ref a1) ∧ Fr n0 L ∧ Keep h0 h [a1, bv] ∧ OwnSB Z h a1 bv kv 4 [(.int (116 : Int32)), (.int (114 : Int32)), (.int (117 : Int32)), (.int (101 : Int32)), (.int (0 : Int32)), (.int (0 : Int32)), (.int (0 : Int32)), (.int (0 : Int32)), (.int (0 : Int32)), (.int (0 : Int32)), (.int (0 : Int32)), (.int (0 : Int32)), (.int (0 : Int32)), (.int (0 : Int32)), (.int (0 : Int32)), (.int (0 : Int32))]
theorem d14_0 : decode jdk_68_method_30_code 0 = .ok (.aload_n 0, 1) := by decide +kernel
theorem d14_1 : decode jdk_68_method_30_code 1 = .ok (.aload_n 0, 1) := by decide +kernel
theorem d14_2 : decode jdk_68_method_30_code 2 = .ok (.getfield 79, 3) := by decide +kernel
theorem d14_5 : decode jdk_68_method_30_code 5 = .ok (.iload_n 1, 1) := by decide +kernel
theorem d14_6 : decode jdk_68_method_30_code 6 = .ok (.ifCond .eq 7, 3) := by decide +kernel
theorem d14_9 : decode jdk_68_method_30_code 9 = .ok (.iconst 4, 1) := by decide +kernel
theorem d14_10 : decode jdk_68_method_30_code 10 = .ok (.goto 4, 3) := by decide +kernel
theorem d14_14 : decode jdk_68_method_30_code 14 = .ok (.iadd, 1) := by decide +kernel
theorem d14_15 : decode jdk_68_method_30_code 15 = .ok (.invokevirtual 100, 3) := by decide +kernel
theorem d14_18 : decode jdk_68_method_30_code 18 = .ok (.aload_n 0, 1) := by decide +kernel
theorem d14_19 : decode jdk_68_method_30_code 19 = .ok (.getfield 79, 3) := by decide +kernel
theorem d14_22 : decode jdk_68_method_30_code 22 = .ok (.istore_n 2, 1) := by decide +kernel
theorem d14_23 : decode jdk_68_method_30_code 23 = .ok (.aload_n 0, 1) := by decide +kernel
theorem d14_24 : decode jdk_68_method_30_code 24 = .ok (.getfield 15, 3) := by decide +kernel
theorem d14_27 : decode jdk_68_method_30_code 27 = .ok (.astore_n 3, 1) := by decide +kernel
theorem d14_28 : decode jdk_68_method_30_code 28 = .ok (.aload_n 0, 1) := by decide +kernel
theorem d14_29 : decode jdk_68_method_30_code 29 = .ok (.invokevirtual 83, 3) := by decide +kernel
theorem d14_32 : decode jdk_68_method_30_code 32 = .ok (.ifCond .eq 85, 3) := by decide +kernel
theorem d14_35 : decode jdk_68_method_30_code 35 = .ok (.iload_n 1, 1) := by decide +kernel
theorem d14_36 : decode jdk_68_method_30_code 36 = .ok (.ifCond .eq 38, 3) := by decide +kernel
theorem d14_39 : decode jdk_68_method_30_code 39 = .ok (.aload_n 3, 1) := by decide +kernel
theorem d14_40 : decode jdk_68_method_30_code 40 = .ok (.iload_n 2, 1) := by decide +kernel
theorem d14_41 : decode jdk_68_method_30_code 41 = .ok (.iinc 2 1, 3) := by decide +kernel
theorem d14_44 : decode jdk_68_method_30_code 44 = .ok (.bipush 116, 2) := by decide +kernel
theorem d14_46 : decode jdk_68_method_30_code 46 = .ok (.bastore, 1) := by decide +kernel
theorem d14_47 : decode jdk_68_method_30_code 47 = .ok (.aload_n 3, 1) := by decide +kernel
theorem d14_48 : decode jdk_68_method_30_code 48 = .ok (.iload_n 2, 1) := by decide +kernel
theorem d14_49 : decode jdk_68_method_30_code 49 = .ok (.iinc 2 1, 3) := by decide +kernel
theorem d14_52 : decode jdk_68_method_30_code 52 = .ok (.bipush 114, 2) := by decide +kernel
theorem d14_54 : decode jdk_68_method_30_code 54 = .ok (.bastore, 1) := by decide +kernel
theorem d14_55 : decode jdk_68_method_30_code 55 = .ok (.aload_n 3, 1) := by decide +kernel
theorem d14_56 : decode jdk_68_method_30_code 56 = .ok (.iload_n 2, 1) := by decide +kernel
theorem d14_57 : decode jdk_68_method_30_code 57 = .ok (.iinc 2 1, 3) := by decide +kernel
theorem d14_60 : decode jdk_68_method_30_code 60 = .ok (.bipush 117, 2) := by decide +kernel
theorem d14_62 : decode jdk_68_method_30_code 62 = .ok (.bastore, 1) := by decide +kernel
theorem d14_63 : decode jdk_68_method_30_code 63 = .ok (.aload_n 3, 1) := by decide +kernel
theorem d14_64 : decode jdk_68_method_30_code 64 = .ok (.iload_n 2, 1) := by decide +kernel
theorem d14_65 : decode jdk_68_method_30_code 65 = .ok (.iinc 2 1, 3) := by decide +kernel
theorem d14_68 : decode jdk_68_method_30_code 68 = .ok (.bipush 101, 2) := by decide +kernel
theorem d14_70 : decode jdk_68_method_30_code 70 = .ok (.bastore, 1) := by decide +kernel
theorem d14_71 : decode jdk_68_method_30_code 71 = .ok (.goto 83, 3) := by decide +kernel
theorem d14_154 : decode jdk_68_method_30_code 154 = .ok (.aload_n 0, 1) := by decide +kernel
theorem d14_155 : decode jdk_68_method_30_code 155 = .ok (.iload_n 2, 1) := by decide +kernel
theorem d14_156 : decode jdk_68_method_30_code 156 = .ok (.putfield 79, 3) := by decide +kernel
theorem d14_159 : decode jdk_68_method_30_code 159 = .ok (.aload_n 0, 1) := by decide +kernel
theorem d14_160 : decode jdk_68_method_30_code 160 = .ok (.areturn, 1) := by decide +kernel
theorem pn_14 : plainName "java/lang/AbstractStringBuilder" = true := by first | (simp [plainName, overriddenIn]; done) | decide +kernel
theorem pd_14_0 : parseMethodDescriptor "(I)V" = some ⟨[.int], none⟩ := by decide +kernel
theorem pd_14_1 : parseMethodDescriptor "()Z" = some ⟨[], some .boolean⟩ := by decide +kernel
theorem ef_rm14_1 (m : MethodId) (x0 : Addr) (x1 : Int32) : entryFrame m #[(.ref x0), (.int x1)] 4 = mkF m 0 #[.val (.ref x0), .val (.int x1), .unset, .unset] [] := by first | (simp [entryFrame, mkF, argsToLocals, Value.category]; done) | rfl
set_option maxRecDepth 65536 in
set_option maxHeartbeats 40000000 in
theorem rm14_1 (l : Launch) (Z : State) (a0 : Array Value) (hw : ∀ d ∈ tables_1, d.before a0 Z = true) (ws : List Jvm.Cond) (a1 : Addr) (h0 : Heap) (n0 : Nat) (Z0 : n0 ≤ h0.size) (bv : Addr) (kv : ClassId) (O : OwnSB Z h0 a1 bv kv 0 [(.int (0 : Int32)), (.int (0 : Int32)), (.int (0 : Int32)), (.int (0 : Int32)), (.int (0 : Int32)), (.int (0 : Int32)), (.int (0 : Int32)), (.int (0 : Int32)), (.int (0 : Int32)), (.int (0 : Int32)), (.int (0 : Int32)), (.int (0 : Int32)), (.int (0 : Int32)), (.int (0 : Int32)), (.int (0 : Int32)), (.int (0 : Int32))]) (cs : Int32) (S_CS : Sta Z h0 "java/lang/String" "COMPACT_STRINGS" "Z" (.int cs)) (hcs : ¬ cs = (0 : Int32)) (g_a1 : n0 ≤ a1) (g_bv : n0 ≤ bv) :
    MetFree l (⟨"java/lang/AbstractStringBuilder", "append", "(Z)Ljava/lang/AbstractStringBuilder;"⟩ : MethodName) (head1 (Jvm.Cond.code (⟨"java/lang/AbstractStringBuilder", "append", "(Z)Ljava/lang/AbstractStringBuilder;"⟩ : MethodName) jdk_68_method_30_code 4 (some (.object "java/lang/AbstractStringBuilder")) :: ws) ({ frames := 1, cells := 0, slots := 0, locals := 14 } : Room)) (fun a U => a = #[(.ref a1), (.int (1 : Int32))] ∧ Z.Warmed39 U.vm ∧ U.heap = h0) (fun _ _ _ _ _ => True) (fun _ U o U' => ∃ v L, o = .returned v ∧ Q14_1 Z a1 bv kv h0 n0 v U'.heap L ∧ FrameEnd U o U' L ({ frames := 1, cells := 0, slots := 0, locals := 14 } : Room).cells ({ frames := 1, cells := 0, slots := 0, locals := 14 } : Room).slots) := by
  refine MetFree.of_bodySF (plainFor_of_name pn_14) hisR ?_
  intro p e s m args below meth c s₁ Bd hml0 hP hK
  obtain ⟨rfl, hZ, hh⟩ := hP
  have hx := Bd.exec
  have hby := Bd.bytes
  have hlk : meth.locks = false := BodyLoose.notSynchronized Bd
  have hml : c.maxLocals = 4 := hml0
  have hown : s.vm.findClass "java/lang/AbstractStringBuilder" = some m.cls := findClass_of_methodNamed Bd.named
  have hnm := (name_of_methodNamed Bd.named Bd.method).1
  have X0 : Stand p l e ({ frames := 1, cells := 0, slots := 0, locals := 14 } : Room) s m #[(.ref a1), (.int (1 : Int32))] below meth c s₁ [] 0 0 := Stand.of_body Bd
  have e0 : s₁.heap = h0 := by rw [← hh, Bd.state]; rfl
  have N0 := Fr.nil n0
  have Zz := Z0
  have Kp : Keep h0 h0 [a1, bv] := Keep.refl _ _
  obtain ⟨E_a1, F_value_a1, F_coder_a1, F_count_a1, V_bv, EX_bv, ne1⟩ := O
  show OwnEnds p e below s (Q14_1 Z a1 bv kv h0 n0) ({ frames := 1, cells := 0, slots := 0, locals := 14 } : Room).cells ({ frames := 1, cells := 0, slots := 0, locals := 14 } : Room).slots s₁ (entryFrame m #[(.ref a1), (.int (1 : Int32))] 4)
  refine own_step (T' := s₁) (f' := (mkF m 0 #[.val (.ref a1), .val (.int (1 : Int32)), .unset, .unset] [])) (fun t k => castTop (ef_rm14_1 m a1 (1 : Int32)) k) ?_
  refine own_step (T' := s₁) (f' := (mkF m 1 #[.val (.ref a1), .val (.int (1 : Int32)), .unset, .unset] [(.ref a1)])) (fun t k => XS.aloadN X0.here hx rfl (hb hby d14_0) rfl rfl k) ?_
  refine own_step (T' := s₁) (f' := (mkF m 2 #[.val (.ref a1), .val (.int (1 : Int32)), .unset, .unset] [(.ref a1), (.ref a1)])) (fun t k => XS.aloadN X0.here hx rfl (hb hby d14_1) rfl rfl k) ?_
  obtain ⟨T1, X1, e1, st1⟩ := getF X0 hx hZ hown (host := "") (Or.inl (hw _ (List.mem_of_getElem? (i := 103) rfl))) Via.refl e0 F_count_a1 (g := (mkF m 2 #[.val (.ref a1), .val (.int (1 : Int32)), .unset, .unset] [(.ref a1), (.ref a1)])) rfl rfl (hb hby d14_2)
  refine own_step (T' := T1) (f' := (mkF m 5 #[.val (.ref a1), .val (.int (1 : Int32)), .unset, .unset] [(.int (0 : Int32)), (.ref a1)])) (fun t k => st1 t k) ?_
  refine own_step (T' := T1) (f' := (mkF m 6 #[.val (.ref a1), .val (.int (1 : Int32)), .unset, .unset] [(.int (1 : Int32)), (.int (0 : Int32)), (.ref a1)])) (fun t k => XS.iloadN X1.here hx rfl (hb hby d14_5) rfl k) ?_
  refine own_step (T' := T1) (f' := (mkF m 9 #[.val (.ref a1), .val (.int (1 : Int32)), .unset, .unset] [(.int (0 : Int32)), (.ref a1)])) (fun t k => XS.ifNo X1.here hx rfl (hb hby d14_6) rfl ((if0 _ _).trans (feq (by decide : ¬ ((1 : Int32) = (0 : Int32)))).1) k) ?_
  refine own_step (T' := T1) (f' := (mkF m 10 #[.val (.ref a1), .val (.int (1 : Int32)), .unset, .unset] [(.int (4 : Int32)), (.int (0 : Int32)), (.ref a1)])) (fun t k => XS.iconst X1.here hx rfl (hb hby d14_9) k) ?_
  refine own_step (T' := T1) (f' := (mkF m 14 #[.val (.ref a1), .val (.int (1 : Int32)), .unset, .unset] [(.int (4 : Int32)), (.int (0 : Int32)), (.ref a1)])) (fun t k => XS.goto X1.here hx rfl (pc0 := 10) (pc' := 14) rfl (hb hby d14_10) (by decide) (by decide) k) ?_
  refine own_step (T' := T1) (f' := (mkF m 15 #[.val (.ref a1), .val (.int (1 : Int32)), .unset, .unset] [(.int (4 : Int32)), (.ref a1)])) (fun t k => XS.iadd X1.here hx rfl (hb hby d14_14) rfl k) ?_
  obtain ⟨cq2, kq2, q2a, q2b, q2c⟩ := isOf hZ e1 E_a1
  obtain ⟨_, _, ⟨T2, L2, k2, n2⟩, -, X2, ⟨Lc2, hQ2, l2, y2, z2⟩, st2⟩ := X1.virtualBack hx (y := (⟨"java/lang/AbstractStringBuilder", "ensureCapacityInternal", "(I)V"⟩ : MethodName)) (z := (⟨"java/lang/AbstractStringBuilder", "ensureCapacityInternal", "(I)V"⟩ : MethodName)) hown (mvT hZ (hw _ (List.mem_of_getElem? (i := 105) rfl))) (mvT hZ (own_decl (hw _ (List.mem_of_getElem? (i := 106) rfl)) (hw _ (List.mem_of_getElem? (i := 109) rfl)))) (notFace_of_selects (args := #[]) (mvT hZ (hw _ (List.mem_of_getElem? (i := 108) rfl)))) (mvT hZ (hw _ (List.mem_of_getElem? (i := 108) rfl))) (mvT hZ (hw _ (List.mem_of_getElem? (i := 106) rfl))) (by decide) (backOf (W := 0) (rm15_1 l Z a0 hw [] a1 h0 n0 Zz bv kv F_value_a1 F_coder_a1 V_bv) hZ (hw _ (List.mem_of_getElem? (i := 109) rfl)) (hw _ (List.mem_of_getElem? (i := 76) rfl)) (by decide) (by decide)) q2a q2c (g := (mkF m 15 #[.val (.ref a1), .val (.int (1 : Int32)), .unset, .unset] [(.int (4 : Int32)), (.ref a1)])) rfl (by rw [hml]; rfl) (Steps.refl _) (argsL := [(.int (4 : Int32))]) (rest := []) (lenOf pd_14_0 rfl) rfl (by show 2 * 0 + _ ≤ _; exact Nat.le_of_eq rfl) (hb hby d14_15) (fun _ _ => ⟨rfl, e1, (by decide : 0 + 0 ≤ _), (by decide : 0 + 0 ≤ _)⟩)
  dsimp only [Pt.U, Pt.locs, Pt.cells, Pt.slots] at X2 l2 y2 z2 st2 hQ2
  subst l2 y2 z2
  obtain ⟨rfl, N2q, E2⟩ := hQ2
  have N2 := Fr.app N0 N2q
  refine own_step (T' := T2) (f' := (mkF m 18 #[.val (.ref a1), .val (.int (1 : Int32)), .unset, .unset] [])) (fun t k => st2.trans k) ?_
  refine own_step (T' := T2) (f' := (mkF m 19 #[.val (.ref a1), .val (.int (1 : Int32)), .unset, .unset] [(.ref a1)])) (fun t k => XS.aloadN X2.here hx rfl (hb hby d14_18) rfl rfl k) ?_
  obtain ⟨T3, X3, e3, st3⟩ := getF X2 hx hZ hown (host := "") (Or.inl (hw _ (List.mem_of_getElem? (i := 103) rfl))) Via.refl E2 F_count_a1 (g := (mkF m 19 #[.val (.ref a1), .val (.int (1 : Int32)), .unset, .unset] [(.ref a1)])) rfl rfl (hb hby d14_19)
  refine own_step (T' := T3) (f' := (mkF m 22 #[.val (.ref a1), .val (.int (1 : Int32)), .unset, .unset] [(.int (0 : Int32))])) (fun t k => st3 t k) ?_
  refine own_step (T' := T3) (f' := (mkF m 23 #[.val (.ref a1), .val (.int (1 : Int32)), .val (.int (0 : Int32)), .unset] [])) (fun t k => XS.istoreN X3.here hx rfl (hb hby d14_22) rfl (l' := #[.val (.ref a1), .val (.int (1 : Int32)), .val (.int (0 : Int32)), .unset]) rfl k) ?_
  refine own_step (T' := T3) (f' := (mkF m 24 #[.val (.ref a1), .val (.int (1 : Int32)), .val (.int (0 : Int32)), .unset] [(.ref a1)])) (fun t k => XS.aloadN X3.here hx rfl (hb hby d14_23) rfl rfl k) ?_
  obtain ⟨T4, X4, e4, st4⟩ := getF X3 hx hZ hown (host := "") (Or.inl (hw _ (List.mem_of_getElem? (i := 84) rfl))) Via.refl e3 F_value_a1 (g := (mkF m 24 #[.val (.ref a1), .val (.int (1 : Int32)), .val (.int (0 : Int32)), .unset] [(.ref a1)])) rfl rfl (hb hby d14_24)
  refine own_step (T' := T4) (f' := (mkF m 27 #[.val (.ref a1), .val (.int (1 : Int32)), .val (.int (0 : Int32)), .unset] [(.ref bv)])) (fun t k => st4 t k) ?_
  refine own_step (T' := T4) (f' := (mkF m 28 #[.val (.ref a1), .val (.int (1 : Int32)), .val (.int (0 : Int32)), .val (.ref bv)] [])) (fun t k => XS.astoreN X4.here hx rfl (hb hby d14_27) rfl rfl (l' := #[.val (.ref a1), .val (.int (1 : Int32)), .val (.int (0 : Int32)), .val (.ref bv)]) rfl k) ?_
  refine own_step (T' := T4) (f' := (mkF m 29 #[.val (.ref a1), .val (.int (1 : Int32)), .val (.int (0 : Int32)), .val (.ref bv)] [(.ref a1)])) (fun t k => XS.aloadN X4.here hx rfl (hb hby d14_28) rfl rfl k) ?_
  obtain ⟨cq5, kq5, q5a, q5b, q5c⟩ := isOf hZ e4 E_a1
  obtain ⟨_, _, ⟨T5, L5, k5, n5⟩, -, X5, ⟨Lc5, hQ5, l5, y5, z5⟩, st5⟩ := X4.virtualBack hx (y := (⟨"java/lang/AbstractStringBuilder", "isLatin1", "()Z"⟩ : MethodName)) (z := (⟨"java/lang/AbstractStringBuilder", "isLatin1", "()Z"⟩ : MethodName)) hown (mvT hZ (hw _ (List.mem_of_getElem? (i := 110) rfl))) (mvT hZ (hw _ (List.mem_of_getElem? (i := 111) rfl))) (notFace_of_selects (args := #[]) (mvT hZ (hw _ (List.mem_of_getElem? (i := 113) rfl)))) (mvT hZ (hw _ (List.mem_of_getElem? (i := 113) rfl))) (mvT hZ (hw _ (List.mem_of_getElem? (i := 112) rfl))) (by decide) (backOf (W := 0) (rm16 l Z a0 hw [] a1 h0 n0 Zz F_coder_a1 cs S_CS hcs) hZ (hw _ (List.mem_of_getElem? (i := 114) rfl)) (hw _ (List.mem_of_getElem? (i := 76) rfl)) (by decide) (by decide)) q5a q5c (g := (mkF m 29 #[.val (.ref a1), .val (.int (1 : Int32)), .val (.int (0 : Int32)), .val (.ref bv)] [(.ref a1)])) rfl (by rw [hml]; rfl) (Steps.refl _) (argsL := []) (rest := []) (lenOf pd_14_1 rfl) rfl (by show 2 * 0 + _ ≤ _; exact Nat.le_of_eq rfl) (hb hby d14_29) (fun _ _ => ⟨rfl, e4, (by decide : 0 + 0 ≤ _), (by decide : 0 + 0 ≤ _)⟩)
  dsimp only [Pt.U, Pt.locs, Pt.cells, Pt.slots] at X5 l5 y5 z5 st5 hQ5
  subst l5 y5 z5
  obtain ⟨rfl, N5q, E5⟩ := hQ5
  have N5 := Fr.app N2 N5q
  refine own_step (T' := T5) (f' := (mkF m 32 #[.val (.ref a1), .val (.int (1 : Int32)), .val (.int (0 : Int32)), .val (.ref bv)] [(.int (1 : Int32))])) (fun t k => st5.trans k) ?_
  refine own_step (T' := T5) (f' := (mkF m 35 #[.val (.ref a1), .val (.int (1 : Int32)), .val (.int (0 : Int32)), .val (.ref bv)] [])) (fun t k => XS.ifNo X5.here hx rfl (hb hby d14_32) rfl ((if0 _ _).trans (feq (by decide : ¬ ((1 : Int32) = (0 : Int32)))).1) k) ?_
  refine own_step (T' := T5) (f' := (mkF m 36 #[.val (.ref a1), .val (.int (1 : Int32)), .val (.int (0 : Int32)), .val (.ref bv)] [(.int (1 : Int32))])) (fun t k => XS.iloadN X5.here hx rfl (hb hby d14_35) rfl k) ?_
  refine own_step (T' := T5) (f' := (mkF m 39 #[.val (.ref a1), .val (.int (1 : Int32)), .val (.int (0 : Int32)), .val (.ref bv)] [])) (fun t k => XS.ifNo X5.here hx rfl (hb hby d14_36) rfl ((if0 _ _).trans (feq (by decide : ¬ ((1 : Int32) = (0 : Int32)))).1) k) ?_
  refine own_step (T' := T5) (f' := (mkF m 40 #[.val (.ref a1), .val (.int (1 : Int32)), .val (.int (0 : Int32)), .val (.ref bv)] [(.ref bv)])) (fun t k => XS.aloadN X5.here hx rfl (hb hby d14_39) rfl rfl k) ?_
  refine own_step (T' := T5) (f' := (mkF m 41 #[.val (.ref a1), .val (.int (1 : Int32)), .val (.int (0 : Int32)), .val (.ref bv)] [(.int (0 : Int32)), (.ref bv)])) (fun t k => XS.iloadN X5.here hx rfl (hb hby d14_40) rfl k) ?_
  refine own_step (T' := T5) (f' := (mkF m 44 #[.val (.ref a1), .val (.int (1 : Int32)), .val (.int (1 : Int32)), .val (.ref bv)] [(.int (0 : Int32)), (.ref bv)])) (fun t k => XS.iinc X5.here hx rfl (hb hby d14_41) rfl (l' := #[.val (.ref a1), .val (.int (1 : Int32)), .val (.int (1 : Int32)), .val (.ref bv)]) rfl k) ?_
  refine own_step (T' := T5) (f' := (mkF m 46 #[.val (.ref a1), .val (.int (1 : Int32)), .val (.int (1 : Int32)), .val (.ref bv)] [(.int (116 : Int32)), (.int (0 : Int32)), (.ref bv)])) (fun t k => XS.bipush X5.here hx rfl (hb hby d14_44) k) ?_
  obtain ⟨cl6, Ar6, q6, S6, M6, H6, G6⟩ := V_bv
  have hin6 : ¬ ((0 : Int32) < 0 ∨ cl6.slots.size ≤ ((0 : Int32)).toNatClampNeg) := inb_of S6 ⟨by decide, by decide⟩
  obtain ⟨T6, h6, X6, e6, W6, st6⟩ := stB X5 hx hZ E5 Ar6 (j := (0 : Int32)) hin6 (g := (mkF m 46 #[.val (.ref a1), .val (.int (1 : Int32)), .val (.int (1 : Int32)), .val (.ref bv)] [(.int (116 : Int32)), (.int (0 : Int32)), (.ref bv)])) rfl rfl (hb hby d14_46)
  have V_bv : Arv Z h6 bv kv .byte (16 : Int32) [(.int (116 : Int32)), (.int (0 : Int32)), (.int (0 : Int32)), (.int (0 : Int32)), (.int (0 : Int32)), (.int (0 : Int32)), (.int (0 : Int32)), (.int (0 : Int32)), (.int (0 : Int32)), (.int (0 : Int32)), (.int (0 : Int32)), (.int (0 : Int32)), (.int (0 : Int32)), (.int (0 : Int32)), (.int (0 : Int32)), (.int (0 : Int32))] (.int (0 : Int32)) := Arv.set Ar6 q6 S6 M6 H6 G6 (fits_nar_byte _) W6 0 rfl (Nat.le_of_ble_eq_true rfl)
  replace E_a1 := E_a1.wr W6
  replace F_value_a1 := F_value_a1.other W6 (Or.inl ne1)
  replace F_coder_a1 := F_coder_a1.other W6 (Or.inl ne1)
  replace F_count_a1 := F_count_a1.other W6 (Or.inl ne1)
  replace EX_bv := EX_bv.wr W6
  replace S_CS := S_CS.wr W6
  replace Zz := Nat.le_trans Zz (Keep.of_wr W6).1
  replace Kp := Kp.wr W6 (Or.inl (List.mem_of_getElem? (i := 1) rfl))
  have N6 := Fr.snoc X6 N5 g_bv
  refine own_step (T' := T6) (f' := (mkF m 47 #[.val (.ref a1), .val (.int (1 : Int32)), .val (.int (1 : Int32)), .val (.ref bv)] [])) (fun t k => st6 t k) ?_
  refine own_step (T' := T6) (f' := (mkF m 48 #[.val (.ref a1), .val (.int (1 : Int32)), .val (.int (1 : Int32)), .val (.ref bv)] [(.ref bv)])) (fun t k => XS.aloadN X6.here hx rfl (hb hby d14_47) rfl rfl k) ?_
  refine own_step (T' := T6) (f' := (mkF m 49 #[.val (.ref a1), .val (.int (1 : Int32)), .val (.int (1 : Int32)), .val (.ref bv)] [(.int (1 : Int32)), (.ref bv)])) (fun t k => XS.iloadN X6.here hx rfl (hb hby d14_48) rfl k) ?_
  refine own_step (T' := T6) (f' := (mkF m 52 #[.val (.ref a1), .val (.int (1 : Int32)), .val (.int (2 : Int32)), .val (.ref bv)] [(.int (1 : Int32)), (.ref bv)])) (fun t k => XS.iinc X6.here hx rfl (hb hby d14_49) rfl (l' := #[.val (.ref a1), .val (.int (1 : Int32)), .val (.int (2 : Int32)), .val (.ref bv)]) rfl k) ?_
  refine own_step (T' := T6) (f' := (mkF m 54 #[.val (.ref a1), .val (.int (1 : Int32)), .val (.int (2 : Int32)), .val (.ref bv)] [(.int (114 : Int32)), (.int (1 : Int32)), (.ref bv)])) (fun t k => XS.bipush X6.here hx rfl (hb hby d14_52) k) ?_
  obtain ⟨cl7, Ar7, q7, S7, M7, H7, G7⟩ := V_bv
  have hin7 : ¬ ((1 : Int32) < 0 ∨ cl7.slots.size ≤ ((1 : Int32)).toNatClampNeg) := inb_of S7 ⟨by decide, by decide⟩
  obtain ⟨T7, h7, X7, e7, W7, st7⟩ := stB X6 hx hZ e6 Ar7 (j := (1 : Int32)) hin7 (g := (mkF m 54 #[.val (.ref a1), .val (.int (1 : Int32)), .val (.int (2 : Int32)), .val (.ref bv)] [(.int (114 : Int32)), (.int (1 : Int32)), (.ref bv)])) rfl rfl (hb hby d14_54)
  have V_bv : Arv Z h7 bv kv .byte (16 : Int32) [(.int (116 : Int32)), (.int (114 : Int32)), (.int (0 : Int32)), (.int (0 : Int32)), (.int (0 : Int32)), (.int (0 : Int32)), (.int (0 : Int32)), (.int (0 : Int32)), (.int (0 : Int32)), (.int (0 : Int32)), (.int (0 : Int32)), (.int (0 : Int32)), (.int (0 : Int32)), (.int (0 : Int32)), (.int (0 : Int32)), (.int (0 : Int32))] (.int (0 : Int32)) := Arv.set Ar7 q7 S7 M7 H7 G7 (fits_nar_byte _) W7 1 rfl (Nat.le_of_ble_eq_true rfl)
  replace E_a1 := E_a1.wr W7
  replace F_value_a1 := F_value_a1.other W7 (Or.inl ne1)
  replace F_coder_a1 := F_coder_a1.other W7 (Or.inl ne1)
  replace F_count_a1 := F_count_a1.other W7 (Or.inl ne1)
  replace EX_bv := EX_bv.wr W7
  replace S_CS := S_CS.wr W7
  replace Zz := Nat.le_trans Zz (Keep.of_wr W7).1
  replace Kp := Kp.wr W7 (Or.inl (List.mem_of_getElem? (i := 1) rfl))
  have N7 := Fr.snoc X7 N6 g_bv
  refine own_step (T' := T7) (f' := (mkF m 55 #[.val (.ref a1), .val (.int (1 : Int32)), .val (.int (2 : Int32)), .val (.ref bv)] [])) (fun t k => st7 t k) ?_
  refine own_step (T' := T7) (f' := (mkF m 56 #[.val (.ref a1), .val (.int (1 : Int32)), .val (.int (2 : Int32)), .val (.ref bv)] [(.ref bv)])) (fun t k => XS.aloadN X7.here hx rfl (hb hby d14_55) rfl rfl k) ?_
  refine own_step (T' := T7) (f' := (mkF m 57 #[.val (.ref a1), .val (.int (1 : Int32)), .val (.int (2 : Int32)), .val (.ref bv)] [(.int (2 : Int32)), (.ref bv)])) (fun t k => XS.iloadN X7.here hx rfl (hb hby d14_56) rfl k) ?_
  refine own_step (T' := T7) (f' := (mkF m 60 #[.val (.ref a1), .val (.int (1 : Int32)), .val (.int (3 : Int32)), .val (.ref bv)] [(.int (2 : Int32)), (.ref bv)])) (fun t k => XS.iinc X7.here hx rfl (hb hby d14_57) rfl (l' := #[.val (.ref a1), .val (.int (1 : Int32)), .val (.int (3 : Int32)), .val (.ref bv)]) rfl k) ?_
  refine own_step (T' := T7) (f' := (mkF m 62 #[.val (.ref a1), .val (.int (1 : Int32)), .val (.int (3 : Int32)), .val (.ref bv)] [(.int (117 : Int32)), (.int (2 : Int32)), (.ref bv)])) (fun t k => XS.bipush X7.here hx rfl (hb hby d14_60) k) ?_
  obtain ⟨cl8, Ar8, q8, S8, M8, H8, G8⟩ := V_bv
  have hin8 : ¬ ((2 : Int32) < 0 ∨ cl8.slots.size ≤ ((2 : Int32)).toNatClampNeg) := inb_of S8 ⟨by decide, by decide⟩
  obtain ⟨T8, h8, X8, e8, W8, st8⟩ := stB X7 hx hZ e7 Ar8 (j := (2 : Int32)) hin8 (g := (mkF m 62 #[.val (.ref a1), .val (.int (1 : Int32)), .val (.int (3 : Int32)), .val (.ref bv)] [(.int (117 : Int32)), (.int (2 : Int32)), (.ref bv)])) rfl rfl (hb hby d14_62)
  have V_bv : Arv Z h8 bv kv .byte (16 : Int32) [(.int (116 : Int32)), (.int (114 : Int32)), (.int (117 : Int32)), (.int (0 : Int32)), (.int (0 : Int32)), (.int (0 : Int32)), (.int (0 : Int32)), (.int (0 : Int32)), (.int (0 : Int32)), (.int (0 : Int32)), (.int (0 : Int32)), (.int (0 : Int32)), (.int (0 : Int32)), (.int (0 : Int32)), (.int (0 : Int32)), (.int (0 : Int32))] (.int (0 : Int32)) := Arv.set Ar8 q8 S8 M8 H8 G8 (fits_nar_byte _) W8 2 rfl (Nat.le_of_ble_eq_true rfl)
  replace E_a1 := E_a1.wr W8
  replace F_value_a1 := F_value_a1.other W8 (Or.inl ne1)
  replace F_coder_a1 := F_coder_a1.other W8 (Or.inl ne1)
  replace F_count_a1 := F_count_a1.other W8 (Or.inl ne1)
  replace EX_bv := EX_bv.wr W8
  replace S_CS := S_CS.wr W8
  replace Zz := Nat.le_trans Zz (Keep.of_wr W8).1
  replace Kp := Kp.wr W8 (Or.inl (List.mem_of_getElem? (i := 1) rfl))
  have N8 := Fr.snoc X8 N7 g_bv
  refine own_step (T' := T8) (f' := (mkF m 63 #[.val (.ref a1), .val (.int (1 : Int32)), .val (.int (3 : Int32)), .val (.ref bv)] [])) (fun t k => st8 t k) ?_
  refine own_step (T' := T8) (f' := (mkF m 64 #[.val (.ref a1), .val (.int (1 : Int32)), .val (.int (3 : Int32)), .val (.ref bv)] [(.ref bv)])) (fun t k => XS.aloadN X8.here hx rfl (hb hby d14_63) rfl rfl k) ?_
  refine own_step (T' := T8) (f' := (mkF m 65 #[.val (.ref a1), .val (.int (1 : Int32)), .val (.int (3 : Int32)), .val (.ref bv)] [(.int (3 : Int32)), (.ref bv)])) (fun t k => XS.iloadN X8.here hx rfl (hb hby d14_64) rfl k) ?_
  refine own_step (T' := T8) (f' := (mkF m 68 #[.val (.ref a1), .val (.int (1 : Int32)), .val (.int (4 : Int32)), .val (.ref bv)] [(.int (3 : Int32)), (.ref bv)])) (fun t k => XS.iinc X8.here hx rfl (hb hby d14_65) rfl (l' := #[.val (.ref a1), .val (.int (1 : Int32)), .val (.int (4 : Int32)), .val (.ref bv)]) rfl k) ?_
  refine own_step (T' := T8) (f' := (mkF m 70 #[.val (.ref a1), .val (.int (1 : Int32)), .val (.int (4 : Int32)), .val (.ref bv)] [(.int (101 : Int32)), (.int (3 : Int32)), (.ref bv)])) (fun t k => XS.bipush X8.here hx rfl (hb hby d14_68) k) ?_
  obtain ⟨cl9, Ar9, q9, S9, M9, H9, G9⟩ := V_bv
  have hin9 : ¬ ((3 : Int32) < 0 ∨ cl9.slots.size ≤ ((3 : Int32)).toNatClampNeg) := inb_of S9 ⟨by decide, by decide⟩
  obtain ⟨T9, h9, X9, e9, W9, st9⟩ := stB X8 hx hZ e8 Ar9 (j := (3 : Int32)) hin9 (g := (mkF m 70 #[.val (.ref a1), .val (.int (1 : Int32)), .val (.int (4 : Int32)), .val (.ref bv)] [(.int (101 : Int32)), (.int (3 : Int32)), (.ref bv)])) rfl rfl (hb hby d14_70)
  have V_bv : Arv Z h9 bv kv .byte (16 : Int32) [(.int (116 : Int32)), (.int (114 : Int32)), (.int (117 : Int32)), (.int (101 : Int32)), (.int (0 : Int32)), (.int (0 : Int32)), (.int (0 : Int32)), (.int (0 : Int32)), (.int (0 : Int32)), (.int (0 : Int32)), (.int (0 : Int32)), (.int (0 : Int32)), (.int (0 : Int32)), (.int (0 : Int32)), (.int (0 : Int32)), (.int (0 : Int32))] (.int (0 : Int32)) := Arv.set Ar9 q9 S9 M9 H9 G9 (fits_nar_byte _) W9 3 rfl (Nat.le_of_ble_eq_true rfl)
  replace E_a1 := E_a1.wr W9
  replace F_value_a1 := F_value_a1.other W9 (Or.inl ne1)
  replace F_coder_a1 := F_coder_a1.other W9 (Or.inl ne1)
  replace F_count_a1 := F_count_a1.other W9 (Or.inl ne1)
  replace EX_bv := EX_bv.wr W9
  replace S_CS := S_CS.wr W9
  replace Zz := Nat.le_trans Zz (Keep.of_wr W9).1
  replace Kp := Kp.wr W9 (Or.inl (List.mem_of_getElem? (i := 1) rfl))
  have N9 := Fr.snoc X9 N8 g_bv
  refine own_step (T' := T9) (f' := (mkF m 71 #[.val (.ref a1), .val (.int (1 : Int32)), .val (.int (4 : Int32)), .val (.ref bv)] [])) (fun t k => st9 t k) ?_
  refine own_step (T' := T9) (f' := (mkF m 154 #[.val (.ref a1), .val (.int (1 : Int32)), .val (.int (4 : Int32)), .val (.ref bv)] [])) (fun t k => XS.goto X9.here hx rfl (pc0 := 71) (pc' := 154) rfl (hb hby d14_71) (by decide) (by decide) k) ?_
  refine own_step (T' := T9) (f' := (mkF m 155 #[.val (.ref a1), .val (.int (1 : Int32)), .val (.int (4 : Int32)), .val (.ref bv)] [(.ref a1)])) (fun t k => XS.aloadN X9.here hx rfl (hb hby d14_154) rfl rfl k) ?_
  refine own_step (T' := T9) (f' := (mkF m 156 #[.val (.ref a1), .val (.int (1 : Int32)), .val (.int (4 : Int32)), .val (.ref bv)] [(.int (4 : Int32)), (.ref a1)])) (fun t k => XS.iloadN X9.here hx rfl (hb hby d14_155) rfl k) ?_
  obtain ⟨T10, h10, X10, e10, W10, st10⟩ := putF X9 hx hZ hown (host := "") (Or.inl (hw _ (List.mem_of_getElem? (i := 103) rfl))) Via.refl e9 F_count_a1 E_a1 (Or.inl (hw _ (List.mem_of_getElem? (i := 104) rfl))) (hw _ (List.mem_of_getElem? (i := 67) rfl)) (ty := .int) (by decide) rfl rfl (g := (mkF m 156 #[.val (.ref a1), .val (.int (1 : Int32)), .val (.int (4 : Int32)), .val (.ref bv)] [(.int (4 : Int32)), (.ref a1)])) rfl rfl (hb hby d14_156)
  replace E_a1 := E_a1.wr W10
  replace F_value_a1 := F_value_a1.other W10 (Or.inr (Jvm.RoadKit.slot_ne (Or.inl (hw _ (List.mem_of_getElem? (i := 85) rfl))) (Or.inl (hw _ (List.mem_of_getElem? (i := 104) rfl))) (by decide) (t := (.array .byte)) (t' := .int) (by decide) (by decide)))
  replace F_coder_a1 := F_coder_a1.other W10 (Or.inr (Jvm.RoadKit.slot_ne (Or.inl (hw _ (List.mem_of_getElem? (i := 87) rfl))) (Or.inl (hw _ (List.mem_of_getElem? (i := 104) rfl))) (by decide) (t := .byte) (t' := .int) (by decide) (by decide)))
  replace F_count_a1 := F_count_a1.same W10
  replace V_bv := V_bv.other W10 (Ne.symm ne1)
  replace EX_bv := EX_bv.wr W10
  replace S_CS := S_CS.wr W10
  replace Zz := Nat.le_trans Zz (Keep.of_wr W10).1
  replace Kp := Kp.wr W10 (Or.inl (List.mem_of_getElem? (i := 0) rfl))
  have N10 := Fr.snoc X10 N9 g_a1
  refine own_step (T' := T10) (f' := (mkF m 159 #[.val (.ref a1), .val (.int (1 : Int32)), .val (.int (4 : Int32)), .val (.ref bv)] [])) (fun t k => st10 t k) ?_
  refine own_step (T' := T10) (f' := (mkF m 160 #[.val (.ref a1), .val (.int (1 : Int32)), .val (.int (4 : Int32)), .val (.ref bv)] [(.ref a1)])) (fun t k => XS.aloadN X10.here hx rfl (hb hby d14_159) rfl rfl k) ?_
  exact own_retO X10 hx hlk Bd.returns rfl (Or.inr (Or.inr (Or.inr (Or.inr ⟨rfl, rfl, rfl⟩)))) (hb hby d14_160) (by decide) (by decide) (by rw [e10]; exact ⟨rfl, N10, Kp, E_a1, F_value_a1, F_coder_a1, F_count_a1, V_bv, EX_bv, ne1⟩)

theorem d13_0 : decode jdk_67_method_13_code 0 = .ok (.aload_n 0, 1) := by decide +kernel
theorem d13_1 : decode jdk_67_method_13_code 1 = .ok (.iload_n 1, 1) := by decide +kernel
theorem d13_2 : decode jdk_67_method_13_code 2 = .ok (.invokespecial 47, 3) := by decide +kernel
theorem d13_5 : decode jdk_67_method_13_code 5 = .ok (.pop, 1) := by decide +kernel
theorem d13_6 : decode jdk_67_method_13_code 6 = .ok (.aload_n 0, 1) := by decide +kernel
theorem d13_7 : decode jdk_67_method_13_code 7 = .ok (.areturn, 1) := by decide +kernel
theorem pn_13 : plainName "java/lang/StringBuilder" = true := by first | (simp [plainName, overriddenIn]; done) | decide +kernel
theorem pd_13_0 : parseMethodDescriptor "(Z)Ljava/lang/AbstractStringBuilder;" = some ⟨[.boolean], some (.object "java/lang/AbstractStringBuilder")⟩ := by decide +kernel
theorem ef_rm13_1 (m : MethodId) (x0 : Addr) (x1 : Int32) : entryFrame m #[(.ref x0), (.int x1)] 2 = mkF m 0 #[.val (.ref x0), .val (.int x1)] [] := by first | (simp [entryFrame, mkF, argsToLocals, Value.category]; done) | rfl
set_option maxRecDepth 65536 in
set_option maxHeartbeats 40000000 in
theorem rm13_1 (l : Launch) (Z : State) (a0 : Array Value) (hw : ∀ d ∈ tables_1, d.before a0 Z = true) (ws : List Jvm.Cond) (a1 : Addr) (h0 : Heap) (n0 : Nat) (Z0 : n0 ≤ h0.size) (bv : Addr) (kv : ClassId) (O : OwnSB Z h0 a1 bv kv 0 [(.int (0 : Int32)), (.int (0 : Int32)), (.int (0 : Int32)), (.int (0 : Int32)), (.int (0 : Int32)), (.int (0 : Int32)), (.int (0 : Int32)), (.int (0 : Int32)), (.int (0 : Int32)), (.int (0 : Int32)), (.int (0 : Int32)), (.int (0 : Int32)), (.int (0 : Int32)), (.int (0 : Int32)), (.int (0 : Int32)), (.int (0 : Int32))]) (cs : Int32) (S_CS : Sta Z h0 "java/lang/String" "COMPACT_STRINGS" "Z" (.int cs)) (hcs : ¬ cs = (0 : Int32)) (g_a1 : n0 ≤ a1) (g_bv : n0 ≤ bv) :
    MetFree l (⟨"java/lang/StringBuilder", "append", "(Z)Ljava/lang/StringBuilder;"⟩ : MethodName) (head1 (Jvm.Cond.code (⟨"java/lang/StringBuilder", "append", "(Z)Ljava/lang/StringBuilder;"⟩ : MethodName) jdk_67_method_13_code 2 (some (.object "java/lang/StringBuilder")) :: ws) ({ frames := 2, cells := 0, slots := 0, locals := 29 } : Room)) (fun a U => a = #[(.ref a1), (.int (1 : Int32))] ∧ Z.Warmed39 U.vm ∧ U.heap = h0) (fun _ _ _ _ _ => True) (fun _ U o U' => ∃ v L, o = .returned v ∧ Q14_1 Z a1 bv kv h0 n0 v U'.heap L ∧ FrameEnd U o U' L ({ frames := 2, cells := 0, slots := 0, locals := 29 } : Room).cells ({ frames := 2, cells := 0, slots := 0, locals := 29 } : Room).slots) := by
  refine MetFree.of_bodySF (plainFor_of_name pn_13) hisR ?_
  intro p e s m args below meth c s₁ Bd hml0 hP hK
  obtain ⟨rfl, hZ, hh⟩ := hP
  have hx := Bd.exec
  have hby := Bd.bytes
  have hlk : meth.locks = false := BodyLoose.notSynchronized Bd
  have hml : c.maxLocals = 2 := hml0
  have hown : s.vm.findClass "java/lang/StringBuilder" = some m.cls := findClass_of_methodNamed Bd.named
  have hnm := (name_of_methodNamed Bd.named Bd.method).1
  have X0 : Stand p l e ({ frames := 2, cells := 0, slots := 0, locals := 29 } : Room) s m #[(.ref a1), (.int (1 : Int32))] below meth c s₁ [] 0 0 := Stand.of_body Bd
  have e0 : s₁.heap = h0 := by rw [← hh, Bd.state]; rfl
  have N0 := Fr.nil n0
  show OwnEnds p e below s (Q14_1 Z a1 bv kv h0 n0) ({ frames := 2, cells := 0, slots := 0, locals := 29 } : Room).cells ({ frames := 2, cells := 0, slots := 0, locals := 29 } : Room).slots s₁ (entryFrame m #[(.ref a1), (.int (1 : Int32))] 2)
  refine own_step (T' := s₁) (f' := (mkF m 0 #[.val (.ref a1), .val (.int (1 : Int32))] [])) (fun t k => castTop (ef_rm13_1 m a1 (1 : Int32)) k) ?_
  refine own_step (T' := s₁) (f' := (mkF m 1 #[.val (.ref a1), .val (.int (1 : Int32))] [(.ref a1)])) (fun t k => XS.aloadN X0.here hx rfl (hb hby d13_0) rfl rfl k) ?_
  refine own_step (T' := s₁) (f' := (mkF m 2 #[.val (.ref a1), .val (.int (1 : Int32))] [(.int (1 : Int32)), (.ref a1)])) (fun t k => XS.iloadN X0.here hx rfl (hb hby d13_1) rfl k) ?_
  obtain ⟨_, _, ⟨T1, L1, k1, n1⟩, -, X1, ⟨Lc1, hQ1, l1, y1, z1⟩, st1⟩ := superBack X0 hx hZ (y := (⟨"java/lang/AbstractStringBuilder", "append", "(Z)Ljava/lang/AbstractStringBuilder;"⟩ : MethodName)) hown (hw _ (List.mem_of_getElem? (i := 98) rfl)) (own_same (y := (⟨"java/lang/AbstractStringBuilder", "append", "(Z)Ljava/lang/AbstractStringBuilder;"⟩ : MethodName)) (hw _ (List.mem_of_getElem? (i := 101) rfl)) (hw _ (List.mem_of_getElem? (i := 113) rfl)) rfl (by decide)) (hw _ (List.mem_of_getElem? (i := 99) rfl)) (hw _ (List.mem_of_getElem? (i := 100) rfl)) (by decide) (backOf (W := 0) (rm14_1 l Z a0 hw [] a1 h0 n0 Z0 bv kv O cs S_CS hcs g_a1 g_bv) hZ (hw _ (List.mem_of_getElem? (i := 102) rfl)) (hw _ (List.mem_of_getElem? (i := 76) rfl)) (by decide) (by decide)) e0 (Ins.self O.1) (g := (mkF m 2 #[.val (.ref a1), .val (.int (1 : Int32))] [(.int (1 : Int32)), (.ref a1)])) rfl (by rw [hml]; rfl) (hw _ (List.mem_of_getElem? (i := 102) rfl)) (argsL := [(.int (1 : Int32))]) (rest := []) (lenOf pd_13_0 rfl) rfl (by show 2 * 0 + _ ≤ _; exact Nat.le_of_eq rfl) (hb hby d13_2) (fun _ _ => ⟨rfl, e0, (by decide : 0 + 0 ≤ _), (by decide : 0 + 0 ≤ _)⟩)
  dsimp only [Pt.U, Pt.locs, Pt.cells, Pt.slots] at X1 l1 y1 z1 st1 hQ1
  subst l1 y1 z1
  obtain ⟨rfl, N1q, K1, Ow1⟩ := hQ1
  have N1 := Fr.app N0 N1q
  refine own_step (T' := T1) (f' := (mkF m 5 #[.val (.ref a1), .val (.int (1 : Int32))] [(.ref a1)])) (fun t k => st1.trans k) ?_
  refine own_step (T' := T1) (f' := (mkF m 6 #[.val (.ref a1), .val (.int (1 : Int32))] [])) (fun t k => XS.pop X1.here hx rfl (hb hby d13_5) rfl rfl k) ?_
  refine own_step (T' := T1) (f' := (mkF m 7 #[.val (.ref a1), .val (.int (1 : Int32))] [(.ref a1)])) (fun t k => XS.aloadN X1.here hx rfl (hb hby d13_6) rfl rfl k) ?_
  exact own_retO X1 hx hlk Bd.returns rfl (Or.inr (Or.inr (Or.inr (Or.inr ⟨rfl, rfl, rfl⟩)))) (hb hby d13_7) (by decide) (by decide) ⟨rfl, N1, K1, Ow1⟩

def Q12_1 (Z : State) (a2 bv : Addr) (kv : ClassId) (h0 : Heap) (n0 : Nat) (v : Option Value) (h : Heap) (L : List Loc) : Prop := v = none ∧ Fr n0 L ∧ Keep h0 h [a2, bv] ∧ OwnSB Z h a2 bv kv 4 [(.int (116 : Int32)), (.int (114 : Int32)), (.int (117 : Int32)), (.int (101 : Int32)), (.int (0 : Int32)), (.int (0 : Int32)), (.int (0 : Int32)), (.int (0 : Int32)), (.int (0 : Int32)), (.int (0 : Int32)), (.int (0 : Int32)), (.int (0 : Int32)), (.int (0 : Int32)), (.int (0 : Int32)), (.int (0 : Int32)), (.int (0 : Int32))]
theorem d12_0 : decode prog_7_method_6_code 0 = .ok (.aload_n 1, 1) := by decide +kernel
theorem d12_1 : decode prog_7_method_6_code 1 = .ok (.aload_n 0, 1) := by decide +kernel
theorem d12_2 : decode prog_7_method_6_code 2 = .ok (.getfield 7, 3) := by decide +kernel
theorem d12_5 : decode prog_7_method_6_code 5 = .ok (.invokevirtual 32, 3) := by decide +kernel
theorem d12_8 : decode prog_7_method_6_code 8 = .ok (.pop, 1) := by decide +kernel
theorem d12_9 : decode prog_7_method_6_code 9 = .ok (.return_, 1) := by decide +kernel
theorem pn_12 : plainName "com/example/umriss/umriss/runtime/BooleanValue" = true := by first | (simp [plainName, overriddenIn]; done) | decide +kernel
theorem pd_12_0 : parseMethodDescriptor "(Z)Ljava/lang/StringBuilder;" = some ⟨[.boolean], some (.object "java/lang/StringBuilder")⟩ := by decide +kernel
theorem ef_rm12_1 (m : MethodId) (x0 : Addr) (x1 : Addr) : entryFrame m #[(.ref x0), (.ref x1)] 2 = mkF m 0 #[.val (.ref x0), .val (.ref x1)] [] := by first | (simp [entryFrame, mkF, argsToLocals, Value.category]; done) | rfl
set_option maxRecDepth 65536 in
set_option maxHeartbeats 40000000 in
theorem rm12_1 (l : Launch) (Z : State) (a0 : Array Value) (hw : ∀ d ∈ tables_1, d.before a0 Z = true) (ws : List Jvm.Cond) (a1 : Addr) (a2 : Addr) (h0 : Heap) (n0 : Nat) (Z0 : n0 ≤ h0.size) (F_v : Fld Z h0 a1 "com/example/umriss/umriss/runtime/BooleanValue" "value" "Z" (.int (1 : Int32))) (bv : Addr) (kv : ClassId) (O : OwnSB Z h0 a2 bv kv 0 [(.int (0 : Int32)), (.int (0 : Int32)), (.int (0 : Int32)), (.int (0 : Int32)), (.int (0 : Int32)), (.int (0 : Int32)), (.int (0 : Int32)), (.int (0 : Int32)), (.int (0 : Int32)), (.int (0 : Int32)), (.int (0 : Int32)), (.int (0 : Int32)), (.int (0 : Int32)), (.int (0 : Int32)), (.int (0 : Int32)), (.int (0 : Int32))]) (cs : Int32) (S_CS : Sta Z h0 "java/lang/String" "COMPACT_STRINGS" "Z" (.int cs)) (hcs : ¬ cs = (0 : Int32)) (g_a2 : n0 ≤ a2) (g_bv : n0 ≤ bv) :
    MetFree l (⟨"com/example/umriss/umriss/runtime/BooleanValue", "appendTo", "(Ljava/lang/StringBuilder;)V"⟩ : MethodName) (head1 (Jvm.Cond.code (⟨"com/example/umriss/umriss/runtime/BooleanValue", "appendTo", "(Ljava/lang/StringBuilder;)V"⟩ : MethodName) prog_7_method_6_code 2 none :: ws) ({ frames := 3, cells := 0, slots := 0, locals := 42 } : Room)) (fun a U => a = #[(.ref a1), (.ref a2)] ∧ Z.Warmed39 U.vm ∧ U.heap = h0) (fun _ _ _ _ _ => True) (fun _ U o U' => ∃ v L, o = .returned v ∧ Q12_1 Z a2 bv kv h0 n0 v U'.heap L ∧ FrameEnd U o U' L ({ frames := 3, cells := 0, slots := 0, locals := 42 } : Room).cells ({ frames := 3, cells := 0, slots := 0, locals := 42 } : Room).slots) := by
  refine MetFree.of_bodySF (plainFor_of_name pn_12) hisR ?_
  intro p e s m args below meth c s₁ Bd hml0 hP hK
  obtain ⟨rfl, hZ, hh⟩ := hP
  have hx := Bd.exec
  have hby := Bd.bytes
  have hlk : meth.locks = false := BodyLoose.notSynchronized Bd
  have hml : c.maxLocals = 2 := hml0
  have hown : s.vm.findClass "com/example/umriss/umriss/runtime/BooleanValue" = some m.cls := findClass_of_methodNamed Bd.named
  have hnm := (name_of_methodNamed Bd.named Bd.method).1
  have X0 : Stand p l e ({ frames := 3, cells := 0, slots := 0, locals := 42 } : Room) s m #[(.ref a1), (.ref a2)] below meth c s₁ [] 0 0 := Stand.of_body Bd
  have e0 : s₁.heap = h0 := by rw [← hh, Bd.state]; rfl
  have N0 := Fr.nil n0
  show OwnEnds p e below s (Q12_1 Z a2 bv kv h0 n0) ({ frames := 3, cells := 0, slots := 0, locals := 42 } : Room).cells ({ frames := 3, cells := 0, slots := 0, locals := 42 } : Room).slots s₁ (entryFrame m #[(.ref a1), (.ref a2)] 2)
  refine own_step (T' := s₁) (f' := (mkF m 0 #[.val (.ref a1), .val (.ref a2)] [])) (fun t k => castTop (ef_rm12_1 m a1 a2) k) ?_
  refine own_step (T' := s₁) (f' := (mkF m 1 #[.val (.ref a1), .val (.ref a2)] [(.ref a2)])) (fun t k => XS.aloadN X0.here hx rfl (hb hby d12_0) rfl rfl k) ?_
  refine own_step (T' := s₁) (f' := (mkF m 2 #[.val (.ref a1), .val (.ref a2)] [(.ref a1), (.ref a2)])) (fun t k => XS.aloadN X0.here hx rfl (hb hby d12_1) rfl rfl k) ?_
  obtain ⟨T1, X1, e1, st1⟩ := getF X0 hx hZ hown (host := "") (Or.inl (hw _ (List.mem_of_getElem? (i := 13) rfl))) Via.refl e0 F_v (g := (mkF m 2 #[.val (.ref a1), .val (.ref a2)] [(.ref a1), (.ref a2)])) rfl rfl (hb hby d12_2)
  refine own_step (T' := T1) (f' := (mkF m 5 #[.val (.ref a1), .val (.ref a2)] [(.int (1 : Int32)), (.ref a2)])) (fun t k => st1 t k) ?_
  obtain ⟨cq2, kq2, q2a, q2b, q2c⟩ := isOf hZ e1 O.1
  obtain ⟨_, _, ⟨T2, L2, k2, n2⟩, -, X2, ⟨Lc2, hQ2, l2, y2, z2⟩, st2⟩ := X1.virtualBack hx (y := (⟨"java/lang/StringBuilder", "append", "(Z)Ljava/lang/StringBuilder;"⟩ : MethodName)) (z := (⟨"java/lang/StringBuilder", "append", "(Z)Ljava/lang/StringBuilder;"⟩ : MethodName)) hown (mvT hZ (hw _ (List.mem_of_getElem? (i := 93) rfl))) (mvT hZ (hw _ (List.mem_of_getElem? (i := 94) rfl))) (notFace_of_selects (args := #[]) (mvT hZ (hw _ (List.mem_of_getElem? (i := 96) rfl)))) (mvT hZ (hw _ (List.mem_of_getElem? (i := 96) rfl))) (mvT hZ (hw _ (List.mem_of_getElem? (i := 95) rfl))) (by decide) (backOf (W := 0) (rm13_1 l Z a0 hw [] a2 h0 n0 Z0 bv kv O cs S_CS hcs g_a2 g_bv) hZ (hw _ (List.mem_of_getElem? (i := 97) rfl)) (hw _ (List.mem_of_getElem? (i := 68) rfl)) (by decide) (by decide)) q2a q2c (g := (mkF m 5 #[.val (.ref a1), .val (.ref a2)] [(.int (1 : Int32)), (.ref a2)])) rfl (by rw [hml]; rfl) (Steps.refl _) (argsL := [(.int (1 : Int32))]) (rest := []) (lenOf pd_12_0 rfl) rfl (by show 2 * 0 + _ ≤ _; exact Nat.le_of_eq rfl) (hb hby d12_5) (fun _ _ => ⟨rfl, e1, (by decide : 0 + 0 ≤ _), (by decide : 0 + 0 ≤ _)⟩)
  dsimp only [Pt.U, Pt.locs, Pt.cells, Pt.slots] at X2 l2 y2 z2 st2 hQ2
  subst l2 y2 z2
  obtain ⟨rfl, N2q, K2, Ow2⟩ := hQ2
  have N2 := Fr.app N0 N2q
  refine own_step (T' := T2) (f' := (mkF m 8 #[.val (.ref a1), .val (.ref a2)] [(.ref a2)])) (fun t k => st2.trans k) ?_
  refine own_step (T' := T2) (f' := (mkF m 9 #[.val (.ref a1), .val (.ref a2)] [])) (fun t k => XS.pop X2.here hx rfl (hb hby d12_8) rfl rfl k) ?_
  exact own_retV X2 hx hlk Bd.returns (hb hby d12_9) (by decide) (by decide) ⟨rfl, N2, K2, Ow2⟩

theorem d25_0 : decode jdk_65_method_131_code 0 = .ok (.iload_n 1, 1) := by decide +kernel
theorem d25_1 : decode jdk_65_method_131_code 1 = .ok (.iload_n 0, 1) := by decide +kernel
theorem d25_2 : decode jdk_65_method_131_code 2 = .ok (.if_icmp .ge 35, 3) := by decide +kernel
theorem d25_37 : decode jdk_65_method_131_code 37 = .ok (.return_, 1) := by decide +kernel
theorem pn_25 : plainName "java/util/Arrays" = true := by first | (simp [plainName, overriddenIn]; done) | decide +kernel
theorem ef_rm25_1 (m : MethodId) (x0 : Int32) (x1 : Int32) : entryFrame m #[(.int x0), (.int x1)] 2 = mkF m 0 #[.val (.int x0), .val (.int x1)] [] := by first | (simp [entryFrame, mkF, argsToLocals, Value.category]; done) | rfl
set_option maxRecDepth 65536 in
set_option maxHeartbeats 40000000 in
theorem rm25_1 (l : Launch) (Z : State) (a0 : Array Value) (hw : ∀ d ∈ tables_1, d.before a0 Z = true) (ws : List Jvm.Cond)  (h0 : Heap) (n0 : Nat) (Z0 : n0 ≤ h0.size)  :
    MetFree l (⟨"java/util/Arrays", "checkLength", "(II)V"⟩ : MethodName) (head1 (Jvm.Cond.code (⟨"java/util/Arrays", "checkLength", "(II)V"⟩ : MethodName) jdk_65_method_131_code 2 none :: ws) ({ frames := 0, cells := 0, slots := 0, locals := 0 } : Room)) (fun a U => a = #[(.int (0 : Int32)), (.int (4 : Int32))] ∧ Z.Warmed39 U.vm ∧ U.heap = h0) (fun _ _ _ _ _ => True) (fun _ U o U' => ∃ v L, o = .returned v ∧ QV h0 n0 v U'.heap L ∧ FrameEnd U o U' L ({ frames := 0, cells := 0, slots := 0, locals := 0 } : Room).cells ({ frames := 0, cells := 0, slots := 0, locals := 0 } : Room).slots) := by
  refine MetFree.of_bodySF (plainFor_of_name pn_25) hisR ?_
  intro p e s m args below meth c s₁ Bd hml0 hP hK
  obtain ⟨rfl, hZ, hh⟩ := hP
  have hx := Bd.exec
  have hby := Bd.bytes
  have hlk : meth.locks = false := BodyLoose.notSynchronized Bd
  have hml : c.maxLocals = 2 := hml0
  have hown : s.vm.findClass "java/util/Arrays" = some m.cls := findClass_of_methodNamed Bd.named
  have hnm := (name_of_methodNamed Bd.named Bd.method).1
  have X0 : Stand p l e ({ frames := 0, cells := 0, slots := 0, locals := 0 } : Room) s m #[(.int (0 : Int32)), (.int (4 : Int32))] below meth c s₁ [] 0 0 := Stand.of_body Bd
  have e0 : s₁.heap = h0 := by rw [← hh, Bd.state]; rfl
  have N0 := Fr.nil n0
  show OwnEnds p e below s (QV h0 n0) ({ frames := 0, cells := 0, slots := 0, locals := 0 } : Room).cells ({ frames := 0, cells := 0, slots := 0, locals := 0 } : Room).slots s₁ (entryFrame m #[(.int (0 : Int32)), (.int (4 : Int32))] 2)
  refine own_step (T' := s₁) (f' := (mkF m 0 #[.val (.int (0 : Int32)), .val (.int (4 : Int32))] [])) (fun t k => castTop (ef_rm25_1 m (0 : Int32) (4 : Int32)) k) ?_
  refine own_step (T' := s₁) (f' := (mkF m 1 #[.val (.int (0 : Int32)), .val (.int (4 : Int32))] [(.int (4 : Int32))])) (fun t k => XS.iloadN X0.here hx rfl (hb hby d25_0) rfl k) ?_
  refine own_step (T' := s₁) (f' := (mkF m 2 #[.val (.int (0 : Int32)), .val (.int (4 : Int32))] [(.int (0 : Int32)), (.int (4 : Int32))])) (fun t k => XS.iloadN X0.here hx rfl (hb hby d25_1) rfl k) ?_
  refine own_step (T' := s₁) (f' := (mkF m 37 #[.val (.int (0 : Int32)), .val (.int (4 : Int32))] [])) (fun t k => XS.icmpYes X0.here hx rfl (pc0 := 2) (pc' := 37) rfl (hb hby d25_2) rfl (flt (by decide : ¬ ((4 : Int32) < (0 : Int32)))).2.1 (by decide) (by decide) k) ?_
  exact own_retV X0 hx hlk Bd.returns (hb hby d25_37) (by decide) (by decide) ⟨rfl, N0, e0⟩

theorem d26_0 : decode jdk_29_method_69_code 0 = .ok (.iload_n 0, 1) := by decide +kernel
theorem d26_1 : decode jdk_29_method_69_code 1 = .ok (.iload_n 1, 1) := by decide +kernel
theorem d26_2 : decode jdk_29_method_69_code 2 = .ok (.if_icmp .gt 7, 3) := by decide +kernel
theorem d26_9 : decode jdk_29_method_69_code 9 = .ok (.iload_n 1, 1) := by decide +kernel
theorem d26_10 : decode jdk_29_method_69_code 10 = .ok (.ireturn, 1) := by decide +kernel
theorem ef_rm26_1 (m : MethodId) (x0 : Int32) (x1 : Int32) : entryFrame m #[(.int x0), (.int x1)] 2 = mkF m 0 #[.val (.int x0), .val (.int x1)] [] := by first | (simp [entryFrame, mkF, argsToLocals, Value.category]; done) | rfl
set_option maxRecDepth 65536 in
set_option maxHeartbeats 40000000 in
theorem rm26_1 (l : Launch) (Z : State) (a0 : Array Value) (hw : ∀ d ∈ tables_1, d.before a0 Z = true) (ws : List Jvm.Cond)  (h0 : Heap) (n0 : Nat) (Z0 : n0 ≤ h0.size)  :
    MetFree l (⟨"java/lang/Math", "min", "(II)I"⟩ : MethodName) (head1 (Jvm.Cond.code (⟨"java/lang/Math", "min", "(II)I"⟩ : MethodName) jdk_29_method_69_code 2 (some .int) :: ws) ({ frames := 0, cells := 0, slots := 0, locals := 0 } : Room)) (fun a U => a = #[(.int (16 : Int32)), (.int (4 : Int32))] ∧ Z.Warmed39 U.vm ∧ U.heap = h0) (fun _ _ _ _ _ => True) (fun _ U o U' => ∃ v L, o = .returned v ∧ QI 4 h0 n0 v U'.heap L ∧ FrameEnd U o U' L ({ frames := 0, cells := 0, slots := 0, locals := 0 } : Room).cells ({ frames := 0, cells := 0, slots := 0, locals := 0 } : Room).slots) := by
  refine MetFree.of_bodySF (Jvm.Free.JP.mathPlain rfl (by decide +kernel)) hisR ?_
  intro p e s m args below meth c s₁ Bd hml0 hP hK
  obtain ⟨rfl, hZ, hh⟩ := hP
  have hx := Bd.exec
  have hby := Bd.bytes
  have hlk : meth.locks = false := BodyLoose.notSynchronized Bd
  have hml : c.maxLocals = 2 := hml0
  have hown : s.vm.findClass "java/lang/Math" = some m.cls := findClass_of_methodNamed Bd.named
  have hnm := (name_of_methodNamed Bd.named Bd.method).1
  have X0 : Stand p l e ({ frames := 0, cells := 0, slots := 0, locals := 0 } : Room) s m #[(.int (16 : Int32)), (.int (4 : Int32))] below meth c s₁ [] 0 0 := Stand.of_body Bd
  have e0 : s₁.heap = h0 := by rw [← hh, Bd.state]; rfl
  have N0 := Fr.nil n0
  show OwnEnds p e below s (QI 4 h0 n0) ({ frames := 0, cells := 0, slots := 0, locals := 0 } : Room).cells ({ frames := 0, cells := 0, slots := 0, locals := 0 } : Room).slots s₁ (entryFrame m #[(.int (16 : Int32)), (.int (4 : Int32))] 2)
  refine own_step (T' := s₁) (f' := (mkF m 0 #[.val (.int (16 : Int32)), .val (.int (4 : Int32))] [])) (fun t k => castTop (ef_rm26_1 m (16 : Int32) (4 : Int32)) k) ?_
  refine own_step (T' := s₁) (f' := (mkF m 1 #[.val (.int (16 : Int32)), .val (.int (4 : Int32))] [(.int (16 : Int32))])) (fun t k => XS.iloadN X0.here hx rfl (hb hby d26_0) rfl k) ?_
  refine own_step (T' := s₁) (f' := (mkF m 2 #[.val (.int (16 : Int32)), .val (.int (4 : Int32))] [(.int (4 : Int32)), (.int (16 : Int32))])) (fun t k => XS.iloadN X0.here hx rfl (hb hby d26_1) rfl k) ?_
  refine own_step (T' := s₁) (f' := (mkF m 9 #[.val (.int (16 : Int32)), .val (.int (4 : Int32))] [])) (fun t k => XS.icmpYes X0.here hx rfl (pc0 := 2) (pc' := 9) rfl (hb hby d26_2) rfl (tlt (by decide : (4 : Int32) < (16 : Int32))).2.2.1 (by decide) (by decide) k) ?_
  refine own_step (T' := s₁) (f' := (mkF m 10 #[.val (.int (16 : Int32)), .val (.int (4 : Int32))] [(.int (4 : Int32))])) (fun t k => XS.iloadN X0.here hx rfl (hb hby d26_9) rfl k) ?_
  exact own_retO X0 hx hlk Bd.returns rfl (Or.inl ⟨rfl, Or.inl rfl, _, rfl⟩) (hb hby d26_10) (by decide) (by decide) ⟨rfl, N0, e0⟩

def Q24_1 (Z : State) (h0 : Heap) (n0 : Nat) (v : Option Value) (h : Heap) (L : List Loc) : Prop := ∃ (b : Addr) (k : ClassId), v = some (.ref b) ∧ Fr n0 L ∧ Keep h0 h [] ∧ h0.size ≤ b ∧ Arv Z h b k .byte (4 : Int32) [(.int (116 : Int32)), (.int (114 : Int32)), (.int (117 : Int32)), (.int (101 : Int32))] (.int (0 : Int32))
theorem d24_0 : decode jdk_65_method_133_code 0 = .ok (.iload_n 1, 1) := by decide +kernel
theorem d24_1 : decode jdk_65_method_133_code 1 = .ok (.iload_n 2, 1) := by decide +kernel
theorem d24_2 : decode jdk_65_method_133_code 2 = .ok (.invokestatic 343, 3) := by decide +kernel
theorem d24_5 : decode jdk_65_method_133_code 5 = .ok (.iload_n 2, 1) := by decide +kernel
theorem d24_6 : decode jdk_65_method_133_code 6 = .ok (.iload_n 1, 1) := by decide +kernel
theorem d24_7 : decode jdk_65_method_133_code 7 = .ok (.isub, 1) := by decide +kernel
theorem d24_8 : decode jdk_65_method_133_code 8 = .ok (.istore_n 3, 1) := by decide +kernel
theorem d24_9 : decode jdk_65_method_133_code 9 = .ok (.iload_n 3, 1) := by decide +kernel
theorem d24_10 : decode jdk_65_method_133_code 10 = .ok (.newarray .byte, 2) := by decide +kernel
theorem d24_12 : decode jdk_65_method_133_code 12 = .ok (.astore 4, 2) := by decide +kernel
theorem d24_14 : decode jdk_65_method_133_code 14 = .ok (.aload_n 0, 1) := by decide +kernel
theorem d24_15 : decode jdk_65_method_133_code 15 = .ok (.iload_n 1, 1) := by decide +kernel
theorem d24_16 : decode jdk_65_method_133_code 16 = .ok (.aload 4, 2) := by decide +kernel
theorem d24_18 : decode jdk_65_method_133_code 18 = .ok (.iconst 0, 1) := by decide +kernel
theorem d24_19 : decode jdk_65_method_133_code 19 = .ok (.aload_n 0, 1) := by decide +kernel
theorem d24_20 : decode jdk_65_method_133_code 20 = .ok (.arraylength, 1) := by decide +kernel
theorem d24_21 : decode jdk_65_method_133_code 21 = .ok (.iload_n 1, 1) := by decide +kernel
theorem d24_22 : decode jdk_65_method_133_code 22 = .ok (.isub, 1) := by decide +kernel
theorem d24_23 : decode jdk_65_method_133_code 23 = .ok (.iload_n 3, 1) := by decide +kernel
theorem d24_24 : decode jdk_65_method_133_code 24 = .ok (.invokestatic 304, 3) := by decide +kernel
theorem d24_27 : decode jdk_65_method_133_code 27 = .ok (.invokestatic 150, 3) := by decide +kernel
theorem d24_30 : decode jdk_65_method_133_code 30 = .ok (.aload 4, 2) := by decide +kernel
theorem d24_32 : decode jdk_65_method_133_code 32 = .ok (.areturn, 1) := by decide +kernel
theorem pn_24 : plainName "java/util/Arrays" = true := by first | (simp [plainName, overriddenIn]; done) | decide +kernel
theorem pd_24_0 : parseMethodDescriptor "(II)V" = some ⟨[.int, .int], none⟩ := by decide +kernel
theorem pd_24_1 : parseMethodDescriptor "(II)I" = some ⟨[.int, .int], some .int⟩ := by decide +kernel
theorem ef_rm24_1 (m : MethodId) (x0 : Addr) (x1 : Int32) (x2 : Int32) : entryFrame m #[(.ref x0), (.int x1), (.int x2)] 5 = mkF m 0 #[.val (.ref x0), .val (.int x1), .val (.int x2), .unset, .unset] [] := by first | (simp [entryFrame, mkF, argsToLocals, Value.category]; done) | rfl
set_option maxRecDepth 65536 in
set_option maxHeartbeats 40000000 in
theorem rm24_1 (l : Launch) (Z : State) (a0 : Array Value) (hw : ∀ d ∈ tables_1, d.before a0 Z = true) (ws : List Jvm.Cond) (a1 : Addr) (h0 : Heap) (n0 : Nat) (Z0 : n0 ≤ h0.size) (ka : ClassId) (V_a1 : Arv Z h0 a1 ka .byte (16 : Int32) [(.int (116 : Int32)), (.int (114 : Int32)), (.int (117 : Int32)), (.int (101 : Int32)), (.int (0 : Int32)), (.int (0 : Int32)), (.int (0 : Int32)), (.int (0 : Int32)), (.int (0 : Int32)), (.int (0 : Int32)), (.int (0 : Int32)), (.int (0 : Int32)), (.int (0 : Int32)), (.int (0 : Int32)), (.int (0 : Int32)), (.int (0 : Int32))] (.int (0 : Int32))) :
    MetFree l (⟨"java/util/Arrays", "copyOfRangeByte", "([BII)[B"⟩ : MethodName) (head1 (Jvm.Cond.code (⟨"java/util/Arrays", "copyOfRangeByte", "([BII)[B"⟩ : MethodName) jdk_65_method_133_code 5 (some (.array .byte)) :: ws) ({ frames := 1, cells := 1, slots := 4, locals := 40 } : Room)) (fun a U => a = #[(.ref a1), (.int (0 : Int32)), (.int (4 : Int32))] ∧ Z.Warmed39 U.vm ∧ U.heap = h0) (fun _ _ _ _ _ => True) (fun _ U o U' => ∃ v L, o = .returned v ∧ Q24_1 Z h0 n0 v U'.heap L ∧ FrameEnd U o U' L ({ frames := 1, cells := 1, slots := 4, locals := 40 } : Room).cells ({ frames := 1, cells := 1, slots := 4, locals := 40 } : Room).slots) := by
  refine MetFree.of_bodySF (plainFor_of_name pn_24) hisR ?_
  intro p e s m args below meth c s₁ Bd hml0 hP hK
  obtain ⟨rfl, hZ, hh⟩ := hP
  have hx := Bd.exec
  have hby := Bd.bytes
  have hlk : meth.locks = false := BodyLoose.notSynchronized Bd
  have hml : c.maxLocals = 5 := hml0
  have hown : s.vm.findClass "java/util/Arrays" = some m.cls := findClass_of_methodNamed Bd.named
  have hnm := (name_of_methodNamed Bd.named Bd.method).1
  have X0 : Stand p l e ({ frames := 1, cells := 1, slots := 4, locals := 40 } : Room) s m #[(.ref a1), (.int (0 : Int32)), (.int (4 : Int32))] below meth c s₁ [] 0 0 := Stand.of_body Bd
  have e0 : s₁.heap = h0 := by rw [← hh, Bd.state]; rfl
  have N0 := Fr.nil n0
  have Zz := Z0
  have Kp : Keep h0 h0 [] := Keep.refl _ _
  show OwnEnds p e below s (Q24_1 Z h0 n0) ({ frames := 1, cells := 1, slots := 4, locals := 40 } : Room).cells ({ frames := 1, cells := 1, slots := 4, locals := 40 } : Room).slots s₁ (entryFrame m #[(.ref a1), (.int (0 : Int32)), (.int (4 : Int32))] 5)
  refine own_step (T' := s₁) (f' := (mkF m 0 #[.val (.ref a1), .val (.int (0 : Int32)), .val (.int (4 : Int32)), .unset, .unset] [])) (fun t k => castTop (ef_rm24_1 m a1 (0 : Int32) (4 : Int32)) k) ?_
  refine own_step (T' := s₁) (f' := (mkF m 1 #[.val (.ref a1), .val (.int (0 : Int32)), .val (.int (4 : Int32)), .unset, .unset] [(.int (0 : Int32))])) (fun t k => XS.iloadN X0.here hx rfl (hb hby d24_0) rfl k) ?_
  refine own_step (T' := s₁) (f' := (mkF m 2 #[.val (.ref a1), .val (.int (0 : Int32)), .val (.int (4 : Int32)), .unset, .unset] [(.int (4 : Int32)), (.int (0 : Int32))])) (fun t k => XS.iloadN X0.here hx rfl (hb hby d24_1) rfl k) ?_
  obtain ⟨_, _, ⟨T1, L1, k1, n1⟩, -, X1, ⟨Lc1, hQ1, l1, y1, z1⟩, st1⟩ := Jvm.LawKit.callS X0 hx (y := (⟨"java/util/Arrays", "checkLength", "(II)V"⟩ : MethodName)) hown (mvT hZ (hw _ (List.mem_of_getElem? (i := 153) rfl))) (mvT hZ (hw _ (List.mem_of_getElem? (i := 154) rfl))) (mvT hZ (hw _ (List.mem_of_getElem? (i := 148) rfl))) (mvT hZ (hw _ (List.mem_of_getElem? (i := 155) rfl))) (by decide) (backOf (W := 0) (rm25_1 l Z a0 hw [] h0 n0 Zz) hZ (hw _ (List.mem_of_getElem? (i := 155) rfl)) (hw _ (List.mem_of_getElem? (i := 148) rfl)) (by decide) (by decide)) (g := (mkF m 2 #[.val (.ref a1), .val (.int (0 : Int32)), .val (.int (4 : Int32)), .unset, .unset] [(.int (4 : Int32)), (.int (0 : Int32))])) rfl (by rw [hml]; rfl) (argsL := [(.int (0 : Int32)), (.int (4 : Int32))]) (rest := []) (lenOf pd_24_0 rfl) rfl (by show 2 * 0 + _ ≤ _; exact Nat.le_of_eq rfl) (hb hby d24_2) (fun _ _ => ⟨rfl, e0, (by decide : 0 + 0 ≤ _), (by decide : 0 + 0 ≤ _)⟩)
  dsimp only [Pt.U, Pt.locs, Pt.cells, Pt.slots] at X1 l1 y1 z1 st1 hQ1
  subst l1 y1 z1
  obtain ⟨rfl, N1q, E1⟩ := hQ1
  have N1 := Fr.app N0 N1q
  refine own_step (T' := T1) (f' := (mkF m 5 #[.val (.ref a1), .val (.int (0 : Int32)), .val (.int (4 : Int32)), .unset, .unset] [])) (fun t k => st1 t k) ?_
  refine own_step (T' := T1) (f' := (mkF m 6 #[.val (.ref a1), .val (.int (0 : Int32)), .val (.int (4 : Int32)), .unset, .unset] [(.int (4 : Int32))])) (fun t k => XS.iloadN X1.here hx rfl (hb hby d24_5) rfl k) ?_
  refine own_step (T' := T1) (f' := (mkF m 7 #[.val (.ref a1), .val (.int (0 : Int32)), .val (.int (4 : Int32)), .unset, .unset] [(.int (0 : Int32)), (.int (4 : Int32))])) (fun t k => XS.iloadN X1.here hx rfl (hb hby d24_6) rfl k) ?_
  refine own_step (T' := T1) (f' := (mkF m 8 #[.val (.ref a1), .val (.int (0 : Int32)), .val (.int (4 : Int32)), .unset, .unset] [(.int (4 : Int32))])) (fun t k => XS.isub X1.here hx rfl (hb hby d24_7) rfl k) ?_
  refine own_step (T' := T1) (f' := (mkF m 9 #[.val (.ref a1), .val (.int (0 : Int32)), .val (.int (4 : Int32)), .val (.int (4 : Int32)), .unset] [])) (fun t k => XS.istoreN X1.here hx rfl (hb hby d24_8) rfl (l' := #[.val (.ref a1), .val (.int (0 : Int32)), .val (.int (4 : Int32)), .val (.int (4 : Int32)), .unset]) rfl k) ?_
  refine own_step (T' := T1) (f' := (mkF m 10 #[.val (.ref a1), .val (.int (0 : Int32)), .val (.int (4 : Int32)), .val (.int (4 : Int32)), .unset] [(.int (4 : Int32))])) (fun t k => XS.iloadN X1.here hx rfl (hb hby d24_9) rfl k) ?_
  obtain ⟨T2, h2, k2, X2, e2, E2, A2, EX2, st2⟩ := newPE X1 hx hZ (hw _ (List.mem_of_getElem? (i := 83) rfl)) E1 (g := (mkF m 10 #[.val (.ref a1), .val (.int (0 : Int32)), .val (.int (4 : Int32)), .val (.int (4 : Int32)), .unset] [(.int (4 : Int32))])) rfl (hb hby d24_10) rfl (by decide) (cap := 4) (by decide) (by decide) (by decide) (by decide) (ad := "[B") rfl
  obtain ⟨b2, g2⟩ : ∃ z, z = h0.size := ⟨_, rfl⟩
  rw [← g2] at A2 EX2 st2
  have ne_a1_b2 : a1 ≠ b2 := Nat.ne_of_lt (Nat.lt_of_lt_of_le V_a1.lt (Nat.le_of_eq g2.symm))
  have g_b2 : n0 ≤ b2 := Nat.le_trans Zz (Nat.le_of_eq g2.symm)
  have sz_b2 : h0.size ≤ b2 := Nat.le_trans Kp.1 (Nat.le_of_eq g2.symm)
  replace V_a1 := V_a1.ext E2
  replace Zz := Nat.le_trans Zz E2.1
  replace Kp := Kp.ext E2
  have V_b2 : Arv Z h2 b2 k2 .byte (4 : Int32) [(.int (0 : Int32)), (.int (0 : Int32)), (.int (0 : Int32)), (.int (0 : Int32))] (.int (0 : Int32)) := (Arv.new A2 (by decide)).pad (pad_rep [] (.int (0 : Int32)) 4)
  have EX_b2 := EX2
  refine own_step (T' := T2) (f' := (mkF m 12 #[.val (.ref a1), .val (.int (0 : Int32)), .val (.int (4 : Int32)), .val (.int (4 : Int32)), .unset] [(.ref b2)])) (fun t k => st2 t k) ?_
  refine own_step (T' := T2) (f' := (mkF m 14 #[.val (.ref a1), .val (.int (0 : Int32)), .val (.int (4 : Int32)), .val (.int (4 : Int32)), .val (.ref b2)] [])) (fun t k => XS.astore X2.here hx rfl (hb hby d24_12) rfl rfl (l' := #[.val (.ref a1), .val (.int (0 : Int32)), .val (.int (4 : Int32)), .val (.int (4 : Int32)), .val (.ref b2)]) rfl k) ?_
  refine own_step (T' := T2) (f' := (mkF m 15 #[.val (.ref a1), .val (.int (0 : Int32)), .val (.int (4 : Int32)), .val (.int (4 : Int32)), .val (.ref b2)] [(.ref a1)])) (fun t k => XS.aloadN X2.here hx rfl (hb hby d24_14) rfl rfl k) ?_
  refine own_step (T' := T2) (f' := (mkF m 16 #[.val (.ref a1), .val (.int (0 : Int32)), .val (.int (4 : Int32)), .val (.int (4 : Int32)), .val (.ref b2)] [(.int (0 : Int32)), (.ref a1)])) (fun t k => XS.iloadN X2.here hx rfl (hb hby d24_15) rfl k) ?_
  refine own_step (T' := T2) (f' := (mkF m 18 #[.val (.ref a1), .val (.int (0 : Int32)), .val (.int (4 : Int32)), .val (.int (4 : Int32)), .val (.ref b2)] [(.ref b2), (.int (0 : Int32)), (.ref a1)])) (fun t k => XS.aload X2.here hx rfl (hb hby d24_16) rfl rfl k) ?_
  refine own_step (T' := T2) (f' := (mkF m 19 #[.val (.ref a1), .val (.int (0 : Int32)), .val (.int (4 : Int32)), .val (.int (4 : Int32)), .val (.ref b2)] [(.int (0 : Int32)), (.ref b2), (.int (0 : Int32)), (.ref a1)])) (fun t k => XS.iconst X2.here hx rfl (hb hby d24_18) k) ?_
  refine own_step (T' := T2) (f' := (mkF m 20 #[.val (.ref a1), .val (.int (0 : Int32)), .val (.int (4 : Int32)), .val (.int (4 : Int32)), .val (.ref b2)] [(.ref a1), (.int (0 : Int32)), (.ref b2), (.int (0 : Int32)), (.ref a1)])) (fun t k => XS.aloadN X2.here hx rfl (hb hby d24_19) rfl rfl k) ?_
  obtain ⟨cl3, Ar3, q3, S3, M3, H3, G3⟩ := id V_a1
  refine own_step (T' := T2) (f' := (mkF m 21 #[.val (.ref a1), .val (.int (0 : Int32)), .val (.int (4 : Int32)), .val (.int (4 : Int32)), .val (.ref b2)] [(.int (16 : Int32)), (.int (0 : Int32)), (.ref b2), (.int (0 : Int32)), (.ref a1)])) (fun t k => X2.arraylength hx (by rw [e2]; exact Ar3.1) (State.isArrayOf_alike hZ.alike Ar3.2.1) (g := (mkF m 20 #[.val (.ref a1), .val (.int (0 : Int32)), .val (.int (4 : Int32)), .val (.int (4 : Int32)), .val (.ref b2)] [(.ref a1), (.int (0 : Int32)), (.ref b2), (.int (0 : Int32)), (.ref a1)])) rfl rfl (hb hby d24_20) _ (by rw [len_of S3 M3]; exact k)) ?_
  refine own_step (T' := T2) (f' := (mkF m 22 #[.val (.ref a1), .val (.int (0 : Int32)), .val (.int (4 : Int32)), .val (.int (4 : Int32)), .val (.ref b2)] [(.int (0 : Int32)), (.int (16 : Int32)), (.int (0 : Int32)), (.ref b2), (.int (0 : Int32)), (.ref a1)])) (fun t k => XS.iloadN X2.here hx rfl (hb hby d24_21) rfl k) ?_
  refine own_step (T' := T2) (f' := (mkF m 23 #[.val (.ref a1), .val (.int (0 : Int32)), .val (.int (4 : Int32)), .val (.int (4 : Int32)), .val (.ref b2)] [(.int (16 : Int32)), (.int (0 : Int32)), (.ref b2), (.int (0 : Int32)), (.ref a1)])) (fun t k => XS.isub X2.here hx rfl (hb hby d24_22) rfl k) ?_
  refine own_step (T' := T2) (f' := (mkF m 24 #[.val (.ref a1), .val (.int (0 : Int32)), .val (.int (4 : Int32)), .val (.int (4 : Int32)), .val (.ref b2)] [(.int (4 : Int32)), (.int (16 : Int32)), (.int (0 : Int32)), (.ref b2), (.int (0 : Int32)), (.ref a1)])) (fun t k => XS.iloadN X2.here hx rfl (hb hby d24_23) rfl k) ?_
  obtain ⟨_, _, ⟨T4, L4, k4, n4⟩, -, X4, ⟨Lc4, hQ4, l4, y4, z4⟩, st4⟩ := Jvm.LawKit.callS X2 hx (y := (⟨"java/lang/Math", "min", "(II)I"⟩ : MethodName)) hown (mvT hZ (hw _ (List.mem_of_getElem? (i := 156) rfl))) (mvT hZ (hw _ (List.mem_of_getElem? (i := 157) rfl))) (mvT hZ (hw _ (List.mem_of_getElem? (i := 158) rfl))) (mvT hZ (hw _ (List.mem_of_getElem? (i := 159) rfl))) (by decide) (backOf (W := 4) (rm26_1 l Z a0 hw [] h2 n0 Zz) hZ (hw _ (List.mem_of_getElem? (i := 159) rfl)) (hw _ (List.mem_of_getElem? (i := 158) rfl)) (by decide) (by decide)) (g := (mkF m 24 #[.val (.ref a1), .val (.int (0 : Int32)), .val (.int (4 : Int32)), .val (.int (4 : Int32)), .val (.ref b2)] [(.int (4 : Int32)), (.int (16 : Int32)), (.int (0 : Int32)), (.ref b2), (.int (0 : Int32)), (.ref a1)])) rfl (by rw [hml]; rfl) (argsL := [(.int (16 : Int32)), (.int (4 : Int32))]) (rest := [(.int (0 : Int32)), (.ref b2), (.int (0 : Int32)), (.ref a1)]) (lenOf pd_24_1 rfl) rfl (by show 2 * 0 + _ ≤ _; exact Nat.le_of_eq rfl) (hb hby d24_24) (fun _ _ => ⟨rfl, e2, (by decide : 1 + 0 ≤ _), (by decide : 4 + 0 ≤ _)⟩)
  dsimp only [Pt.U, Pt.locs, Pt.cells, Pt.slots] at X4 l4 y4 z4 st4 hQ4
  subst l4 y4 z4
  obtain ⟨rfl, N4q, E4⟩ := hQ4
  have N4 := Fr.app N1 N4q
  refine own_step (T' := T4) (f' := (mkF m 27 #[.val (.ref a1), .val (.int (0 : Int32)), .val (.int (4 : Int32)), .val (.int (4 : Int32)), .val (.ref b2)] [(.int (4 : Int32)), (.int (0 : Int32)), (.ref b2), (.int (0 : Int32)), (.ref a1)])) (fun t k => st4 t k) ?_
  obtain ⟨T5, h5, Lc5, X5, e5, Nf5, K5, Vc5, st5⟩ := cpA X4 hx hZ hown (hw _ (List.mem_of_getElem? (i := 160) rfl)) (hw _ (List.mem_of_getElem? (i := 163) rfl)) (hw _ (List.mem_of_getElem? (i := 161) rfl)) (hw _ (List.mem_of_getElem? (i := 162) rfl)) E4 V_a1 V_b2 (us := [(.int (116 : Int32)), (.int (114 : Int32)), (.int (117 : Int32)), (.int (101 : Int32))]) (Or.inl ⟨rfl, rfl⟩) (by decide) (by decide) (by decide) (by decide) (by decide) rfl (by decide) N4 g_b2 (g := (mkF m 27 #[.val (.ref a1), .val (.int (0 : Int32)), .val (.int (4 : Int32)), .val (.int (4 : Int32)), .val (.ref b2)] [(.int (4 : Int32)), (.int (0 : Int32)), (.ref b2), (.int (0 : Int32)), (.ref a1)])) rfl (by rw [hml]; rfl) rfl (hb hby d24_27) (by decide) (W := 0) (by show 2 * 0 + _ ≤ _; exact Nat.le_of_eq rfl) (by decide)
  replace V_a1 := V_a1.keep K5 (ninS ne_a1_b2 nin0)
  replace EX_b2 := EX_b2.keep K5
  replace Zz := Nat.le_trans Zz K5.1
  replace Kp := Kp.trans K5 (allS (Or.inr sz_b2) all0)
  have V_b2 : Arv Z h5 b2 k2 .byte (4 : Int32) [(.int (116 : Int32)), (.int (114 : Int32)), (.int (117 : Int32)), (.int (101 : Int32))] (.int (0 : Int32)) := Vc5
  refine own_step (T' := T5) (f' := (mkF m 30 #[.val (.ref a1), .val (.int (0 : Int32)), .val (.int (4 : Int32)), .val (.int (4 : Int32)), .val (.ref b2)] [])) (fun t k => st5 t k) ?_
  refine own_step (T' := T5) (f' := (mkF m 32 #[.val (.ref a1), .val (.int (0 : Int32)), .val (.int (4 : Int32)), .val (.int (4 : Int32)), .val (.ref b2)] [(.ref b2)])) (fun t k => XS.aload X5.here hx rfl (hb hby d24_30) rfl rfl k) ?_
  exact own_retO X5 hx hlk Bd.returns rfl (Or.inr (Or.inr (Or.inr (Or.inr ⟨rfl, rfl, rfl⟩)))) (hb hby d24_32) (by decide) (by decide) (by rw [e5]; exact ⟨b2, k2, rfl, Nf5, Kp, sz_b2, V_b2⟩)

theorem d23_0 : decode jdk_65_method_132_code 0 = .ok (.iload_n 1, 1) := by decide +kernel
theorem d23_1 : decode jdk_65_method_132_code 1 = .ok (.ifCond .ne 9, 3) := by decide +kernel
theorem d23_4 : decode jdk_65_method_132_code 4 = .ok (.iload_n 2, 1) := by decide +kernel
theorem d23_5 : decode jdk_65_method_132_code 5 = .ok (.aload_n 0, 1) := by decide +kernel
theorem d23_6 : decode jdk_65_method_132_code 6 = .ok (.arraylength, 1) := by decide +kernel
theorem d23_7 : decode jdk_65_method_132_code 7 = .ok (.if_icmp .eq 10, 3) := by decide +kernel
theorem d23_10 : decode jdk_65_method_132_code 10 = .ok (.aload_n 0, 1) := by decide +kernel
theorem d23_11 : decode jdk_65_method_132_code 11 = .ok (.iload_n 1, 1) := by decide +kernel
theorem d23_12 : decode jdk_65_method_132_code 12 = .ok (.iload_n 2, 1) := by decide +kernel
theorem d23_13 : decode jdk_65_method_132_code 13 = .ok (.invokestatic 339, 3) := by decide +kernel
theorem d23_16 : decode jdk_65_method_132_code 16 = .ok (.areturn, 1) := by decide +kernel
theorem pn_23 : plainName "java/util/Arrays" = true := by first | (simp [plainName, overriddenIn]; done) | decide +kernel
theorem pd_23_0 : parseMethodDescriptor "([BII)[B" = some ⟨[(.array .byte), .int, .int], some (.array .byte)⟩ := by decide +kernel
theorem ef_rm23_1 (m : MethodId) (x0 : Addr) (x1 : Int32) (x2 : Int32) : entryFrame m #[(.ref x0), (.int x1), (.int x2)] 3 = mkF m 0 #[.val (.ref x0), .val (.int x1), .val (.int x2)] [] := by first | (simp [entryFrame, mkF, argsToLocals, Value.category]; done) | rfl
set_option maxRecDepth 65536 in
set_option maxHeartbeats 40000000 in
theorem rm23_1 (l : Launch) (Z : State) (a0 : Array Value) (hw : ∀ d ∈ tables_1, d.before a0 Z = true) (ws : List Jvm.Cond) (a1 : Addr) (h0 : Heap) (n0 : Nat) (Z0 : n0 ≤ h0.size) (ka : ClassId) (V_a1 : Arv Z h0 a1 ka .byte (16 : Int32) [(.int (116 : Int32)), (.int (114 : Int32)), (.int (117 : Int32)), (.int (101 : Int32)), (.int (0 : Int32)), (.int (0 : Int32)), (.int (0 : Int32)), (.int (0 : Int32)), (.int (0 : Int32)), (.int (0 : Int32)), (.int (0 : Int32)), (.int (0 : Int32)), (.int (0 : Int32)), (.int (0 : Int32)), (.int (0 : Int32)), (.int (0 : Int32))] (.int (0 : Int32))) :
    MetFree l (⟨"java/util/Arrays", "copyOfRange", "([BII)[B"⟩ : MethodName) (head1 (Jvm.Cond.code (⟨"java/util/Arrays", "copyOfRange", "([BII)[B"⟩ : MethodName) jdk_65_method_132_code 3 (some (.array .byte)) :: ws) ({ frames := 2, cells := 1, slots := 4, locals := 56 } : Room)) (fun a U => a = #[(.ref a1), (.int (0 : Int32)), (.int (4 : Int32))] ∧ Z.Warmed39 U.vm ∧ U.heap = h0) (fun _ _ _ _ _ => True) (fun _ U o U' => ∃ v L, o = .returned v ∧ Q24_1 Z h0 n0 v U'.heap L ∧ FrameEnd U o U' L ({ frames := 2, cells := 1, slots := 4, locals := 56 } : Room).cells ({ frames := 2, cells := 1, slots := 4, locals := 56 } : Room).slots) := by
  refine MetFree.of_bodySF (plainFor_of_name pn_23) hisR ?_
  intro p e s m args below meth c s₁ Bd hml0 hP hK
  obtain ⟨rfl, hZ, hh⟩ := hP
  have hx := Bd.exec
  have hby := Bd.bytes
  have hlk : meth.locks = false := BodyLoose.notSynchronized Bd
  have hml : c.maxLocals = 3 := hml0
  have hown : s.vm.findClass "java/util/Arrays" = some m.cls := findClass_of_methodNamed Bd.named
  have hnm := (name_of_methodNamed Bd.named Bd.method).1
  have X0 : Stand p l e ({ frames := 2, cells := 1, slots := 4, locals := 56 } : Room) s m #[(.ref a1), (.int (0 : Int32)), (.int (4 : Int32))] below meth c s₁ [] 0 0 := Stand.of_body Bd
  have e0 : s₁.heap = h0 := by rw [← hh, Bd.state]; rfl
  have N0 := Fr.nil n0
  have Zz := Z0
  have Kp : Keep h0 h0 [] := Keep.refl _ _
  show OwnEnds p e below s (Q24_1 Z h0 n0) ({ frames := 2, cells := 1, slots := 4, locals := 56 } : Room).cells ({ frames := 2, cells := 1, slots := 4, locals := 56 } : Room).slots s₁ (entryFrame m #[(.ref a1), (.int (0 : Int32)), (.int (4 : Int32))] 3)
  refine own_step (T' := s₁) (f' := (mkF m 0 #[.val (.ref a1), .val (.int (0 : Int32)), .val (.int (4 : Int32))] [])) (fun t k => castTop (ef_rm23_1 m a1 (0 : Int32) (4 : Int32)) k) ?_
  refine own_step (T' := s₁) (f' := (mkF m 1 #[.val (.ref a1), .val (.int (0 : Int32)), .val (.int (4 : Int32))] [(.int (0 : Int32))])) (fun t k => XS.iloadN X0.here hx rfl (hb hby d23_0) rfl k) ?_
  refine own_step (T' := s₁) (f' := (mkF m 4 #[.val (.ref a1), .val (.int (0 : Int32)), .val (.int (4 : Int32))] [])) (fun t k => XS.ifNo X0.here hx rfl (hb hby d23_1) rfl ((if0 _ _).trans (teq (by decide : (0 : Int32) = (0 : Int32))).2) k) ?_
  refine own_step (T' := s₁) (f' := (mkF m 5 #[.val (.ref a1), .val (.int (0 : Int32)), .val (.int (4 : Int32))] [(.int (4 : Int32))])) (fun t k => XS.iloadN X0.here hx rfl (hb hby d23_4) rfl k) ?_
  refine own_step (T' := s₁) (f' := (mkF m 6 #[.val (.ref a1), .val (.int (0 : Int32)), .val (.int (4 : Int32))] [(.ref a1), (.int (4 : Int32))])) (fun t k => XS.aloadN X0.here hx rfl (hb hby d23_5) rfl rfl k) ?_
  obtain ⟨cl1, Ar1, q1, S1, M1, H1, G1⟩ := id V_a1
  refine own_step (T' := s₁) (f' := (mkF m 7 #[.val (.ref a1), .val (.int (0 : Int32)), .val (.int (4 : Int32))] [(.int (16 : Int32)), (.int (4 : Int32))])) (fun t k => X0.arraylength hx (by rw [e0]; exact Ar1.1) (State.isArrayOf_alike hZ.alike Ar1.2.1) (g := (mkF m 6 #[.val (.ref a1), .val (.int (0 : Int32)), .val (.int (4 : Int32))] [(.ref a1), (.int (4 : Int32))])) rfl rfl (hb hby d23_6) _ (by rw [len_of S1 M1]; exact k)) ?_
  refine own_step (T' := s₁) (f' := (mkF m 10 #[.val (.ref a1), .val (.int (0 : Int32)), .val (.int (4 : Int32))] [])) (fun t k => XS.icmpNo X0.here hx rfl (hb hby d23_7) rfl (feq (by decide : ¬ ((4 : Int32) = (16 : Int32)))).1 k) ?_
  refine own_step (T' := s₁) (f' := (mkF m 11 #[.val (.ref a1), .val (.int (0 : Int32)), .val (.int (4 : Int32))] [(.ref a1)])) (fun t k => XS.aloadN X0.here hx rfl (hb hby d23_10) rfl rfl k) ?_
  refine own_step (T' := s₁) (f' := (mkF m 12 #[.val (.ref a1), .val (.int (0 : Int32)), .val (.int (4 : Int32))] [(.int (0 : Int32)), (.ref a1)])) (fun t k => XS.iloadN X0.here hx rfl (hb hby d23_11) rfl k) ?_
  refine own_step (T' := s₁) (f' := (mkF m 13 #[.val (.ref a1), .val (.int (0 : Int32)), .val (.int (4 : Int32))] [(.int (4 : Int32)), (.int (0 : Int32)), (.ref a1)])) (fun t k => XS.iloadN X0.here hx rfl (hb hby d23_12) rfl k) ?_
  obtain ⟨_, _, ⟨T2, L2, k2, n2⟩, -, X2, ⟨Lc2, hQ2, l2, y2, z2⟩, st2⟩ := Jvm.LawKit.callS X0 hx (y := (⟨"java/util/Arrays", "copyOfRangeByte", "([BII)[B"⟩ : MethodName)) hown (mvT hZ (hw _ (List.mem_of_getElem? (i := 150) rfl))) (mvT hZ (hw _ (List.mem_of_getElem? (i := 151) rfl))) (mvT hZ (hw _ (List.mem_of_getElem? (i := 148) rfl))) (mvT hZ (hw _ (List.mem_of_getElem? (i := 152) rfl))) (by decide) (backOf (W := 0) (rm24_1 l Z a0 hw [] a1 h0 n0 Zz ka V_a1) hZ (hw _ (List.mem_of_getElem? (i := 152) rfl)) (hw _ (List.mem_of_getElem? (i := 148) rfl)) (by decide) (by decide)) (g := (mkF m 13 #[.val (.ref a1), .val (.int (0 : Int32)), .val (.int (4 : Int32))] [(.int (4 : Int32)), (.int (0 : Int32)), (.ref a1)])) rfl (by rw [hml]; rfl) (argsL := [(.ref a1), (.int (0 : Int32)), (.int (4 : Int32))]) (rest := []) (lenOf pd_23_0 rfl) rfl (by show 2 * 0 + _ ≤ _; exact Nat.le_of_eq rfl) (hb hby d23_13) (fun _ _ => ⟨rfl, e0, (by decide : 0 + 1 ≤ _), (by decide : 0 + 4 ≤ _)⟩)
  dsimp only [Pt.U, Pt.locs, Pt.cells, Pt.slots] at X2 l2 y2 z2 st2 hQ2
  subst l2 y2 z2
  obtain ⟨rb2, rk2, rfl, N2q, K2, zz2, Vr2⟩ := hQ2
  have N2 := Fr.app N0 N2q
  refine own_step (T' := T2) (f' := (mkF m 16 #[.val (.ref a1), .val (.int (0 : Int32)), .val (.int (4 : Int32))] [(.ref rb2)])) (fun t k => st2 t k) ?_
  exact own_retO X2 hx hlk Bd.returns rfl (Or.inr (Or.inr (Or.inr (Or.inr ⟨rfl, rfl, rfl⟩)))) (hb hby d23_16) (by decide) (by decide) ⟨rb2, rk2, rfl, N2, K2, zz2, Vr2⟩

def Q19_1 (Z : State) (a1 : Addr) (h0 : Heap) (n0 : Nat) (v : Option Value) (h : Heap) (L : List Loc) : Prop := v = none ∧ Fr n0 L ∧ Keep h0 h [a1] ∧ ∃ (b : Addr) (k : ClassId), OwnStr Z h a1 b k 4 [(.int (116 : Int32)), (.int (114 : Int32)), (.int (117 : Int32)), (.int (101 : Int32))]
theorem d19_0 : decode jdk_42_method_150_code 0 = .ok (.aload_n 0, 1) := by decide +kernel
theorem d19_1 : decode jdk_42_method_150_code 1 = .ok (.invokespecial 1, 3) := by decide +kernel
theorem d19_4 : decode jdk_42_method_150_code 4 = .ok (.aload_n 1, 1) := by decide +kernel
theorem d19_5 : decode jdk_42_method_150_code 5 = .ok (.invokevirtual 552, 3) := by decide +kernel
theorem d19_8 : decode jdk_42_method_150_code 8 = .ok (.astore_n 3, 1) := by decide +kernel
theorem d19_9 : decode jdk_42_method_150_code 9 = .ok (.aload_n 1, 1) := by decide +kernel
theorem d19_10 : decode jdk_42_method_150_code 10 = .ok (.invokevirtual 549, 3) := by decide +kernel
theorem d19_13 : decode jdk_42_method_150_code 13 = .ok (.istore 4, 2) := by decide +kernel
theorem d19_15 : decode jdk_42_method_150_code 15 = .ok (.aload_n 1, 1) := by decide +kernel
theorem d19_16 : decode jdk_42_method_150_code 16 = .ok (.invokevirtual 1047, 3) := by decide +kernel
theorem d19_19 : decode jdk_42_method_150_code 19 = .ok (.ifCond .eq 22, 3) := by decide +kernel
theorem d19_22 : decode jdk_42_method_150_code 22 = .ok (.aload_n 0, 1) := by decide +kernel
theorem d19_23 : decode jdk_42_method_150_code 23 = .ok (.iconst 0, 1) := by decide +kernel
theorem d19_24 : decode jdk_42_method_150_code 24 = .ok (.putfield 15, 3) := by decide +kernel
theorem d19_27 : decode jdk_42_method_150_code 27 = .ok (.aload_n 0, 1) := by decide +kernel
theorem d19_28 : decode jdk_42_method_150_code 28 = .ok (.aload_n 3, 1) := by decide +kernel
theorem d19_29 : decode jdk_42_method_150_code 29 = .ok (.iconst 0, 1) := by decide +kernel
theorem d19_30 : decode jdk_42_method_150_code 30 = .ok (.iload 4, 2) := by decide +kernel
theorem d19_32 : decode jdk_42_method_150_code 32 = .ok (.invokestatic 54, 3) := by decide +kernel
theorem d19_35 : decode jdk_42_method_150_code 35 = .ok (.putfield 9, 3) := by decide +kernel
theorem d19_38 : decode jdk_42_method_150_code 38 = .ok (.goto 59, 3) := by decide +kernel
theorem d19_97 : decode jdk_42_method_150_code 97 = .ok (.return_, 1) := by decide +kernel
theorem pn_19 : plainName "java/lang/String" = true := by first | (simp [plainName, overriddenIn]; done) | decide +kernel
theorem pd_19_0 : parseMethodDescriptor "()[B" = some ⟨[], some (.array .byte)⟩ := by decide +kernel
theorem pd_19_1 : parseMethodDescriptor "()I" = some ⟨[], some .int⟩ := by decide +kernel
theorem pd_19_2 : parseMethodDescriptor "()Z" = some ⟨[], some .boolean⟩ := by decide +kernel
theorem pd_19_3 : parseMethodDescriptor "([BII)[B" = some ⟨[(.array .byte), .int, .int], some (.array .byte)⟩ := by decide +kernel
theorem ef_rm19_1 (m : MethodId) (x0 : Addr) (x1 : Addr) : entryFrame m #[(.ref x0), (.ref x1), .null] 5 = mkF m 0 #[.val (.ref x0), .val (.ref x1), .val .null, .unset, .unset] [] := by first | (simp [entryFrame, mkF, argsToLocals, Value.category]; done) | rfl
set_option maxRecDepth 65536 in
set_option maxHeartbeats 40000000 in
theorem rm19_1 (l : Launch) (Z : State) (a0 : Array Value) (hw : ∀ d ∈ tables_1, d.before a0 Z = true) (ws : List Jvm.Cond) (a1 : Addr) (a2 : Addr) (h0 : Heap) (n0 : Nat) (Z0 : n0 ≤ h0.size) (E_a1 : Exa Z h0 a1 "java/lang/String") (F_value_a1 : Fld Z h0 a1 "java/lang/String" "value" "[B" .null) (F_coder_a1 : Fld Z h0 a1 "java/lang/String" "coder" "B" (.int (0 : Int32))) (g_a1 : n0 ≤ a1) (bv : Addr) (kv : ClassId) (O : OwnSB Z h0 a2 bv kv 4 [(.int (116 : Int32)), (.int (114 : Int32)), (.int (117 : Int32)), (.int (101 : Int32)), (.int (0 : Int32)), (.int (0 : Int32)), (.int (0 : Int32)), (.int (0 : Int32)), (.int (0 : Int32)), (.int (0 : Int32)), (.int (0 : Int32)), (.int (0 : Int32)), (.int (0 : Int32)), (.int (0 : Int32)), (.int (0 : Int32)), (.int (0 : Int32))]) (cs : Int32) (S_CS : Sta Z h0 "java/lang/String" "COMPACT_STRINGS" "Z" (.int cs)) (hcs : ¬ cs = (0 : Int32)) (n12 : a1 ≠ a2) (n1b : a1 ≠ bv) :
    MetFree l (⟨"java/lang/String", "<init>", "(Ljava/lang/AbstractStringBuilder;Ljava/lang/Void;)V"⟩ : MethodName) (head1 (Jvm.Cond.code (⟨"java/lang/String", "<init>", "(Ljava/lang/AbstractStringBuilder;Ljava/lang/Void;)V"⟩ : MethodName) jdk_42_method_150_code 5 none :: ws) ({ frames := 3, cells := 1, slots := 4, locals := 71 } : Room)) (fun a U => a = #[(.ref a1), (.ref a2), .null] ∧ Z.Warmed39 U.vm ∧ U.heap = h0) (fun _ _ _ _ _ => True) (fun _ U o U' => ∃ v L, o = .returned v ∧ Q19_1 Z a1 h0 n0 v U'.heap L ∧ FrameEnd U o U' L ({ frames := 3, cells := 1, slots := 4, locals := 71 } : Room).cells ({ frames := 3, cells := 1, slots := 4, locals := 71 } : Room).slots) := by
  refine MetFree.of_bodySF (plainFor_of_name pn_19) hisR ?_
  intro p e s m args below meth c s₁ Bd hml0 hP hK
  obtain ⟨rfl, hZ, hh⟩ := hP
  have hx := Bd.exec
  have hby := Bd.bytes
  have hlk : meth.locks = false := BodyLoose.notSynchronized Bd
  have hml : c.maxLocals = 5 := hml0
  have hown : s.vm.findClass "java/lang/String" = some m.cls := findClass_of_methodNamed Bd.named
  have hnm := (name_of_methodNamed Bd.named Bd.method).1
  have X0 : Stand p l e ({ frames := 3, cells := 1, slots := 4, locals := 71 } : Room) s m #[(.ref a1), (.ref a2), .null] below meth c s₁ [] 0 0 := Stand.of_body Bd
  have e0 : s₁.heap = h0 := by rw [← hh, Bd.state]; rfl
  have N0 := Fr.nil n0
  have Zz := Z0
  have Kp : Keep h0 h0 [a1] := Keep.refl _ _
  obtain ⟨E_a2, F_value_a2, F_coder_a2, F_count_a2, V_bv, EX_bv, ne1⟩ := O
  show OwnEnds p e below s (Q19_1 Z a1 h0 n0) ({ frames := 3, cells := 1, slots := 4, locals := 71 } : Room).cells ({ frames := 3, cells := 1, slots := 4, locals := 71 } : Room).slots s₁ (entryFrame m #[(.ref a1), (.ref a2), .null] 5)
  refine own_step (T' := s₁) (f' := (mkF m 0 #[.val (.ref a1), .val (.ref a2), .val .null, .unset, .unset] [])) (fun t k => castTop (ef_rm19_1 m a1 a2) k) ?_
  refine own_step (T' := s₁) (f' := (mkF m 1 #[.val (.ref a1), .val (.ref a2), .val .null, .unset, .unset] [(.ref a1)])) (fun t k => XS.aloadN X0.here hx rfl (hb hby d19_0) rfl rfl k) ?_
  obtain ⟨T1, X1, e1, st1⟩ := initO X0 hx hZ hown (hw _ (List.mem_of_getElem? (i := 129) rfl)) (hw _ (List.mem_of_getElem? (i := 79) rfl)) (hw _ (List.mem_of_getElem? (i := 80) rfl)) e0 (g := (mkF m 1 #[.val (.ref a1), .val (.ref a2), .val .null, .unset, .unset] [(.ref a1)])) rfl (by rw [hml]; rfl) rfl (hb hby d19_1) (by decide) (W := 0) (by show 2 * 0 + _ ≤ _; exact Nat.le_of_eq rfl) (by decide)
  refine own_step (T' := T1) (f' := (mkF m 4 #[.val (.ref a1), .val (.ref a2), .val .null, .unset, .unset] [])) (fun t k => st1 t k) ?_
  refine own_step (T' := T1) (f' := (mkF m 5 #[.val (.ref a1), .val (.ref a2), .val .null, .unset, .unset] [(.ref a2)])) (fun t k => XS.aloadN X1.here hx rfl (hb hby d19_4) rfl rfl k) ?_
  obtain ⟨cq2, kq2, q2a, q2b, q2c⟩ := isOf hZ e1 E_a2
  obtain ⟨_, _, ⟨T2, L2, k2, n2⟩, -, X2, ⟨Lc2, hQ2, l2, y2, z2⟩, st2⟩ := X1.virtualBack hx (y := (⟨"java/lang/AbstractStringBuilder", "getValue", "()[B"⟩ : MethodName)) (z := (⟨"java/lang/AbstractStringBuilder", "getValue", "()[B"⟩ : MethodName)) hown (mvT hZ (hw _ (List.mem_of_getElem? (i := 130) rfl))) (mvT hZ (hw _ (List.mem_of_getElem? (i := 131) rfl))) (notFace_of_selects (args := #[]) (mvT hZ (hw _ (List.mem_of_getElem? (i := 133) rfl)))) (mvT hZ (hw _ (List.mem_of_getElem? (i := 133) rfl))) (mvT hZ (hw _ (List.mem_of_getElem? (i := 132) rfl))) (by decide) (backOf (W := 0) (rm20 l Z a0 hw [] a2 h0 n0 Zz bv F_value_a2) hZ (hw _ (List.mem_of_getElem? (i := 134) rfl)) (hw _ (List.mem_of_getElem? (i := 76) rfl)) (by decide) (by decide)) q2a q2c (g := (mkF m 5 #[.val (.ref a1), .val (.ref a2), .val .null, .unset, .unset] [(.ref a2)])) rfl (by rw [hml]; rfl) (Steps.refl _) (argsL := []) (rest := []) (lenOf pd_19_0 rfl) rfl (by show 2 * 0 + _ ≤ _; exact Nat.le_of_eq rfl) (hb hby d19_5) (fun _ _ => ⟨rfl, e1, (by decide : 0 + 0 ≤ _), (by decide : 0 + 0 ≤ _)⟩)
  dsimp only [Pt.U, Pt.locs, Pt.cells, Pt.slots] at X2 l2 y2 z2 st2 hQ2
  subst l2 y2 z2
  obtain ⟨rfl, N2q, E2⟩ := hQ2
  have N2 := Fr.app N0 N2q
  refine own_step (T' := T2) (f' := (mkF m 8 #[.val (.ref a1), .val (.ref a2), .val .null, .unset, .unset] [(.ref bv)])) (fun t k => st2.trans k) ?_
  refine own_step (T' := T2) (f' := (mkF m 9 #[.val (.ref a1), .val (.ref a2), .val .null, .val (.ref bv), .unset] [])) (fun t k => XS.astoreN X2.here hx rfl (hb hby d19_8) rfl rfl (l' := #[.val (.ref a1), .val (.ref a2), .val .null, .val (.ref bv), .unset]) rfl k) ?_
  refine own_step (T' := T2) (f' := (mkF m 10 #[.val (.ref a1), .val (.ref a2), .val .null, .val (.ref bv), .unset] [(.ref a2)])) (fun t k => XS.aloadN X2.here hx rfl (hb hby d19_9) rfl rfl k) ?_
  obtain ⟨cq3, kq3, q3a, q3b, q3c⟩ := isOf hZ E2 E_a2
  obtain ⟨_, _, ⟨T3, L3, k3, n3⟩, -, X3, ⟨Lc3, hQ3, l3, y3, z3⟩, st3⟩ := X2.virtualBack hx (y := (⟨"java/lang/AbstractStringBuilder", "length", "()I"⟩ : MethodName)) (z := (⟨"java/lang/StringBuilder", "length", "()I"⟩ : MethodName)) hown (mvT hZ (hw _ (List.mem_of_getElem? (i := 135) rfl))) (mvT hZ (hw _ (List.mem_of_getElem? (i := 136) rfl))) (own_nf (args := #[]) (mvT hZ (hw _ (List.mem_of_getElem? (i := 113) rfl))) rfl) (mvT hZ (hw _ (List.mem_of_getElem? (i := 138) rfl))) (mvT hZ (hw _ (List.mem_of_getElem? (i := 139) rfl))) (by decide) (backOf (W := 0) (rm21 l Z a0 hw [] a2 h0 n0 Zz (4 : Int32) F_count_a2 E_a2) hZ (hw _ (List.mem_of_getElem? (i := 140) rfl)) (hw _ (List.mem_of_getElem? (i := 68) rfl)) (by decide) (by decide)) q3a q3c (g := (mkF m 10 #[.val (.ref a1), .val (.ref a2), .val .null, .val (.ref bv), .unset] [(.ref a2)])) rfl (by rw [hml]; rfl) (Steps.refl _) (argsL := []) (rest := []) (lenOf pd_19_1 rfl) rfl (by show 2 * 0 + _ ≤ _; exact Nat.le_of_eq rfl) (hb hby d19_10) (fun _ _ => ⟨rfl, E2, (by decide : 0 + 0 ≤ _), (by decide : 0 + 0 ≤ _)⟩)
  dsimp only [Pt.U, Pt.locs, Pt.cells, Pt.slots] at X3 l3 y3 z3 st3 hQ3
  subst l3 y3 z3
  obtain ⟨rfl, N3q, E3⟩ := hQ3
  have N3 := Fr.app N2 N3q
  refine own_step (T' := T3) (f' := (mkF m 13 #[.val (.ref a1), .val (.ref a2), .val .null, .val (.ref bv), .unset] [(.int (4 : Int32))])) (fun t k => st3.trans k) ?_
  refine own_step (T' := T3) (f' := (mkF m 15 #[.val (.ref a1), .val (.ref a2), .val .null, .val (.ref bv), .val (.int (4 : Int32))] [])) (fun t k => XS.istore X3.here hx rfl (hb hby d19_13) rfl (l' := #[.val (.ref a1), .val (.ref a2), .val .null, .val (.ref bv), .val (.int (4 : Int32))]) rfl k) ?_
  refine own_step (T' := T3) (f' := (mkF m 16 #[.val (.ref a1), .val (.ref a2), .val .null, .val (.ref bv), .val (.int (4 : Int32))] [(.ref a2)])) (fun t k => XS.aloadN X3.here hx rfl (hb hby d19_15) rfl rfl k) ?_
  obtain ⟨cq4, kq4, q4a, q4b, q4c⟩ := isOf hZ E3 E_a2
  obtain ⟨_, _, ⟨T4, L4, k4, n4⟩, -, X4, ⟨Lc4, hQ4, l4, y4, z4⟩, st4⟩ := X3.virtualBack hx (y := (⟨"java/lang/AbstractStringBuilder", "isLatin1", "()Z"⟩ : MethodName)) (z := (⟨"java/lang/AbstractStringBuilder", "isLatin1", "()Z"⟩ : MethodName)) hown (mvT hZ (hw _ (List.mem_of_getElem? (i := 143) rfl))) (mvT hZ (hw _ (List.mem_of_getElem? (i := 111) rfl))) (notFace_of_selects (args := #[]) (mvT hZ (hw _ (List.mem_of_getElem? (i := 113) rfl)))) (mvT hZ (hw _ (List.mem_of_getElem? (i := 113) rfl))) (mvT hZ (hw _ (List.mem_of_getElem? (i := 112) rfl))) (by decide) (backOf (W := 0) (rm16 l Z a0 hw [] a2 h0 n0 Zz F_coder_a2 cs S_CS hcs) hZ (hw _ (List.mem_of_getElem? (i := 114) rfl)) (hw _ (List.mem_of_getElem? (i := 76) rfl)) (by decide) (by decide)) q4a q4c (g := (mkF m 16 #[.val (.ref a1), .val (.ref a2), .val .null, .val (.ref bv), .val (.int (4 : Int32))] [(.ref a2)])) rfl (by rw [hml]; rfl) (Steps.refl _) (argsL := []) (rest := []) (lenOf pd_19_2 rfl) rfl (by show 2 * 0 + _ ≤ _; exact Nat.le_of_eq rfl) (hb hby d19_16) (fun _ _ => ⟨rfl, E3, (by decide : 0 + 0 ≤ _), (by decide : 0 + 0 ≤ _)⟩)
  dsimp only [Pt.U, Pt.locs, Pt.cells, Pt.slots] at X4 l4 y4 z4 st4 hQ4
  subst l4 y4 z4
  obtain ⟨rfl, N4q, E4⟩ := hQ4
  have N4 := Fr.app N3 N4q
  refine own_step (T' := T4) (f' := (mkF m 19 #[.val (.ref a1), .val (.ref a2), .val .null, .val (.ref bv), .val (.int (4 : Int32))] [(.int (1 : Int32))])) (fun t k => st4.trans k) ?_
  refine own_step (T' := T4) (f' := (mkF m 22 #[.val (.ref a1), .val (.ref a2), .val .null, .val (.ref bv), .val (.int (4 : Int32))] [])) (fun t k => XS.ifNo X4.here hx rfl (hb hby d19_19) rfl ((if0 _ _).trans (feq (by decide : ¬ ((1 : Int32) = (0 : Int32)))).1) k) ?_
  refine own_step (T' := T4) (f' := (mkF m 23 #[.val (.ref a1), .val (.ref a2), .val .null, .val (.ref bv), .val (.int (4 : Int32))] [(.ref a1)])) (fun t k => XS.aloadN X4.here hx rfl (hb hby d19_22) rfl rfl k) ?_
  refine own_step (T' := T4) (f' := (mkF m 24 #[.val (.ref a1), .val (.ref a2), .val .null, .val (.ref bv), .val (.int (4 : Int32))] [(.int (0 : Int32)), (.ref a1)])) (fun t k => XS.iconst X4.here hx rfl (hb hby d19_23) k) ?_
  obtain ⟨T5, h5, X5, e5, W5, st5⟩ := putFN X4 hx hZ hown (hw _ (List.mem_of_getElem? (i := 144) rfl)) Via.refl E4 F_coder_a1 E_a1 (Or.inr ⟨(hw _ (List.mem_of_getElem? (i := 145) rfl)), rfl, hnm⟩) (hw _ (List.mem_of_getElem? (i := 121) rfl)) (ty := .byte) (v' := (.int (0 : Int32))) (by decide) rfl (by decide) (g := (mkF m 24 #[.val (.ref a1), .val (.ref a2), .val .null, .val (.ref bv), .val (.int (4 : Int32))] [(.int (0 : Int32)), (.ref a1)])) rfl rfl (hb hby d19_24)
  replace E_a1 := E_a1.wr W5
  replace F_value_a1 := F_value_a1.other W5 (Or.inr (Jvm.RoadKit.slot_ne (Or.inr (hw _ (List.mem_of_getElem? (i := 165) rfl))) (Or.inr (hw _ (List.mem_of_getElem? (i := 145) rfl))) (by decide) (t := (.array .byte)) (t' := .byte) (by decide) (by decide)))
  replace F_coder_a1 := F_coder_a1.same W5
  replace E_a2 := E_a2.wr W5
  replace F_value_a2 := F_value_a2.other W5 (Or.inl (Ne.symm n12))
  replace F_coder_a2 := F_coder_a2.other W5 (Or.inl (Ne.symm n12))
  replace F_count_a2 := F_count_a2.other W5 (Or.inl (Ne.symm n12))
  replace V_bv := V_bv.other W5 (Ne.symm n1b)
  replace EX_bv := EX_bv.wr W5
  replace S_CS := S_CS.wr W5
  replace Zz := Nat.le_trans Zz (Keep.of_wr W5).1
  replace Kp := Kp.wr W5 (Or.inl (List.mem_of_getElem? (i := 0) rfl))
  have N5 := Fr.snoc X5 N4 g_a1
  refine own_step (T' := T5) (f' := (mkF m 27 #[.val (.ref a1), .val (.ref a2), .val .null, .val (.ref bv), .val (.int (4 : Int32))] [])) (fun t k => st5 t k) ?_
  refine own_step (T' := T5) (f' := (mkF m 28 #[.val (.ref a1), .val (.ref a2), .val .null, .val (.ref bv), .val (.int (4 : Int32))] [(.ref a1)])) (fun t k => XS.aloadN X5.here hx rfl (hb hby d19_27) rfl rfl k) ?_
  refine own_step (T' := T5) (f' := (mkF m 29 #[.val (.ref a1), .val (.ref a2), .val .null, .val (.ref bv), .val (.int (4 : Int32))] [(.ref bv), (.ref a1)])) (fun t k => XS.aloadN X5.here hx rfl (hb hby d19_28) rfl rfl k) ?_
  refine own_step (T' := T5) (f' := (mkF m 30 #[.val (.ref a1), .val (.ref a2), .val .null, .val (.ref bv), .val (.int (4 : Int32))] [(.int (0 : Int32)), (.ref bv), (.ref a1)])) (fun t k => XS.iconst X5.here hx rfl (hb hby d19_29) k) ?_
  refine own_step (T' := T5) (f' := (mkF m 32 #[.val (.ref a1), .val (.ref a2), .val .null, .val (.ref bv), .val (.int (4 : Int32))] [(.int (4 : Int32)), (.int (0 : Int32)), (.ref bv), (.ref a1)])) (fun t k => XS.iload X5.here hx rfl (hb hby d19_30) rfl k) ?_
  obtain ⟨_, _, ⟨T6, L6, k6, n6⟩, -, X6, ⟨Lc6, hQ6, l6, y6, z6⟩, st6⟩ := Jvm.LawKit.callS X5 hx (y := (⟨"java/util/Arrays", "copyOfRange", "([BII)[B"⟩ : MethodName)) hown (mvT hZ (hw _ (List.mem_of_getElem? (i := 146) rfl))) (mvT hZ (hw _ (List.mem_of_getElem? (i := 147) rfl))) (mvT hZ (hw _ (List.mem_of_getElem? (i := 148) rfl))) (mvT hZ (hw _ (List.mem_of_getElem? (i := 149) rfl))) (by decide) (backOf (W := 1) (rm23_1 l Z a0 hw [] bv h5 n0 Zz kv V_bv) hZ (hw _ (List.mem_of_getElem? (i := 149) rfl)) (hw _ (List.mem_of_getElem? (i := 148) rfl)) (by decide) (by decide)) (g := (mkF m 32 #[.val (.ref a1), .val (.ref a2), .val .null, .val (.ref bv), .val (.int (4 : Int32))] [(.int (4 : Int32)), (.int (0 : Int32)), (.ref bv), (.ref a1)])) rfl (by rw [hml]; rfl) (argsL := [(.ref bv), (.int (0 : Int32)), (.int (4 : Int32))]) (rest := [(.ref a1)]) (lenOf pd_19_3 rfl) rfl (by show 2 * 0 + _ ≤ _; exact Nat.le_of_eq rfl) (hb hby d19_32) (fun _ _ => ⟨rfl, e5, (by decide : 0 + 1 ≤ _), (by decide : 0 + 4 ≤ _)⟩)
  dsimp only [Pt.U, Pt.locs, Pt.cells, Pt.slots] at X6 l6 y6 z6 st6 hQ6
  subst l6 y6 z6
  obtain ⟨rb6, rk6, rfl, N6q, K6, zz6, Vr6⟩ := hQ6
  have N6 := Fr.app N5 N6q
  have ne_a1_rb6 : a1 ≠ rb6 := Nat.ne_of_lt (Nat.lt_of_lt_of_le E_a1.lt zz6)
  have ne_a2_rb6 : a2 ≠ rb6 := Nat.ne_of_lt (Nat.lt_of_lt_of_le E_a2.lt zz6)
  have ne_bv_rb6 : bv ≠ rb6 := Nat.ne_of_lt (Nat.lt_of_lt_of_le V_bv.lt zz6)
  replace S_CS := own_sta_keep S_CS K6 all0
  replace E_a1 := E_a1.keep K6
  replace F_value_a1 := F_value_a1.keep K6 nin0
  replace F_coder_a1 := F_coder_a1.keep K6 nin0
  replace E_a2 := E_a2.keep K6
  replace F_value_a2 := F_value_a2.keep K6 nin0
  replace F_coder_a2 := F_coder_a2.keep K6 nin0
  replace F_count_a2 := F_count_a2.keep K6 nin0
  replace V_bv := V_bv.keep K6 nin0
  replace EX_bv := EX_bv.keep K6
  replace Zz := Nat.le_trans Zz K6.1
  replace Kp := Kp.trans K6 all0
  have sq6 := zz6
  refine own_step (T' := T6) (f' := (mkF m 35 #[.val (.ref a1), .val (.ref a2), .val .null, .val (.ref bv), .val (.int (4 : Int32))] [(.ref rb6), (.ref a1)])) (fun t k => st6 t k) ?_
  obtain ⟨T7, h7, X7, e7, W7, st7⟩ := putF X6 hx hZ hown (host := "") (Or.inl (hw _ (List.mem_of_getElem? (i := 164) rfl))) Via.refl rfl F_value_a1 E_a1 (Or.inr ⟨(hw _ (List.mem_of_getElem? (i := 165) rfl)), rfl, hnm⟩) (hw _ (List.mem_of_getElem? (i := 121) rfl)) (ty := (.array .byte)) (by decide) rfl rfl (g := (mkF m 35 #[.val (.ref a1), .val (.ref a2), .val .null, .val (.ref bv), .val (.int (4 : Int32))] [(.ref rb6), (.ref a1)])) rfl rfl (hb hby d19_35)
  replace E_a1 := E_a1.wr W7
  replace F_value_a1 := F_value_a1.same W7
  replace F_coder_a1 := F_coder_a1.other W7 (Or.inr (Jvm.RoadKit.slot_ne (Or.inr (hw _ (List.mem_of_getElem? (i := 145) rfl))) (Or.inr (hw _ (List.mem_of_getElem? (i := 165) rfl))) (by decide) (t := .byte) (t' := (.array .byte)) (by decide) (by decide)))
  replace E_a2 := E_a2.wr W7
  replace F_value_a2 := F_value_a2.other W7 (Or.inl (Ne.symm n12))
  replace F_coder_a2 := F_coder_a2.other W7 (Or.inl (Ne.symm n12))
  replace F_count_a2 := F_count_a2.other W7 (Or.inl (Ne.symm n12))
  replace V_bv := V_bv.other W7 (Ne.symm n1b)
  replace EX_bv := EX_bv.wr W7
  replace S_CS := S_CS.wr W7
  replace Vr6 := Vr6.other W7 (Ne.symm ne_a1_rb6)
  replace Zz := Nat.le_trans Zz (Keep.of_wr W7).1
  replace Kp := Kp.wr W7 (Or.inl (List.mem_of_getElem? (i := 0) rfl))
  have N7 := Fr.snoc X7 N6 g_a1
  refine own_step (T' := T7) (f' := (mkF m 38 #[.val (.ref a1), .val (.ref a2), .val .null, .val (.ref bv), .val (.int (4 : Int32))] [])) (fun t k => st7 t k) ?_
  refine own_step (T' := T7) (f' := (mkF m 97 #[.val (.ref a1), .val (.ref a2), .val .null, .val (.ref bv), .val (.int (4 : Int32))] [])) (fun t k => XS.goto X7.here hx rfl (pc0 := 38) (pc' := 97) rfl (hb hby d19_38) (by decide) (by decide) k) ?_
  exact own_retV X7 hx hlk Bd.returns (hb hby d19_97) (by decide) (by decide) (by rw [e7]; exact ⟨rfl, N7, Kp, rb6, rk6, E_a1, F_coder_a1, F_value_a1, Vr6⟩)

theorem d18_0 : decode jdk_42_method_53_code 0 = .ok (.aload_n 0, 1) := by decide +kernel
theorem d18_1 : decode jdk_42_method_53_code 1 = .ok (.aload_n 1, 1) := by decide +kernel
theorem d18_2 : decode jdk_42_method_53_code 2 = .ok (.aconst_null, 1) := by decide +kernel
theorem d18_3 : decode jdk_42_method_53_code 3 = .ok (.invokespecial 489, 3) := by decide +kernel
theorem d18_6 : decode jdk_42_method_53_code 6 = .ok (.return_, 1) := by decide +kernel
theorem pn_18 : plainName "java/lang/String" = true := by first | (simp [plainName, overriddenIn]; done) | decide +kernel
theorem pd_18_0 : parseMethodDescriptor "(Ljava/lang/AbstractStringBuilder;Ljava/lang/Void;)V" = some ⟨[(.object "java/lang/AbstractStringBuilder"), (.object "java/lang/Void")], none⟩ := by decide +kernel
theorem ef_rm18_1 (m : MethodId) (x0 : Addr) (x1 : Addr) : entryFrame m #[(.ref x0), (.ref x1)] 2 = mkF m 0 #[.val (.ref x0), .val (.ref x1)] [] := by first | (simp [entryFrame, mkF, argsToLocals, Value.category]; done) | rfl
set_option maxRecDepth 65536 in
set_option maxHeartbeats 40000000 in
theorem rm18_1 (l : Launch) (Z : State) (a0 : Array Value) (hw : ∀ d ∈ tables_1, d.before a0 Z = true) (ws : List Jvm.Cond) (a1 : Addr) (a2 : Addr) (h0 : Heap) (n0 : Nat) (Z0 : n0 ≤ h0.size) (E_a1 : Exa Z h0 a1 "java/lang/String") (F_value_a1 : Fld Z h0 a1 "java/lang/String" "value" "[B" .null) (F_coder_a1 : Fld Z h0 a1 "java/lang/String" "coder" "B" (.int (0 : Int32))) (g_a1 : n0 ≤ a1) (bv : Addr) (kv : ClassId) (O : OwnSB Z h0 a2 bv kv 4 [(.int (116 : Int32)), (.int (114 : Int32)), (.int (117 : Int32)), (.int (101 : Int32)), (.int (0 : Int32)), (.int (0 : Int32)), (.int (0 : Int32)), (.int (0 : Int32)), (.int (0 : Int32)), (.int (0 : Int32)), (.int (0 : Int32)), (.int (0 : Int32)), (.int (0 : Int32)), (.int (0 : Int32)), (.int (0 : Int32)), (.int (0 : Int32))]) (cs : Int32) (S_CS : Sta Z h0 "java/lang/String" "COMPACT_STRINGS" "Z" (.int cs)) (hcs : ¬ cs = (0 : Int32)) (n12 : a1 ≠ a2) (n1b : a1 ≠ bv) :
    MetFree l (⟨"java/lang/String", "<init>", "(Ljava/lang/StringBuilder;)V"⟩ : MethodName) (head1 (Jvm.Cond.code (⟨"java/lang/String", "<init>", "(Ljava/lang/StringBuilder;)V"⟩ : MethodName) jdk_42_method_53_code 2 none :: ws) ({ frames := 4, cells := 1, slots := 4, locals := 87 } : Room)) (fun a U => a = #[(.ref a1), (.ref a2)] ∧ Z.Warmed39 U.vm ∧ U.heap = h0) (fun _ _ _ _ _ => True) (fun _ U o U' => ∃ v L, o = .returned v ∧ Q19_1 Z a1 h0 n0 v U'.heap L ∧ FrameEnd U o U' L ({ frames := 4, cells := 1, slots := 4, locals := 87 } : Room).cells ({ frames := 4, cells := 1, slots := 4, locals := 87 } : Room).slots) := by
  refine MetFree.of_bodySF (plainFor_of_name pn_18) hisR ?_
  intro p e s m args below meth c s₁ Bd hml0 hP hK
  obtain ⟨rfl, hZ, hh⟩ := hP
  have hx := Bd.exec
  have hby := Bd.bytes
  have hlk : meth.locks = false := BodyLoose.notSynchronized Bd
  have hml : c.maxLocals = 2 := hml0
  have hown : s.vm.findClass "java/lang/String" = some m.cls := findClass_of_methodNamed Bd.named
  have hnm := (name_of_methodNamed Bd.named Bd.method).1
  have X0 : Stand p l e ({ frames := 4, cells := 1, slots := 4, locals := 87 } : Room) s m #[(.ref a1), (.ref a2)] below meth c s₁ [] 0 0 := Stand.of_body Bd
  have e0 : s₁.heap = h0 := by rw [← hh, Bd.state]; rfl
  have N0 := Fr.nil n0
  show OwnEnds p e below s (Q19_1 Z a1 h0 n0) ({ frames := 4, cells := 1, slots := 4, locals := 87 } : Room).cells ({ frames := 4, cells := 1, slots := 4, locals := 87 } : Room).slots s₁ (entryFrame m #[(.ref a1), (.ref a2)] 2)
  refine own_step (T' := s₁) (f' := (mkF m 0 #[.val (.ref a1), .val (.ref a2)] [])) (fun t k => castTop (ef_rm18_1 m a1 a2) k) ?_
  refine own_step (T' := s₁) (f' := (mkF m 1 #[.val (.ref a1), .val (.ref a2)] [(.ref a1)])) (fun t k => XS.aloadN X0.here hx rfl (hb hby d18_0) rfl rfl k) ?_
  refine own_step (T' := s₁) (f' := (mkF m 2 #[.val (.ref a1), .val (.ref a2)] [(.ref a2), (.ref a1)])) (fun t k => XS.aloadN X0.here hx rfl (hb hby d18_1) rfl rfl k) ?_
  refine own_step (T' := s₁) (f' := (mkF m 3 #[.val (.ref a1), .val (.ref a2)] [.null, (.ref a2), (.ref a1)])) (fun t k => XS.aconstNull X0.here hx rfl (hb hby d18_2) k) ?_
  obtain ⟨_, _, ⟨T1, L1, k1, n1⟩, -, X1, ⟨Lc1, hQ1, l1, y1, z1⟩, st1⟩ := X0.specialBack hx (y := (⟨"java/lang/String", "<init>", "(Ljava/lang/AbstractStringBuilder;Ljava/lang/Void;)V"⟩ : MethodName)) rfl hown (mvT hZ (hw _ (List.mem_of_getElem? (i := 126) rfl))) (mvT hZ (hw _ (List.mem_of_getElem? (i := 127) rfl))) (mvT hZ (hw _ (List.mem_of_getElem? (i := 128) rfl))) (by decide) (backOf (W := 0) (rm19_1 l Z a0 hw [] a1 a2 h0 n0 Z0 E_a1 F_value_a1 F_coder_a1 g_a1 bv kv O cs S_CS hcs n12 n1b) hZ (hw _ (List.mem_of_getElem? (i := 128) rfl)) (hw _ (List.mem_of_getElem? (i := 82) rfl)) (by decide) (by decide)) (g := (mkF m 3 #[.val (.ref a1), .val (.ref a2)] [.null, (.ref a2), (.ref a1)])) rfl (by rw [hml]; rfl) (Steps.refl _) (a := a1) (argsL := [(.ref a2), .null]) (rest := []) (lenOf pd_18_0 rfl) rfl (by show 2 * 0 + _ ≤ _; exact Nat.le_of_eq rfl) (hb hby d18_3) (fun _ _ => ⟨rfl, e0, (by decide : 0 + 1 ≤ _), (by decide : 0 + 4 ≤ _)⟩)
  dsimp only [Pt.U, Pt.locs, Pt.cells, Pt.slots] at X1 l1 y1 z1 st1 hQ1
  subst l1 y1 z1
  obtain ⟨rfl, N1q, K1, Ow1⟩ := hQ1
  have N1 := Fr.app N0 N1q
  refine own_step (T' := T1) (f' := (mkF m 6 #[.val (.ref a1), .val (.ref a2)] [])) (fun t k => st1.trans k) ?_
  exact own_retV X1 hx hlk Bd.returns (hb hby d18_6) (by decide) (by decide) ⟨rfl, N1, K1, Ow1⟩

def Q17_1 (Z : State) (h0 : Heap) (n0 : Nat) (v : Option Value) (h : Heap) (L : List Loc) : Prop := ∃ (r b : Addr) (k : ClassId), v = some (.ref r) ∧ Fr n0 L ∧ Keep h0 h [] ∧ OwnStr Z h r b k 4 [(.int (116 : Int32)), (.int (114 : Int32)), (.int (117 : Int32)), (.int (101 : Int32))]
theorem d17_0 : decode jdk_67_method_42_code 0 = .ok (.new 18, 3) := by decide +kernel
theorem d17_3 : decode jdk_67_method_42_code 3 = .ok (.dup, 1) := by decide +kernel
theorem d17_4 : decode jdk_67_method_42_code 4 = .ok (.aload_n 0, 1) := by decide +kernel
theorem d17_5 : decode jdk_67_method_42_code 5 = .ok (.invokespecial 137, 3) := by decide +kernel
theorem d17_8 : decode jdk_67_method_42_code 8 = .ok (.areturn, 1) := by decide +kernel
theorem pn_17 : plainName "java/lang/StringBuilder" = true := by first | (simp [plainName, overriddenIn]; done) | decide +kernel
theorem pd_17_0 : parseMethodDescriptor "(Ljava/lang/StringBuilder;)V" = some ⟨[(.object "java/lang/StringBuilder")], none⟩ := by decide +kernel
theorem ef_rm17_1 (m : MethodId) (x0 : Addr) : entryFrame m #[(.ref x0)] 1 = mkF m 0 #[.val (.ref x0)] [] := by first | (simp [entryFrame, mkF, argsToLocals, Value.category]; done) | rfl
set_option maxRecDepth 65536 in
set_option maxHeartbeats 40000000 in
theorem rm17_1 (l : Launch) (Z : State) (a0 : Array Value) (hw : ∀ d ∈ tables_1, d.before a0 Z = true) (ws : List Jvm.Cond) (a1 : Addr) (h0 : Heap) (n0 : Nat) (Z0 : n0 ≤ h0.size) (bv : Addr) (kv : ClassId) (O : OwnSB Z h0 a1 bv kv 4 [(.int (116 : Int32)), (.int (114 : Int32)), (.int (117 : Int32)), (.int (101 : Int32)), (.int (0 : Int32)), (.int (0 : Int32)), (.int (0 : Int32)), (.int (0 : Int32)), (.int (0 : Int32)), (.int (0 : Int32)), (.int (0 : Int32)), (.int (0 : Int32)), (.int (0 : Int32)), (.int (0 : Int32)), (.int (0 : Int32)), (.int (0 : Int32))]) (cs : Int32) (S_CS : Sta Z h0 "java/lang/String" "COMPACT_STRINGS" "Z" (.int cs)) (hcs : ¬ cs = (0 : Int32)) :
    MetFree l (⟨"java/lang/StringBuilder", "toString", "()Ljava/lang/String;"⟩ : MethodName) (head1 (Jvm.Cond.code (⟨"java/lang/StringBuilder", "toString", "()Ljava/lang/String;"⟩ : MethodName) jdk_67_method_42_code 1 (some (.object "java/lang/String")) :: ws) ({ frames := 5, cells := 2, slots := 8, locals := 101 } : Room)) (fun a U => a = #[(.ref a1)] ∧ Z.Warmed39 U.vm ∧ U.heap = h0) (fun _ _ _ _ _ => True) (fun _ U o U' => ∃ v L, o = .returned v ∧ Q17_1 Z h0 n0 v U'.heap L ∧ FrameEnd U o U' L ({ frames := 5, cells := 2, slots := 8, locals := 101 } : Room).cells ({ frames := 5, cells := 2, slots := 8, locals := 101 } : Room).slots) := by
  refine MetFree.of_bodySF (plainFor_of_name pn_17) hisR ?_
  intro p e s m args below meth c s₁ Bd hml0 hP hK
  obtain ⟨rfl, hZ, hh⟩ := hP
  have hx := Bd.exec
  have hby := Bd.bytes
  have hlk : meth.locks = false := BodyLoose.notSynchronized Bd
  have hml : c.maxLocals = 1 := hml0
  have hown : s.vm.findClass "java/lang/StringBuilder" = some m.cls := findClass_of_methodNamed Bd.named
  have hnm := (name_of_methodNamed Bd.named Bd.method).1
  have X0 : Stand p l e ({ frames := 5, cells := 2, slots := 8, locals := 101 } : Room) s m #[(.ref a1)] below meth c s₁ [] 0 0 := Stand.of_body Bd
  have e0 : s₁.heap = h0 := by rw [← hh, Bd.state]; rfl
  have N0 := Fr.nil n0
  have Zz := Z0
  have Kp : Keep h0 h0 [] := Keep.refl _ _
  obtain ⟨E_a1, F_value_a1, F_coder_a1, F_count_a1, V_bv, EX_bv, ne1⟩ := O
  show OwnEnds p e below s (Q17_1 Z h0 n0) ({ frames := 5, cells := 2, slots := 8, locals := 101 } : Room).cells ({ frames := 5, cells := 2, slots := 8, locals := 101 } : Room).slots s₁ (entryFrame m #[(.ref a1)] 1)
  refine own_step (T' := s₁) (f' := (mkF m 0 #[.val (.ref a1)] [])) (fun t k => castTop (ef_rm17_1 m a1) k) ?_
  obtain ⟨T1, h1, X1, e1, E1, A1, D1, -, st1⟩ := newO X0 hx hZ hown (hw _ (List.mem_of_getElem? (i := 120) rfl)) (hw _ (List.mem_of_getElem? (i := 121) rfl)) (hw _ (List.mem_of_getElem? (i := 82) rfl)) e0 (g := (mkF m 0 #[.val (.ref a1)] [])) rfl (hb hby d17_0) (by decide) (by decide)
  obtain ⟨b1, g1⟩ : ∃ z, z = h0.size := ⟨_, rfl⟩
  rw [← g1] at A1 D1 st1
  have ne_a1_b1 : a1 ≠ b1 := Nat.ne_of_lt (Nat.lt_of_lt_of_le E_a1.lt (Nat.le_of_eq g1.symm))
  have ne_bv_b1 : bv ≠ b1 := Nat.ne_of_lt (Nat.lt_of_lt_of_le V_bv.lt (Nat.le_of_eq g1.symm))
  have g_b1 : n0 ≤ b1 := Nat.le_trans Zz (Nat.le_of_eq g1.symm)
  have sz_b1 : h0.size ≤ b1 := Nat.le_trans Kp.1 (Nat.le_of_eq g1.symm)
  replace E_a1 := E_a1.ext E1
  replace F_value_a1 := F_value_a1.ext E1
  replace F_coder_a1 := F_coder_a1.ext E1
  replace F_count_a1 := F_count_a1.ext E1
  replace V_bv := V_bv.ext E1
  replace EX_bv := EX_bv.ext E1
  replace S_CS := S_CS.ext E1
  replace Zz := Nat.le_trans Zz E1.1
  replace Kp := Kp.ext E1
  have E_b1 := A1
  have F_coder_b1 : Fld Z h1 b1 "java/lang/String" "coder" "B" (.int (0 : Int32)) := D1 (Or.inr (hw _ (List.mem_of_getElem? (i := 145) rfl))) (ty := .byte) (by decide)
  have F_value_b1 : Fld Z h1 b1 "java/lang/String" "value" "[B" .null := D1 (Or.inr (hw _ (List.mem_of_getElem? (i := 165) rfl))) (ty := (.array .byte)) (by decide)
  refine own_step (T' := T1) (f' := (mkF m 3 #[.val (.ref a1)] [(.ref b1)])) (fun t k => st1 t k) ?_
  refine own_step (T' := T1) (f' := (mkF m 4 #[.val (.ref a1)] [(.ref b1), (.ref b1)])) (fun t k => XS.dup X1.here hx rfl (hb hby d17_3) rfl rfl k) ?_
  refine own_step (T' := T1) (f' := (mkF m 5 #[.val (.ref a1)] [(.ref a1), (.ref b1), (.ref b1)])) (fun t k => XS.aloadN X1.here hx rfl (hb hby d17_4) rfl rfl k) ?_
  obtain ⟨_, _, ⟨T2, L2, k2, n2⟩, -, X2, ⟨Lc2, hQ2, l2, y2, z2⟩, st2⟩ := X1.specialBack hx (y := (⟨"java/lang/String", "<init>", "(Ljava/lang/StringBuilder;)V"⟩ : MethodName)) rfl hown (mvT hZ (hw _ (List.mem_of_getElem? (i := 122) rfl))) (mvT hZ (hw _ (List.mem_of_getElem? (i := 123) rfl))) (mvT hZ (hw _ (List.mem_of_getElem? (i := 125) rfl))) (by decide) (backOf (W := 1) (rm18_1 l Z a0 hw [] b1 a1 h1 n0 Zz E_b1 F_value_b1 F_coder_b1 g_b1 bv kv ⟨E_a1, F_value_a1, F_coder_a1, F_count_a1, V_bv, EX_bv, ne1⟩ cs S_CS hcs (Ne.symm ne_a1_b1) (Ne.symm ne_bv_b1)) hZ (hw _ (List.mem_of_getElem? (i := 125) rfl)) (hw _ (List.mem_of_getElem? (i := 82) rfl)) (by decide) (by decide)) (g := (mkF m 5 #[.val (.ref a1)] [(.ref a1), (.ref b1), (.ref b1)])) rfl (by rw [hml]; rfl) (Steps.refl _) (a := b1) (argsL := [(.ref a1)]) (rest := [(.ref b1)]) (lenOf pd_17_0 rfl) rfl (by show 2 * 0 + _ ≤ _; exact Nat.le_of_eq rfl) (hb hby d17_5) (fun _ _ => ⟨rfl, e1, (by decide : 1 + 1 ≤ _), (by decide : 4 + 4 ≤ _)⟩)
  dsimp only [Pt.U, Pt.locs, Pt.cells, Pt.slots] at X2 l2 y2 z2 st2 hQ2
  subst l2 y2 z2
  obtain ⟨rfl, N2q, K2, sb2, sk2, Os2⟩ := hQ2
  have N2 := Fr.app N0 N2q
  replace S_CS := own_sta_keep S_CS K2 (allS ⟨_, E_b1⟩ all0)
  replace E_a1 := E_a1.keep K2
  replace F_value_a1 := F_value_a1.keep K2 (ninS ne_a1_b1 nin0)
  replace F_coder_a1 := F_coder_a1.keep K2 (ninS ne_a1_b1 nin0)
  replace F_count_a1 := F_count_a1.keep K2 (ninS ne_a1_b1 nin0)
  replace V_bv := V_bv.keep K2 (ninS ne_bv_b1 nin0)
  replace EX_bv := EX_bv.keep K2
  replace E_b1 := E_b1.keep K2
  replace Zz := Nat.le_trans Zz K2.1
  replace Kp := Kp.trans K2 (allS (Or.inr sz_b1) all0)
  refine own_step (T' := T2) (f' := (mkF m 8 #[.val (.ref a1)] [(.ref b1)])) (fun t k => st2.trans k) ?_
  exact own_retO X2 hx hlk Bd.returns rfl (Or.inr (Or.inr (Or.inr (Or.inr ⟨rfl, rfl, rfl⟩)))) (hb hby d17_8) (by decide) (by decide) ⟨b1, sb2, sk2, rfl, N2, Kp, Os2⟩

theorem d8_0 : decode prog_66_method_9_code 0 = .ok (.new 29, 3) := by decide +kernel
theorem d8_3 : decode prog_66_method_9_code 3 = .ok (.dup, 1) := by decide +kernel
theorem d8_4 : decode prog_66_method_9_code 4 = .ok (.invokespecial 31, 3) := by decide +kernel
theorem d8_7 : decode prog_66_method_9_code 7 = .ok (.astore_n 1, 1) := by decide +kernel
theorem d8_8 : decode prog_66_method_9_code 8 = .ok (.aload_n 0, 1) := by decide +kernel
theorem d8_9 : decode prog_66_method_9_code 9 = .ok (.aload_n 1, 1) := by decide +kernel
theorem d8_10 : decode prog_66_method_9_code 10 = .ok (.invokevirtual 32, 3) := by decide +kernel
theorem d8_13 : decode prog_66_method_9_code 13 = .ok (.aload_n 1, 1) := by decide +kernel
theorem d8_14 : decode prog_66_method_9_code 14 = .ok (.invokevirtual 36, 3) := by decide +kernel
theorem d8_17 : decode prog_66_method_9_code 17 = .ok (.areturn, 1) := by decide +kernel
theorem pn_8 : plainName "com/example/umriss/umriss/runtime/Value" = true := by first | (simp [plainName, overriddenIn]; done) | decide +kernel
theorem pd_8_0 : parseMethodDescriptor "()V" = some ⟨[], none⟩ := by decide +kernel
theorem pd_8_1 : parseMethodDescriptor "(Ljava/lang/StringBuilder;)V" = some ⟨[(.object "java/lang/StringBuilder")], none⟩ := by decide +kernel
theorem pd_8_2 : parseMethodDescriptor "()Ljava/lang/String;" = some ⟨[], some (.object "java/lang/String")⟩ := by decide +kernel
theorem ef_rm8_1 (m : MethodId) (x0 : Addr) : entryFrame m #[(.ref x0)] 2 = mkF m 0 #[.val (.ref x0), .unset] [] := by first | (simp [entryFrame, mkF, argsToLocals, Value.category]; done) | rfl
set_option maxRecDepth 65536 in
set_option maxHeartbeats 40000000 in
theorem rm8_1 (l : Launch) (Z : State) (a0 : Array Value) (hw : ∀ d ∈ tables_1, d.before a0 Z = true) (ws : List Jvm.Cond) (a1 : Addr) (h0 : Heap) (n0 : Nat) (Z0 : n0 ≤ h0.size) (F_v : Fld Z h0 a1 "com/example/umriss/umriss/runtime/BooleanValue" "value" "Z" (.int (1 : Int32))) (E_a1 : Exa Z h0 a1 "com/example/umriss/umriss/runtime/BooleanValue") (cs : Int32) (S_CS : Sta Z h0 "java/lang/String" "COMPACT_STRINGS" "Z" (.int cs)) (hcs : ¬ cs = (0 : Int32)) :
    MetFree l (⟨"com/example/umriss/umriss/runtime/Value", "toString", "()Ljava/lang/String;"⟩ : MethodName) (head1 (Jvm.Cond.code (⟨"com/example/umriss/umriss/runtime/Value", "toString", "()Ljava/lang/String;"⟩ : MethodName) prog_66_method_9_code 2 (some (.object "java/lang/String")) :: ws) ({ frames := 6, cells := 4, slots := 28, locals := 114 } : Room)) (fun a U => a = #[(.ref a1)] ∧ Z.Warmed39 U.vm ∧ U.heap = h0) (fun _ _ _ _ _ => True) (fun _ U o U' => ∃ v L, o = .returned v ∧ Q17_1 Z h0 n0 v U'.heap L ∧ FrameEnd U o U' L ({ frames := 6, cells := 4, slots := 28, locals := 114 } : Room).cells ({ frames := 6, cells := 4, slots := 28, locals := 114 } : Room).slots) := by
  refine MetFree.of_bodySF (plainFor_of_name pn_8) hisR ?_
  intro p e s m args below meth c s₁ Bd hml0 hP hK
  obtain ⟨rfl, hZ, hh⟩ := hP
  have hx := Bd.exec
  have hby := Bd.bytes
  have hlk : meth.locks = false := BodyLoose.notSynchronized Bd
  have hml : c.maxLocals = 2 := hml0
  have hown : s.vm.findClass "com/example/umriss/umriss/runtime/Value" = some m.cls := findClass_of_methodNamed Bd.named
  have hnm := (name_of_methodNamed Bd.named Bd.method).1
  have X0 : Stand p l e ({ frames := 6, cells := 4, slots := 28, locals := 114 } : Room) s m #[(.ref a1)] below meth c s₁ [] 0 0 := Stand.of_body Bd
  have e0 : s₁.heap = h0 := by rw [← hh, Bd.state]; rfl
  have N0 := Fr.nil n0
  have Zz := Z0
  have Kp : Keep h0 h0 [] := Keep.refl _ _
  show OwnEnds p e below s (Q17_1 Z h0 n0) ({ frames := 6, cells := 4, slots := 28, locals := 114 } : Room).cells ({ frames := 6, cells := 4, slots := 28, locals := 114 } : Room).slots s₁ (entryFrame m #[(.ref a1)] 2)
  refine own_step (T' := s₁) (f' := (mkF m 0 #[.val (.ref a1), .unset] [])) (fun t k => castTop (ef_rm8_1 m a1) k) ?_
  obtain ⟨T1, h1, X1, e1, E1, A1, D1, -, st1⟩ := newO X0 hx hZ hown (hw _ (List.mem_of_getElem? (i := 66) rfl)) (hw _ (List.mem_of_getElem? (i := 67) rfl)) (hw _ (List.mem_of_getElem? (i := 68) rfl)) e0 (g := (mkF m 0 #[.val (.ref a1), .unset] [])) rfl (hb hby d8_0) (by decide) (by decide)
  obtain ⟨b1, g1⟩ : ∃ z, z = h0.size := ⟨_, rfl⟩
  rw [← g1] at A1 D1 st1
  have ne_a1_b1 : a1 ≠ b1 := Nat.ne_of_lt (Nat.lt_of_lt_of_le F_v.lt (Nat.le_of_eq g1.symm))
  have g_b1 : n0 ≤ b1 := Nat.le_trans Zz (Nat.le_of_eq g1.symm)
  have sz_b1 : h0.size ≤ b1 := Nat.le_trans Kp.1 (Nat.le_of_eq g1.symm)
  replace F_v := F_v.ext E1
  replace E_a1 := E_a1.ext E1
  replace S_CS := S_CS.ext E1
  replace Zz := Nat.le_trans Zz E1.1
  replace Kp := Kp.ext E1
  have E_b1 := A1
  have F_value_b1 : Fld Z h1 b1 "java/lang/AbstractStringBuilder" "value" "[B" .null := D1 (Or.inl (hw _ (List.mem_of_getElem? (i := 85) rfl))) (ty := (.array .byte)) (by decide)
  have F_coder_b1 : Fld Z h1 b1 "java/lang/AbstractStringBuilder" "coder" "B" (.int (0 : Int32)) := D1 (Or.inl (hw _ (List.mem_of_getElem? (i := 87) rfl))) (ty := .byte) (by decide)
  have F_count_b1 : Fld Z h1 b1 "java/lang/AbstractStringBuilder" "count" "I" (.int (0 : Int32)) := D1 (Or.inl (hw _ (List.mem_of_getElem? (i := 104) rfl))) (ty := .int) (by decide)
  refine own_step (T' := T1) (f' := (mkF m 3 #[.val (.ref a1), .unset] [(.ref b1)])) (fun t k => st1 t k) ?_
  refine own_step (T' := T1) (f' := (mkF m 4 #[.val (.ref a1), .unset] [(.ref b1), (.ref b1)])) (fun t k => XS.dup X1.here hx rfl (hb hby d8_3) rfl rfl k) ?_
  obtain ⟨_, _, ⟨T2, L2, k2, n2⟩, -, X2, ⟨Lc2, hQ2, l2, y2, z2⟩, st2⟩ := X1.specialBack hx (y := (⟨"java/lang/StringBuilder", "<init>", "()V"⟩ : MethodName)) rfl hown (mvT hZ (hw _ (List.mem_of_getElem? (i := 69) rfl))) (mvT hZ (hw _ (List.mem_of_getElem? (i := 70) rfl))) (mvT hZ (hw _ (List.mem_of_getElem? (i := 71) rfl))) (by decide) (backOf (W := 1) (rm9 l Z a0 hw [] b1 h1 n0 Zz E_b1 F_value_b1 F_coder_b1 F_count_b1 g_b1 cs S_CS hcs) hZ (hw _ (List.mem_of_getElem? (i := 71) rfl)) (hw _ (List.mem_of_getElem? (i := 68) rfl)) (by decide) (by decide)) (g := (mkF m 4 #[.val (.ref a1), .unset] [(.ref b1), (.ref b1)])) rfl (by rw [hml]; rfl) (Steps.refl _) (a := b1) (argsL := []) (rest := [(.ref b1)]) (lenOf pd_8_0 rfl) rfl (by show 2 * 0 + _ ≤ _; exact Nat.le_of_eq rfl) (hb hby d8_4) (fun _ _ => ⟨rfl, e1, (by decide : 1 + 1 ≤ _), (by decide : 4 + 16 ≤ _)⟩)
  dsimp only [Pt.U, Pt.locs, Pt.cells, Pt.slots] at X2 l2 y2 z2 st2 hQ2
  subst l2 y2 z2
  obtain ⟨rfl, N2q, K2, bb2, kk2, zz2, Ex2, Fv2, Fc2, Fn2, Vb2, EXb2, nab2⟩ := hQ2
  have N2 := Fr.app N0 N2q
  have ne_a1_bb2 : a1 ≠ bb2 := Nat.ne_of_lt (Nat.lt_of_lt_of_le F_v.lt zz2)
  have ne_b1_bb2 : b1 ≠ bb2 := Nat.ne_of_lt (Nat.lt_of_lt_of_le E_b1.lt zz2)
  have sz_bb2 : h0.size ≤ bb2 := Nat.le_trans Kp.1 zz2
  have g_bb2 : n0 ≤ bb2 := Nat.le_trans Zz zz2
  replace S_CS := own_sta_keep S_CS K2 (allS ⟨_, E_b1⟩ all0)
  replace F_v := F_v.keep K2 (ninS ne_a1_b1 nin0)
  replace E_a1 := E_a1.keep K2
  replace E_b1 := E_b1.keep K2
  replace Zz := Nat.le_trans Zz K2.1
  replace Kp := Kp.trans K2 (allS (Or.inr sz_b1) all0)
  refine own_step (T' := T2) (f' := (mkF m 7 #[.val (.ref a1), .unset] [(.ref b1)])) (fun t k => st2.trans k) ?_
  refine own_step (T' := T2) (f' := (mkF m 8 #[.val (.ref a1), .val (.ref b1)] [])) (fun t k => XS.astoreN X2.here hx rfl (hb hby d8_7) rfl rfl (l' := #[.val (.ref a1), .val (.ref b1)]) rfl k) ?_
  refine own_step (T' := T2) (f' := (mkF m 9 #[.val (.ref a1), .val (.ref b1)] [(.ref a1)])) (fun t k => XS.aloadN X2.here hx rfl (hb hby d8_8) rfl rfl k) ?_
  refine own_step (T' := T2) (f' := (mkF m 10 #[.val (.ref a1), .val (.ref b1)] [(.ref b1), (.ref a1)])) (fun t k => XS.aloadN X2.here hx rfl (hb hby d8_9) rfl rfl k) ?_
  obtain ⟨cq3, kq3, q3a, q3b, q3c⟩ := isOf hZ rfl E_a1
  obtain ⟨_, _, ⟨T3, L3, k3, n3⟩, -, X3, ⟨Lc3, hQ3, l3, y3, z3⟩, st3⟩ := X2.virtualBack hx (y := (⟨"com/example/umriss/umriss/runtime/Value", "appendTo", "(Ljava/lang/StringBuilder;)V"⟩ : MethodName)) (z := (⟨"com/example/umriss/umriss/runtime/BooleanValue", "appendTo", "(Ljava/lang/StringBuilder;)V"⟩ : MethodName)) hown (mvT hZ (hw _ (List.mem_of_getElem? (i := 88) rfl))) (mvT hZ (hw _ (List.mem_of_getElem? (i := 89) rfl))) (own_nf (args := #[]) (mvT hZ (hw _ (List.mem_of_getElem? (i := 28) rfl))) rfl) (mvT hZ (hw _ (List.mem_of_getElem? (i := 90) rfl))) (mvT hZ (hw _ (List.mem_of_getElem? (i := 91) rfl))) (by decide) (backOf (W := 0) (rm12_1 l Z a0 hw [] a1 b1 T2.heap n0 Zz F_v bb2 kk2 ⟨E_b1, Fv2, Fc2, Fn2, Vb2, EXb2, nab2⟩ cs S_CS hcs g_b1 g_bb2) hZ (hw _ (List.mem_of_getElem? (i := 92) rfl)) (hw _ (List.mem_of_getElem? (i := 2) rfl)) (by decide) (by decide)) q3a q3c (g := (mkF m 10 #[.val (.ref a1), .val (.ref b1)] [(.ref b1), (.ref a1)])) rfl (by rw [hml]; rfl) (Steps.refl _) (argsL := [(.ref b1)]) (rest := []) (lenOf pd_8_1 rfl) rfl (by show 2 * 0 + _ ≤ _; exact Nat.le_of_eq rfl) (hb hby d8_10) (fun _ _ => ⟨rfl, rfl, (by decide : 2 + 0 ≤ _), (by decide : 20 + 0 ≤ _)⟩)
  dsimp only [Pt.U, Pt.locs, Pt.cells, Pt.slots] at X3 l3 y3 z3 st3 hQ3
  subst l3 y3 z3
  obtain ⟨rfl, N3q, K3, Ex3, Gv3, Gc3, Gn3, Wb3, EXw3, naw3⟩ := hQ3
  have N3 := Fr.app N2 N3q
  replace S_CS := own_sta_keep S_CS K3 (allS ⟨_, E_b1⟩ (allS ⟨_, EXb2⟩ all0))
  replace F_v := F_v.keep K3 (ninS ne_a1_b1 (ninS ne_a1_bb2 nin0))
  replace E_a1 := E_a1.keep K3
  replace E_b1 := E_b1.keep K3
  replace EXb2 := EXb2.keep K3
  replace Zz := Nat.le_trans Zz K3.1
  replace Kp := Kp.trans K3 (allS (Or.inr sz_b1) (allS (Or.inr sz_bb2) all0))
  refine own_step (T' := T3) (f' := (mkF m 13 #[.val (.ref a1), .val (.ref b1)] [])) (fun t k => st3.trans k) ?_
  refine own_step (T' := T3) (f' := (mkF m 14 #[.val (.ref a1), .val (.ref b1)] [(.ref b1)])) (fun t k => XS.aloadN X3.here hx rfl (hb hby d8_13) rfl rfl k) ?_
  obtain ⟨cq4, kq4, q4a, q4b, q4c⟩ := isOf hZ rfl E_b1
  obtain ⟨_, _, ⟨T4, L4, k4, n4⟩, -, X4, ⟨Lc4, hQ4, l4, y4, z4⟩, st4⟩ := X3.virtualBack hx (y := (⟨"java/lang/StringBuilder", "toString", "()Ljava/lang/String;"⟩ : MethodName)) (z := (⟨"java/lang/StringBuilder", "toString", "()Ljava/lang/String;"⟩ : MethodName)) hown (mvT hZ (hw _ (List.mem_of_getElem? (i := 115) rfl))) (mvT hZ (hw _ (List.mem_of_getElem? (i := 116) rfl))) (notFace_of_selects (args := #[]) (mvT hZ (hw _ (List.mem_of_getElem? (i := 118) rfl)))) (mvT hZ (hw _ (List.mem_of_getElem? (i := 118) rfl))) (mvT hZ (hw _ (List.mem_of_getElem? (i := 117) rfl))) (by decide) (backOf (W := 0) (rm17_1 l Z a0 hw [] b1 T3.heap n0 Zz bb2 kk2 ⟨E_b1, Gv3, Gc3, Gn3, Wb3, EXb2, nab2⟩ cs S_CS hcs) hZ (hw _ (List.mem_of_getElem? (i := 119) rfl)) (hw _ (List.mem_of_getElem? (i := 68) rfl)) (by decide) (by decide)) q4a q4c (g := (mkF m 14 #[.val (.ref a1), .val (.ref b1)] [(.ref b1)])) rfl (by rw [hml]; rfl) (Steps.refl _) (argsL := []) (rest := []) (lenOf pd_8_2 rfl) rfl (by show 2 * 0 + _ ≤ _; exact Nat.le_of_eq rfl) (hb hby d8_14) (fun _ _ => ⟨rfl, rfl, (by decide : 2 + 2 ≤ _), (by decide : 20 + 8 ≤ _)⟩)
  dsimp only [Pt.U, Pt.locs, Pt.cells, Pt.slots] at X4 l4 y4 z4 st4 hQ4
  subst l4 y4 z4
  obtain ⟨rr4, rb4, rk4, rfl, N4q, K4, Os4⟩ := hQ4
  have N4 := Fr.app N3 N4q
  replace S_CS := own_sta_keep S_CS K4 all0
  replace F_v := F_v.keep K4 nin0
  replace E_a1 := E_a1.keep K4
  replace E_b1 := E_b1.keep K4
  replace EXb2 := EXb2.keep K4
  replace Gv3 := Gv3.keep K4 nin0
  replace Gc3 := Gc3.keep K4 nin0
  replace Gn3 := Gn3.keep K4 nin0
  replace Wb3 := Wb3.keep K4 nin0
  replace Zz := Nat.le_trans Zz K4.1
  replace Kp := Kp.trans K4 all0
  refine own_step (T' := T4) (f' := (mkF m 17 #[.val (.ref a1), .val (.ref b1)] [(.ref rr4)])) (fun t k => st4.trans k) ?_
  exact own_retO X4 hx hlk Bd.returns rfl (Or.inr (Or.inr (Or.inr (Or.inr ⟨rfl, rfl, rfl⟩)))) (hb hby d8_17) (by decide) (by decide) ⟨rr4, rb4, rk4, rfl, N4, Kp, Os4⟩

theorem d28_0 : decode jdk_43_method_13_code 0 = .ok (.aload_n 0, 1) := by decide +kernel
theorem d28_1 : decode jdk_43_method_13_code 1 = .ok (.arraylength, 1) := by decide +kernel
theorem d28_2 : decode jdk_43_method_13_code 2 = .ok (.aload_n 1, 1) := by decide +kernel
theorem d28_3 : decode jdk_43_method_13_code 3 = .ok (.arraylength, 1) := by decide +kernel
theorem d28_4 : decode jdk_43_method_13_code 4 = .ok (.if_icmp .ne 30, 3) := by decide +kernel
theorem d28_7 : decode jdk_43_method_13_code 7 = .ok (.iconst 0, 1) := by decide +kernel
theorem d28_8 : decode jdk_43_method_13_code 8 = .ok (.istore_n 2, 1) := by decide +kernel
theorem d28_9 : decode jdk_43_method_13_code 9 = .ok (.iload_n 2, 1) := by decide +kernel
theorem d28_10 : decode jdk_43_method_13_code 10 = .ok (.aload_n 0, 1) := by decide +kernel
theorem d28_11 : decode jdk_43_method_13_code 11 = .ok (.arraylength, 1) := by decide +kernel
theorem d28_12 : decode jdk_43_method_13_code 12 = .ok (.if_icmp .ge 20, 3) := by decide +kernel
theorem d28_15 : decode jdk_43_method_13_code 15 = .ok (.aload_n 0, 1) := by decide +kernel
theorem d28_16 : decode jdk_43_method_13_code 16 = .ok (.iload_n 2, 1) := by decide +kernel
theorem d28_17 : decode jdk_43_method_13_code 17 = .ok (.baload, 1) := by decide +kernel
theorem d28_18 : decode jdk_43_method_13_code 18 = .ok (.aload_n 1, 1) := by decide +kernel
theorem d28_19 : decode jdk_43_method_13_code 19 = .ok (.iload_n 2, 1) := by decide +kernel
theorem d28_20 : decode jdk_43_method_13_code 20 = .ok (.baload, 1) := by decide +kernel
theorem d28_21 : decode jdk_43_method_13_code 21 = .ok (.if_icmp .eq 5, 3) := by decide +kernel
theorem d28_26 : decode jdk_43_method_13_code 26 = .ok (.iinc 2 1, 3) := by decide +kernel
theorem d28_29 : decode jdk_43_method_13_code 29 = .ok (.goto (-20), 3) := by decide +kernel
theorem d28_32 : decode jdk_43_method_13_code 32 = .ok (.iconst 1, 1) := by decide +kernel
theorem d28_33 : decode jdk_43_method_13_code 33 = .ok (.ireturn, 1) := by decide +kernel
theorem pn_28 : plainName "java/lang/StringLatin1" = true := by first | (simp [plainName, overriddenIn]; done) | decide +kernel
theorem ef_rm28_1 (m : MethodId) (x0 : Addr) (x1 : Addr) : entryFrame m #[(.ref x0), (.ref x1)] 3 = mkF m 0 #[.val (.ref x0), .val (.ref x1), .unset] [] := by first | (simp [entryFrame, mkF, argsToLocals, Value.category]; done) | rfl
set_option maxRecDepth 65536 in
set_option maxHeartbeats 40000000 in
theorem rm28_1 (l : Launch) (Z : State) (a0 : Array Value) (hw : ∀ d ∈ tables_1, d.before a0 Z = true) (ws : List Jvm.Cond) (a1 : Addr) (a2 : Addr) (h0 : Heap) (n0 : Nat) (Z0 : n0 ≤ h0.size) (k1 k2 : ClassId) (V_a1 : Arv Z h0 a1 k1 .byte (4 : Int32) [(.int (116 : Int32)), (.int (114 : Int32)), (.int (117 : Int32)), (.int (101 : Int32))] (.int (0 : Int32))) (V_a2 : Arv Z h0 a2 k2 .byte (4 : Int32) [(.int (116 : Int32)), (.int (114 : Int32)), (.int (117 : Int32)), (.int (101 : Int32))] (.int (0 : Int32))) :
    MetFree l (⟨"java/lang/StringLatin1", "equals", "([B[B)Z"⟩ : MethodName) (head1 (Jvm.Cond.code (⟨"java/lang/StringLatin1", "equals", "([B[B)Z"⟩ : MethodName) jdk_43_method_13_code 3 (some .boolean) :: ws) ({ frames := 0, cells := 0, slots := 0, locals := 0 } : Room)) (fun a U => a = #[(.ref a1), (.ref a2)] ∧ Z.Warmed39 U.vm ∧ U.heap = h0) (fun _ _ _ _ _ => True) (fun _ U o U' => ∃ v L, o = .returned v ∧ QI 1 h0 n0 v U'.heap L ∧ FrameEnd U o U' L ({ frames := 0, cells := 0, slots := 0, locals := 0 } : Room).cells ({ frames := 0, cells := 0, slots := 0, locals := 0 } : Room).slots) := by
  refine MetFree.of_bodySF (plainFor_of_name pn_28) hisR ?_
  intro p e s m args below meth c s₁ Bd hml0 hP hK
  obtain ⟨rfl, hZ, hh⟩ := hP
  have hx := Bd.exec
  have hby := Bd.bytes
  have hlk : meth.locks = false := BodyLoose.notSynchronized Bd
  have hml : c.maxLocals = 3 := hml0
  have hown : s.vm.findClass "java/lang/StringLatin1" = some m.cls := findClass_of_methodNamed Bd.named
  have hnm := (name_of_methodNamed Bd.named Bd.method).1
  have X0 : Stand p l e ({ frames := 0, cells := 0, slots := 0, locals := 0 } : Room) s m #[(.ref a1), (.ref a2)] below meth c s₁ [] 0 0 := Stand.of_body Bd
  have e0 : s₁.heap = h0 := by rw [← hh, Bd.state]; rfl
  have N0 := Fr.nil n0
  have Zz := Z0
  have Kp : Keep h0 h0 [] := Keep.refl _ _
  show OwnEnds p e below s (QI 1 h0 n0) ({ frames := 0, cells := 0, slots := 0, locals := 0 } : Room).cells ({ frames := 0, cells := 0, slots := 0, locals := 0 } : Room).slots s₁ (entryFrame m #[(.ref a1), (.ref a2)] 3)
  refine own_step (T' := s₁) (f' := (mkF m 0 #[.val (.ref a1), .val (.ref a2), .unset] [])) (fun t k => castTop (ef_rm28_1 m a1 a2) k) ?_
  refine own_step (T' := s₁) (f' := (mkF m 1 #[.val (.ref a1), .val (.ref a2), .unset] [(.ref a1)])) (fun t k => XS.aloadN X0.here hx rfl (hb hby d28_0) rfl rfl k) ?_
  obtain ⟨cl1, Ar1, q1, S1, M1, H1, G1⟩ := id V_a1
  refine own_step (T' := s₁) (f' := (mkF m 2 #[.val (.ref a1), .val (.ref a2), .unset] [(.int (4 : Int32))])) (fun t k => X0.arraylength hx (by rw [e0]; exact Ar1.1) (State.isArrayOf_alike hZ.alike Ar1.2.1) (g := (mkF m 1 #[.val (.ref a1), .val (.ref a2), .unset] [(.ref a1)])) rfl rfl (hb hby d28_1) _ (by rw [len_of S1 M1]; exact k)) ?_
  refine own_step (T' := s₁) (f' := (mkF m 3 #[.val (.ref a1), .val (.ref a2), .unset] [(.ref a2), (.int (4 : Int32))])) (fun t k => XS.aloadN X0.here hx rfl (hb hby d28_2) rfl rfl k) ?_
  obtain ⟨cl2, Ar2, q2, S2, M2, H2, G2⟩ := id V_a2
  refine own_step (T' := s₁) (f' := (mkF m 4 #[.val (.ref a1), .val (.ref a2), .unset] [(.int (4 : Int32)), (.int (4 : Int32))])) (fun t k => X0.arraylength hx (by rw [e0]; exact Ar2.1) (State.isArrayOf_alike hZ.alike Ar2.2.1) (g := (mkF m 3 #[.val (.ref a1), .val (.ref a2), .unset] [(.ref a2), (.int (4 : Int32))])) rfl rfl (hb hby d28_3) _ (by rw [len_of S2 M2]; exact k)) ?_
  refine own_step (T' := s₁) (f' := (mkF m 7 #[.val (.ref a1), .val (.ref a2), .unset] [])) (fun t k => XS.icmpNo X0.here hx rfl (hb hby d28_4) rfl (teq (by decide : (4 : Int32) = (4 : Int32))).2 k) ?_
  refine own_step (T' := s₁) (f' := (mkF m 8 #[.val (.ref a1), .val (.ref a2), .unset] [(.int (0 : Int32))])) (fun t k => XS.iconst X0.here hx rfl (hb hby d28_7) k) ?_
  refine own_step (T' := s₁) (f' := (mkF m 9 #[.val (.ref a1), .val (.ref a2), .val (.int (0 : Int32))] [])) (fun t k => XS.istoreN X0.here hx rfl (hb hby d28_8) rfl (l' := #[.val (.ref a1), .val (.ref a2), .val (.int (0 : Int32))]) rfl k) ?_
  refine own_step (T' := s₁) (f' := (mkF m 10 #[.val (.ref a1), .val (.ref a2), .val (.int (0 : Int32))] [(.int (0 : Int32))])) (fun t k => XS.iloadN X0.here hx rfl (hb hby d28_9) rfl k) ?_
  refine own_step (T' := s₁) (f' := (mkF m 11 #[.val (.ref a1), .val (.ref a2), .val (.int (0 : Int32))] [(.ref a1), (.int (0 : Int32))])) (fun t k => XS.aloadN X0.here hx rfl (hb hby d28_10) rfl rfl k) ?_
  obtain ⟨cl3, Ar3, q3, S3, M3, H3, G3⟩ := id V_a1
  refine own_step (T' := s₁) (f' := (mkF m 12 #[.val (.ref a1), .val (.ref a2), .val (.int (0 : Int32))] [(.int (4 : Int32)), (.int (0 : Int32))])) (fun t k => X0.arraylength hx (by rw [e0]; exact Ar3.1) (State.isArrayOf_alike hZ.alike Ar3.2.1) (g := (mkF m 11 #[.val (.ref a1), .val (.ref a2), .val (.int (0 : Int32))] [(.ref a1), (.int (0 : Int32))])) rfl rfl (hb hby d28_11) _ (by rw [len_of S3 M3]; exact k)) ?_
  refine own_step (T' := s₁) (f' := (mkF m 15 #[.val (.ref a1), .val (.ref a2), .val (.int (0 : Int32))] [])) (fun t k => XS.icmpNo X0.here hx rfl (hb hby d28_12) rfl (tlt (by decide : (0 : Int32) < (4 : Int32))).2.1 k) ?_
  refine own_step (T' := s₁) (f' := (mkF m 16 #[.val (.ref a1), .val (.ref a2), .val (.int (0 : Int32))] [(.ref a1)])) (fun t k => XS.aloadN X0.here hx rfl (hb hby d28_15) rfl rfl k) ?_
  refine own_step (T' := s₁) (f' := (mkF m 17 #[.val (.ref a1), .val (.ref a2), .val (.int (0 : Int32))] [(.int (0 : Int32)), (.ref a1)])) (fun t k => XS.iloadN X0.here hx rfl (hb hby d28_16) rfl k) ?_
  obtain ⟨cl4, Ar4, q4, S4, M4, H4, G4⟩ := id V_a1
  have hin4 : ¬ ((0 : Int32) < 0 ∨ cl4.slots.size ≤ ((0 : Int32)).toNatClampNeg) := inb_of S4 ⟨by decide, by decide⟩
  have hat4 : cl4.slots[((0 : Int32)).toNatClampNeg]? = some (.int (116 : Int32)) := own_at hin4 H4 0 rfl rfl
  refine own_step (T' := s₁) (f' := (mkF m 18 #[.val (.ref a1), .val (.ref a2), .val (.int (0 : Int32))] [(.int (116 : Int32))])) (fun t k => X0.baloadBytes hx (j := (0 : Int32)) (v := (.int (116 : Int32))) (by rw [e0]; exact Ar4.1) (State.isArrayOf_alike hZ.alike Ar4.2.1) Ar4.2.2 hin4 hat4 (g := (mkF m 17 #[.val (.ref a1), .val (.ref a2), .val (.int (0 : Int32))] [(.int (0 : Int32)), (.ref a1)])) rfl rfl (hb hby d28_17) _ k) ?_
  refine own_step (T' := s₁) (f' := (mkF m 19 #[.val (.ref a1), .val (.ref a2), .val (.int (0 : Int32))] [(.ref a2), (.int (116 : Int32))])) (fun t k => XS.aloadN X0.here hx rfl (hb hby d28_18) rfl rfl k) ?_
  refine own_step (T' := s₁) (f' := (mkF m 20 #[.val (.ref a1), .val (.ref a2), .val (.int (0 : Int32))] [(.int (0 : Int32)), (.ref a2), (.int (116 : Int32))])) (fun t k => XS.iloadN X0.here hx rfl (hb hby d28_19) rfl k) ?_
  obtain ⟨cl5, Ar5, q5, S5, M5, H5, G5⟩ := id V_a2
  have hin5 : ¬ ((0 : Int32) < 0 ∨ cl5.slots.size ≤ ((0 : Int32)).toNatClampNeg) := inb_of S5 ⟨by decide, by decide⟩
  have hat5 : cl5.slots[((0 : Int32)).toNatClampNeg]? = some (.int (116 : Int32)) := own_at hin5 H5 0 rfl rfl
  refine own_step (T' := s₁) (f' := (mkF m 21 #[.val (.ref a1), .val (.ref a2), .val (.int (0 : Int32))] [(.int (116 : Int32)), (.int (116 : Int32))])) (fun t k => X0.baloadBytes hx (j := (0 : Int32)) (v := (.int (116 : Int32))) (by rw [e0]; exact Ar5.1) (State.isArrayOf_alike hZ.alike Ar5.2.1) Ar5.2.2 hin5 hat5 (g := (mkF m 20 #[.val (.ref a1), .val (.ref a2), .val (.int (0 : Int32))] [(.int (0 : Int32)), (.ref a2), (.int (116 : Int32))])) rfl rfl (hb hby d28_20) _ k) ?_
  refine own_step (T' := s₁) (f' := (mkF m 26 #[.val (.ref a1), .val (.ref a2), .val (.int (0 : Int32))] [])) (fun t k => XS.icmpYes X0.here hx rfl (pc0 := 21) (pc' := 26) rfl (hb hby d28_21) rfl (teq (by decide : (116 : Int32) = (116 : Int32))).1 (by decide) (by decide) k) ?_
  refine own_step (T' := s₁) (f' := (mkF m 29 #[.val (.ref a1), .val (.ref a2), .val (.int (1 : Int32))] [])) (fun t k => XS.iinc X0.here hx rfl (hb hby d28_26) rfl (l' := #[.val (.ref a1), .val (.ref a2), .val (.int (1 : Int32))]) rfl k) ?_
  refine own_step (T' := s₁) (f' := (mkF m 9 #[.val (.ref a1), .val (.ref a2), .val (.int (1 : Int32))] [])) (fun t k => XS.goto X0.here hx rfl (pc0 := 29) (pc' := 9) rfl (hb hby d28_29) (by decide) (by decide) k) ?_
  refine own_step (T' := s₁) (f' := (mkF m 10 #[.val (.ref a1), .val (.ref a2), .val (.int (1 : Int32))] [(.int (1 : Int32))])) (fun t k => XS.iloadN X0.here hx rfl (hb hby d28_9) rfl k) ?_
  refine own_step (T' := s₁) (f' := (mkF m 11 #[.val (.ref a1), .val (.ref a2), .val (.int (1 : Int32))] [(.ref a1), (.int (1 : Int32))])) (fun t k => XS.aloadN X0.here hx rfl (hb hby d28_10) rfl rfl k) ?_
  obtain ⟨cl6, Ar6, q6, S6, M6, H6, G6⟩ := id V_a1
  refine own_step (T' := s₁) (f' := (mkF m 12 #[.val (.ref a1), .val (.ref a2), .val (.int (1 : Int32))] [(.int (4 : Int32)), (.int (1 : Int32))])) (fun t k => X0.arraylength hx (by rw [e0]; exact Ar6.1) (State.isArrayOf_alike hZ.alike Ar6.2.1) (g := (mkF m 11 #[.val (.ref a1), .val (.ref a2), .val (.int (1 : Int32))] [(.ref a1), (.int (1 : Int32))])) rfl rfl (hb hby d28_11) _ (by rw [len_of S6 M6]; exact k)) ?_
  refine own_step (T' := s₁) (f' := (mkF m 15 #[.val (.ref a1), .val (.ref a2), .val (.int (1 : Int32))] [])) (fun t k => XS.icmpNo X0.here hx rfl (hb hby d28_12) rfl (tlt (by decide : (1 : Int32) < (4 : Int32))).2.1 k) ?_
  refine own_step (T' := s₁) (f' := (mkF m 16 #[.val (.ref a1), .val (.ref a2), .val (.int (1 : Int32))] [(.ref a1)])) (fun t k => XS.aloadN X0.here hx rfl (hb hby d28_15) rfl rfl k) ?_
  refine own_step (T' := s₁) (f' := (mkF m 17 #[.val (.ref a1), .val (.ref a2), .val (.int (1 : Int32))] [(.int (1 : Int32)), (.ref a1)])) (fun t k => XS.iloadN X0.here hx rfl (hb hby d28_16) rfl k) ?_
  obtain ⟨cl7, Ar7, q7, S7, M7, H7, G7⟩ := id V_a1
  have hin7 : ¬ ((1 : Int32) < 0 ∨ cl7.slots.size ≤ ((1 : Int32)).toNatClampNeg) := inb_of S7 ⟨by decide, by decide⟩
  have hat7 : cl7.slots[((1 : Int32)).toNatClampNeg]? = some (.int (114 : Int32)) := own_at hin7 H7 1 rfl rfl
  refine own_step (T' := s₁) (f' := (mkF m 18 #[.val (.ref a1), .val (.ref a2), .val (.int (1 : Int32))] [(.int (114 : Int32))])) (fun t k => X0.baloadBytes hx (j := (1 : Int32)) (v := (.int (114 : Int32))) (by rw [e0]; exact Ar7.1) (State.isArrayOf_alike hZ.alike Ar7.2.1) Ar7.2.2 hin7 hat7 (g := (mkF m 17 #[.val (.ref a1), .val (.ref a2), .val (.int (1 : Int32))] [(.int (1 : Int32)), (.ref a1)])) rfl rfl (hb hby d28_17) _ k) ?_
  refine own_step (T' := s₁) (f' := (mkF m 19 #[.val (.ref a1), .val (.ref a2), .val (.int (1 : Int32))] [(.ref a2), (.int (114 : Int32))])) (fun t k => XS.aloadN X0.here hx rfl (hb hby d28_18) rfl rfl k) ?_
  refine own_step (T' := s₁) (f' := (mkF m 20 #[.val (.ref a1), .val (.ref a2), .val (.int (1 : Int32))] [(.int (1 : Int32)), (.ref a2), (.int (114 : Int32))])) (fun t k => XS.iloadN X0.here hx rfl (hb hby d28_19) rfl k) ?_
  obtain ⟨cl8, Ar8, q8, S8, M8, H8, G8⟩ := id V_a2
  have hin8 : ¬ ((1 : Int32) < 0 ∨ cl8.slots.size ≤ ((1 : Int32)).toNatClampNeg) := inb_of S8 ⟨by decide, by decide⟩
  have hat8 : cl8.slots[((1 : Int32)).toNatClampNeg]? = some (.int (114 : Int32)) := own_at hin8 H8 1 rfl rfl
  refine own_step (T' := s₁) (f' := (mkF m 21 #[.val (.ref a1), .val (.ref a2), .val (.int (1 : Int32))] [(.int (114 : Int32)), (.int (114 : Int32))])) (fun t k => X0.baloadBytes hx (j := (1 : Int32)) (v := (.int (114 : Int32))) (by rw [e0]; exact Ar8.1) (State.isArrayOf_alike hZ.alike Ar8.2.1) Ar8.2.2 hin8 hat8 (g := (mkF m 20 #[.val (.ref a1), .val (.ref a2), .val (.int (1 : Int32))] [(.int (1 : Int32)), (.ref a2), (.int (114 : Int32))])) rfl rfl (hb hby d28_20) _ k) ?_
  refine own_step (T' := s₁) (f' := (mkF m 26 #[.val (.ref a1), .val (.ref a2), .val (.int (1 : Int32))] [])) (fun t k => XS.icmpYes X0.here hx rfl (pc0 := 21) (pc' := 26) rfl (hb hby d28_21) rfl (teq (by decide : (114 : Int32) = (114 : Int32))).1 (by decide) (by decide) k) ?_
  refine own_step (T' := s₁) (f' := (mkF m 29 #[.val (.ref a1), .val (.ref a2), .val (.int (2 : Int32))] [])) (fun t k => XS.iinc X0.here hx rfl (hb hby d28_26) rfl (l' := #[.val (.ref a1), .val (.ref a2), .val (.int (2 : Int32))]) rfl k) ?_
  refine own_step (T' := s₁) (f' := (mkF m 9 #[.val (.ref a1), .val (.ref a2), .val (.int (2 : Int32))] [])) (fun t k => XS.goto X0.here hx rfl (pc0 := 29) (pc' := 9) rfl (hb hby d28_29) (by decide) (by decide) k) ?_
  refine own_step (T' := s₁) (f' := (mkF m 10 #[.val (.ref a1), .val (.ref a2), .val (.int (2 : Int32))] [(.int (2 : Int32))])) (fun t k => XS.iloadN X0.here hx rfl (hb hby d28_9) rfl k) ?_
  refine own_step (T' := s₁) (f' := (mkF m 11 #[.val (.ref a1), .val (.ref a2), .val (.int (2 : Int32))] [(.ref a1), (.int (2 : Int32))])) (fun t k => XS.aloadN X0.here hx rfl (hb hby d28_10) rfl rfl k) ?_
  obtain ⟨cl9, Ar9, q9, S9, M9, H9, G9⟩ := id V_a1
  refine own_step (T' := s₁) (f' := (mkF m 12 #[.val (.ref a1), .val (.ref a2), .val (.int (2 : Int32))] [(.int (4 : Int32)), (.int (2 : Int32))])) (fun t k => X0.arraylength hx (by rw [e0]; exact Ar9.1) (State.isArrayOf_alike hZ.alike Ar9.2.1) (g := (mkF m 11 #[.val (.ref a1), .val (.ref a2), .val (.int (2 : Int32))] [(.ref a1), (.int (2 : Int32))])) rfl rfl (hb hby d28_11) _ (by rw [len_of S9 M9]; exact k)) ?_
  refine own_step (T' := s₁) (f' := (mkF m 15 #[.val (.ref a1), .val (.ref a2), .val (.int (2 : Int32))] [])) (fun t k => XS.icmpNo X0.here hx rfl (hb hby d28_12) rfl (tlt (by decide : (2 : Int32) < (4 : Int32))).2.1 k) ?_
  refine own_step (T' := s₁) (f' := (mkF m 16 #[.val (.ref a1), .val (.ref a2), .val (.int (2 : Int32))] [(.ref a1)])) (fun t k => XS.aloadN X0.here hx rfl (hb hby d28_15) rfl rfl k) ?_
  refine own_step (T' := s₁) (f' := (mkF m 17 #[.val (.ref a1), .val (.ref a2), .val (.int (2 : Int32))] [(.int (2 : Int32)), (.ref a1)])) (fun t k => XS.iloadN X0.here hx rfl (hb hby d28_16) rfl k) ?_
  obtain ⟨cl10, Ar10, q10, S10, M10, H10, G10⟩ := id V_a1
  have hin10 : ¬ ((2 : Int32) < 0 ∨ cl10.slots.size ≤ ((2 : Int32)).toNatClampNeg) := inb_of S10 ⟨by decide, by decide⟩
  have hat10 : cl10.slots[((2 : Int32)).toNatClampNeg]? = some (.int (117 : Int32)) := own_at hin10 H10 2 rfl rfl
  refine own_step (T' := s₁) (f' := (mkF m 18 #[.val (.ref a1), .val (.ref a2), .val (.int (2 : Int32))] [(.int (117 : Int32))])) (fun t k => X0.baloadBytes hx (j := (2 : Int32)) (v := (.int (117 : Int32))) (by rw [e0]; exact Ar10.1) (State.isArrayOf_alike hZ.alike Ar10.2.1) Ar10.2.2 hin10 hat10 (g := (mkF m 17 #[.val (.ref a1), .val (.ref a2), .val (.int (2 : Int32))] [(.int (2 : Int32)), (.ref a1)])) rfl rfl (hb hby d28_17) _ k) ?_
  refine own_step (T' := s₁) (f' := (mkF m 19 #[.val (.ref a1), .val (.ref a2), .val (.int (2 : Int32))] [(.ref a2), (.int (117 : Int32))])) (fun t k => XS.aloadN X0.here hx rfl (hb hby d28_18) rfl rfl k) ?_
  refine own_step (T' := s₁) (f' := (mkF m 20 #[.val (.ref a1), .val (.ref a2), .val (.int (2 : Int32))] [(.int (2 : Int32)), (.ref a2), (.int (117 : Int32))])) (fun t k => XS.iloadN X0.here hx rfl (hb hby d28_19) rfl k) ?_
  obtain ⟨cl11, Ar11, q11, S11, M11, H11, G11⟩ := id V_a2
  have hin11 : ¬ ((2 : Int32) < 0 ∨ cl11.slots.size ≤ ((2 : Int32)).toNatClampNeg) := inb_of S11 ⟨by decide, by decide⟩
  have hat11 : cl11.slots[((2 : Int32)).toNatClampNeg]? = some (.int (117 : Int32)) := own_at hin11 H11 2 rfl rfl
  refine own_step (T' := s₁) (f' := (mkF m 21 #[.val (.ref a1), .val (.ref a2), .val (.int (2 : Int32))] [(.int (117 : Int32)), (.int (117 : Int32))])) (fun t k => X0.baloadBytes hx (j := (2 : Int32)) (v := (.int (117 : Int32))) (by rw [e0]; exact Ar11.1) (State.isArrayOf_alike hZ.alike Ar11.2.1) Ar11.2.2 hin11 hat11 (g := (mkF m 20 #[.val (.ref a1), .val (.ref a2), .val (.int (2 : Int32))] [(.int (2 : Int32)), (.ref a2), (.int (117 : Int32))])) rfl rfl (hb hby d28_20) _ k) ?_
  refine own_step (T' := s₁) (f' := (mkF m 26 #[.val (.ref a1), .val (.ref a2), .val (.int (2 : Int32))] [])) (fun t k => XS.icmpYes X0.here hx rfl (pc0 := 21) (pc' := 26) rfl (hb hby d28_21) rfl (teq (by decide : (117 : Int32) = (117 : Int32))).1 (by decide) (by decide) k) ?_
  refine own_step (T' := s₁) (f' := (mkF m 29 #[.val (.ref a1), .val (.ref a2), .val (.int (3 : Int32))] [])) (fun t k => XS.iinc X0.here hx rfl (hb hby d28_26) rfl (l' := #[.val (.ref a1), .val (.ref a2), .val (.int (3 : Int32))]) rfl k) ?_
  refine own_step (T' := s₁) (f' := (mkF m 9 #[.val (.ref a1), .val (.ref a2), .val (.int (3 : Int32))] [])) (fun t k => XS.goto X0.here hx rfl (pc0 := 29) (pc' := 9) rfl (hb hby d28_29) (by decide) (by decide) k) ?_
  refine own_step (T' := s₁) (f' := (mkF m 10 #[.val (.ref a1), .val (.ref a2), .val (.int (3 : Int32))] [(.int (3 : Int32))])) (fun t k => XS.iloadN X0.here hx rfl (hb hby d28_9) rfl k) ?_
  refine own_step (T' := s₁) (f' := (mkF m 11 #[.val (.ref a1), .val (.ref a2), .val (.int (3 : Int32))] [(.ref a1), (.int (3 : Int32))])) (fun t k => XS.aloadN X0.here hx rfl (hb hby d28_10) rfl rfl k) ?_
  obtain ⟨cl12, Ar12, q12, S12, M12, H12, G12⟩ := id V_a1
  refine own_step (T' := s₁) (f' := (mkF m 12 #[.val (.ref a1), .val (.ref a2), .val (.int (3 : Int32))] [(.int (4 : Int32)), (.int (3 : Int32))])) (fun t k => X0.arraylength hx (by rw [e0]; exact Ar12.1) (State.isArrayOf_alike hZ.alike Ar12.2.1) (g := (mkF m 11 #[.val (.ref a1), .val (.ref a2), .val (.int (3 : Int32))] [(.ref a1), (.int (3 : Int32))])) rfl rfl (hb hby d28_11) _ (by rw [len_of S12 M12]; exact k)) ?_
  refine own_step (T' := s₁) (f' := (mkF m 15 #[.val (.ref a1), .val (.ref a2), .val (.int (3 : Int32))] [])) (fun t k => XS.icmpNo X0.here hx rfl (hb hby d28_12) rfl (tlt (by decide : (3 : Int32) < (4 : Int32))).2.1 k) ?_
  refine own_step (T' := s₁) (f' := (mkF m 16 #[.val (.ref a1), .val (.ref a2), .val (.int (3 : Int32))] [(.ref a1)])) (fun t k => XS.aloadN X0.here hx rfl (hb hby d28_15) rfl rfl k) ?_
  refine own_step (T' := s₁) (f' := (mkF m 17 #[.val (.ref a1), .val (.ref a2), .val (.int (3 : Int32))] [(.int (3 : Int32)), (.ref a1)])) (fun t k => XS.iloadN X0.here hx rfl (hb hby d28_16) rfl k) ?_
  obtain ⟨cl13, Ar13, q13, S13, M13, H13, G13⟩ := id V_a1
  have hin13 : ¬ ((3 : Int32) < 0 ∨ cl13.slots.size ≤ ((3 : Int32)).toNatClampNeg) := inb_of S13 ⟨by decide, by decide⟩
  have hat13 : cl13.slots[((3 : Int32)).toNatClampNeg]? = some (.int (101 : Int32)) := own_at hin13 H13 3 rfl rfl
  refine own_step (T' := s₁) (f' := (mkF m 18 #[.val (.ref a1), .val (.ref a2), .val (.int (3 : Int32))] [(.int (101 : Int32))])) (fun t k => X0.baloadBytes hx (j := (3 : Int32)) (v := (.int (101 : Int32))) (by rw [e0]; exact Ar13.1) (State.isArrayOf_alike hZ.alike Ar13.2.1) Ar13.2.2 hin13 hat13 (g := (mkF m 17 #[.val (.ref a1), .val (.ref a2), .val (.int (3 : Int32))] [(.int (3 : Int32)), (.ref a1)])) rfl rfl (hb hby d28_17) _ k) ?_
  refine own_step (T' := s₁) (f' := (mkF m 19 #[.val (.ref a1), .val (.ref a2), .val (.int (3 : Int32))] [(.ref a2), (.int (101 : Int32))])) (fun t k => XS.aloadN X0.here hx rfl (hb hby d28_18) rfl rfl k) ?_
  refine own_step (T' := s₁) (f' := (mkF m 20 #[.val (.ref a1), .val (.ref a2), .val (.int (3 : Int32))] [(.int (3 : Int32)), (.ref a2), (.int (101 : Int32))])) (fun t k => XS.iloadN X0.here hx rfl (hb hby d28_19) rfl k) ?_
  obtain ⟨cl14, Ar14, q14, S14, M14, H14, G14⟩ := id V_a2
  have hin14 : ¬ ((3 : Int32) < 0 ∨ cl14.slots.size ≤ ((3 : Int32)).toNatClampNeg) := inb_of S14 ⟨by decide, by decide⟩
  have hat14 : cl14.slots[((3 : Int32)).toNatClampNeg]? = some (.int (101 : Int32)) := own_at hin14 H14 3 rfl rfl
  refine own_step (T' := s₁) (f' := (mkF m 21 #[.val (.ref a1), .val (.ref a2), .val (.int (3 : Int32))] [(.int (101 : Int32)), (.int (101 : Int32))])) (fun t k => X0.baloadBytes hx (j := (3 : Int32)) (v := (.int (101 : Int32))) (by rw [e0]; exact Ar14.1) (State.isArrayOf_alike hZ.alike Ar14.2.1) Ar14.2.2 hin14 hat14 (g := (mkF m 20 #[.val (.ref a1), .val (.ref a2), .val (.int (3 : Int32))] [(.int (3 : Int32)), (.ref a2), (.int (101 : Int32))])) rfl rfl (hb hby d28_20) _ k) ?_
  refine own_step (T' := s₁) (f' := (mkF m 26 #[.val (.ref a1), .val (.ref a2), .val (.int (3 : Int32))] [])) (fun t k => XS.icmpYes X0.here hx rfl (pc0 := 21) (pc' := 26) rfl (hb hby d28_21) rfl (teq (by decide : (101 : Int32) = (101 : Int32))).1 (by decide) (by decide) k) ?_
  refine own_step (T' := s₁) (f' := (mkF m 29 #[.val (.ref a1), .val (.ref a2), .val (.int (4 : Int32))] [])) (fun t k => XS.iinc X0.here hx rfl (hb hby d28_26) rfl (l' := #[.val (.ref a1), .val (.ref a2), .val (.int (4 : Int32))]) rfl k) ?_
  refine own_step (T' := s₁) (f' := (mkF m 9 #[.val (.ref a1), .val (.ref a2), .val (.int (4 : Int32))] [])) (fun t k => XS.goto X0.here hx rfl (pc0 := 29) (pc' := 9) rfl (hb hby d28_29) (by decide) (by decide) k) ?_
  refine own_step (T' := s₁) (f' := (mkF m 10 #[.val (.ref a1), .val (.ref a2), .val (.int (4 : Int32))] [(.int (4 : Int32))])) (fun t k => XS.iloadN X0.here hx rfl (hb hby d28_9) rfl k) ?_
  refine own_step (T' := s₁) (f' := (mkF m 11 #[.val (.ref a1), .val (.ref a2), .val (.int (4 : Int32))] [(.ref a1), (.int (4 : Int32))])) (fun t k => XS.aloadN X0.here hx rfl (hb hby d28_10) rfl rfl k) ?_
  obtain ⟨cl15, Ar15, q15, S15, M15, H15, G15⟩ := id V_a1
  refine own_step (T' := s₁) (f' := (mkF m 12 #[.val (.ref a1), .val (.ref a2), .val (.int (4 : Int32))] [(.int (4 : Int32)), (.int (4 : Int32))])) (fun t k => X0.arraylength hx (by rw [e0]; exact Ar15.1) (State.isArrayOf_alike hZ.alike Ar15.2.1) (g := (mkF m 11 #[.val (.ref a1), .val (.ref a2), .val (.int (4 : Int32))] [(.ref a1), (.int (4 : Int32))])) rfl rfl (hb hby d28_11) _ (by rw [len_of S15 M15]; exact k)) ?_
  refine own_step (T' := s₁) (f' := (mkF m 32 #[.val (.ref a1), .val (.ref a2), .val (.int (4 : Int32))] [])) (fun t k => XS.icmpYes X0.here hx rfl (pc0 := 12) (pc' := 32) rfl (hb hby d28_12) rfl (flt (by decide : ¬ ((4 : Int32) < (4 : Int32)))).2.1 (by decide) (by decide) k) ?_
  refine own_step (T' := s₁) (f' := (mkF m 33 #[.val (.ref a1), .val (.ref a2), .val (.int (4 : Int32))] [(.int (1 : Int32))])) (fun t k => XS.iconst X0.here hx rfl (hb hby d28_32) k) ?_
  exact own_retN X0 hx hlk (t := .boolean) Bd.returns (by simp) (hb hby d28_33) (by decide) (by decide) ⟨rfl, N0, e0⟩

theorem d27_0 : decode jdk_42_method_66_code 0 = .ok (.aload_n 0, 1) := by decide +kernel
theorem d27_1 : decode jdk_42_method_66_code 1 = .ok (.aload_n 1, 1) := by decide +kernel
theorem d27_2 : decode jdk_42_method_66_code 2 = .ok (.if_acmp .ne 5, 3) := by decide +kernel
theorem d27_5 : decode jdk_42_method_66_code 5 = .ok (.iconst 1, 1) := by decide +kernel
theorem d27_6 : decode jdk_42_method_66_code 6 = .ok (.ireturn, 1) := by decide +kernel
theorem d27_7 : decode jdk_42_method_66_code 7 = .ok (.aload_n 1, 1) := by decide +kernel
theorem d27_8 : decode jdk_42_method_66_code 8 = .ok (.instanceof 10, 3) := by decide +kernel
theorem d27_11 : decode jdk_42_method_66_code 11 = .ok (.ifCond .eq 43, 3) := by decide +kernel
theorem d27_14 : decode jdk_42_method_66_code 14 = .ok (.aload_n 1, 1) := by decide +kernel
theorem d27_15 : decode jdk_42_method_66_code 15 = .ok (.checkcast 10, 3) := by decide +kernel
theorem d27_18 : decode jdk_42_method_66_code 18 = .ok (.astore_n 2, 1) := by decide +kernel
theorem d27_19 : decode jdk_42_method_66_code 19 = .ok (.getstatic 38, 3) := by decide +kernel
theorem d27_22 : decode jdk_42_method_66_code 22 = .ok (.ifCond .eq 14, 3) := by decide +kernel
theorem d27_25 : decode jdk_42_method_66_code 25 = .ok (.aload_n 0, 1) := by decide +kernel
theorem d27_26 : decode jdk_42_method_66_code 26 = .ok (.getfield 15, 3) := by decide +kernel
theorem d27_29 : decode jdk_42_method_66_code 29 = .ok (.aload_n 2, 1) := by decide +kernel
theorem d27_30 : decode jdk_42_method_66_code 30 = .ok (.getfield 15, 3) := by decide +kernel
theorem d27_33 : decode jdk_42_method_66_code 33 = .ok (.if_icmp .ne 21, 3) := by decide +kernel
theorem d27_36 : decode jdk_42_method_66_code 36 = .ok (.aload_n 0, 1) := by decide +kernel
theorem d27_37 : decode jdk_42_method_66_code 37 = .ok (.getfield 9, 3) := by decide +kernel
theorem d27_40 : decode jdk_42_method_66_code 40 = .ok (.aload_n 2, 1) := by decide +kernel
theorem d27_41 : decode jdk_42_method_66_code 41 = .ok (.getfield 9, 3) := by decide +kernel
theorem d27_44 : decode jdk_42_method_66_code 44 = .ok (.invokestatic 541, 3) := by decide +kernel
theorem d27_47 : decode jdk_42_method_66_code 47 = .ok (.ifCond .eq 7, 3) := by decide +kernel
theorem d27_50 : decode jdk_42_method_66_code 50 = .ok (.iconst 1, 1) := by decide +kernel
theorem d27_51 : decode jdk_42_method_66_code 51 = .ok (.goto 4, 3) := by decide +kernel
theorem d27_55 : decode jdk_42_method_66_code 55 = .ok (.ireturn, 1) := by decide +kernel
theorem pn_27 : plainName "java/lang/String" = true := by first | (simp [plainName, overriddenIn]; done) | decide +kernel
theorem pd_27_0 : parseMethodDescriptor "([B[B)Z" = some ⟨[(.array .byte), (.array .byte)], some .boolean⟩ := by decide +kernel
theorem ef_rm27_1 (m : MethodId) (x0 : Addr) (x1 : Addr) : entryFrame m #[(.ref x0), (.ref x1)] 3 = mkF m 0 #[.val (.ref x0), .val (.ref x1), .unset] [] := by first | (simp [entryFrame, mkF, argsToLocals, Value.category]; done) | rfl
set_option maxRecDepth 65536 in
set_option maxHeartbeats 40000000 in
theorem rm27_1 (l : Launch) (Z : State) (a0 : Array Value) (hw : ∀ d ∈ tables_1, d.before a0 Z = true) (ws : List Jvm.Cond) (a1 : Addr) (a2 : Addr) (h0 : Heap) (n0 : Nat) (Z0 : n0 ≤ h0.size) (b1 b2 : Addr) (k1 k2 : ClassId) (O1 : OwnStr Z h0 a1 b1 k1 4 [(.int (116 : Int32)), (.int (114 : Int32)), (.int (117 : Int32)), (.int (101 : Int32))]) (O2 : OwnStr Z h0 a2 b2 k2 4 [(.int (116 : Int32)), (.int (114 : Int32)), (.int (117 : Int32)), (.int (101 : Int32))]) (cs : Int32) (S_CS : Sta Z h0 "java/lang/String" "COMPACT_STRINGS" "Z" (.int cs)) (hcs : ¬ cs = (0 : Int32)) :
    MetFree l (⟨"java/lang/String", "equals", "(Ljava/lang/Object;)Z"⟩ : MethodName) (head1 (Jvm.Cond.code (⟨"java/lang/String", "equals", "(Ljava/lang/Object;)Z"⟩ : MethodName) jdk_42_method_66_code 3 (some .boolean) :: ws) ({ frames := 1, cells := 0, slots := 0, locals := 14 } : Room)) (fun a U => a = #[(.ref a1), (.ref a2)] ∧ Z.Warmed39 U.vm ∧ U.heap = h0) (fun _ _ _ _ _ => True) (fun _ U o U' => ∃ v L, o = .returned v ∧ QI 1 h0 n0 v U'.heap L ∧ FrameEnd U o U' L ({ frames := 1, cells := 0, slots := 0, locals := 14 } : Room).cells ({ frames := 1, cells := 0, slots := 0, locals := 14 } : Room).slots) := by
  refine MetFree.of_bodySF (plainFor_of_name pn_27) hisR ?_
  intro p e s m args below meth c s₁ Bd hml0 hP hK
  obtain ⟨rfl, hZ, hh⟩ := hP
  have hx := Bd.exec
  have hby := Bd.bytes
  have hlk : meth.locks = false := BodyLoose.notSynchronized Bd
  have hml : c.maxLocals = 3 := hml0
  have hown : s.vm.findClass "java/lang/String" = some m.cls := findClass_of_methodNamed Bd.named
  have hnm := (name_of_methodNamed Bd.named Bd.method).1
  have X0 : Stand p l e ({ frames := 1, cells := 0, slots := 0, locals := 14 } : Room) s m #[(.ref a1), (.ref a2)] below meth c s₁ [] 0 0 := Stand.of_body Bd
  have e0 : s₁.heap = h0 := by rw [← hh, Bd.state]; rfl
  have N0 := Fr.nil n0
  show OwnEnds p e below s (QI 1 h0 n0) ({ frames := 1, cells := 0, slots := 0, locals := 14 } : Room).cells ({ frames := 1, cells := 0, slots := 0, locals := 14 } : Room).slots s₁ (entryFrame m #[(.ref a1), (.ref a2)] 3)
  refine own_step (T' := s₁) (f' := (mkF m 0 #[.val (.ref a1), .val (.ref a2), .unset] [])) (fun t k => castTop (ef_rm27_1 m a1 a2) k) ?_
  refine own_step (T' := s₁) (f' := (mkF m 1 #[.val (.ref a1), .val (.ref a2), .unset] [(.ref a1)])) (fun t k => XS.aloadN X0.here hx rfl (hb hby d27_0) rfl rfl k) ?_
  refine own_step (T' := s₁) (f' := (mkF m 2 #[.val (.ref a1), .val (.ref a2), .unset] [(.ref a2), (.ref a1)])) (fun t k => XS.aloadN X0.here hx rfl (hb hby d27_1) rfl rfl k) ?_
  by_cases hc2_1 : a1 = a2
  · skip
    refine own_step (T' := s₁) (f' := (mkF m 5 #[.val (.ref a1), .val (.ref a2), .unset] [])) (fun t k => Jvm.RoadKit.acmp (g := (mkF m 2 #[.val (.ref a1), .val (.ref a2), .unset] [(.ref a2), (.ref a1)])) X0 hx rfl rfl rfl (pc0 := 2) (pc' := 5) (same := true) rfl (hb hby d27_2) rfl (decide_eq_true (congrArg Value.ref hc2_1)) (by decide) (by decide) k) ?_
    refine own_step (T' := s₁) (f' := (mkF m 6 #[.val (.ref a1), .val (.ref a2), .unset] [(.int (1 : Int32))])) (fun t k => XS.iconst X0.here hx rfl (hb hby d27_5) k) ?_
    exact own_retN X0 hx hlk (t := .boolean) Bd.returns (by simp) (hb hby d27_6) (by decide) (by decide) ⟨rfl, N0, e0⟩
  · skip
    refine own_step (T' := s₁) (f' := (mkF m 7 #[.val (.ref a1), .val (.ref a2), .unset] [])) (fun t k => Jvm.RoadKit.acmp (g := (mkF m 2 #[.val (.ref a1), .val (.ref a2), .unset] [(.ref a2), (.ref a1)])) X0 hx rfl rfl rfl (pc0 := 2) (pc' := 7) (same := false) rfl (hb hby d27_2) rfl (decide_eq_false fun q => hc2_1 (Value.ref.inj q)) (by decide) (by decide) k) ?_
    refine own_step (T' := s₁) (f' := (mkF m 8 #[.val (.ref a1), .val (.ref a2), .unset] [(.ref a2)])) (fun t k => XS.aloadN X0.here hx rfl (hb hby d27_7) rfl rfl k) ?_
    obtain ⟨T2, X2, e2, st2⟩ := instY X0 hx hZ hown (hw _ (List.mem_of_getElem? (i := 174) rfl)) e0 (Ins.self O2.1) (g := (mkF m 8 #[.val (.ref a1), .val (.ref a2), .unset] [(.ref a2)])) rfl rfl (hb hby d27_8)
    refine own_step (T' := T2) (f' := (mkF m 11 #[.val (.ref a1), .val (.ref a2), .unset] [(.int (1 : Int32))])) (fun t k => st2 t k) ?_
    refine own_step (T' := T2) (f' := (mkF m 14 #[.val (.ref a1), .val (.ref a2), .unset] [])) (fun t k => XS.ifNo X2.here hx rfl (hb hby d27_11) rfl ((if0 _ _).trans (feq (by decide : ¬ ((1 : Int32) = (0 : Int32)))).1) k) ?_
    refine own_step (T' := T2) (f' := (mkF m 15 #[.val (.ref a1), .val (.ref a2), .unset] [(.ref a2)])) (fun t k => XS.aloadN X2.here hx rfl (hb hby d27_14) rfl rfl k) ?_
    obtain ⟨T3, X3, e3, st3⟩ := castY X2 hx hZ hown (hw _ (List.mem_of_getElem? (i := 174) rfl)) e2 (Ins.self O2.1) (g := (mkF m 15 #[.val (.ref a1), .val (.ref a2), .unset] [(.ref a2)])) rfl rfl (hb hby d27_15)
    refine own_step (T' := T3) (f' := (mkF m 18 #[.val (.ref a1), .val (.ref a2), .unset] [(.ref a2)])) (fun t k => st3 t k) ?_
    refine own_step (T' := T3) (f' := (mkF m 19 #[.val (.ref a1), .val (.ref a2), .val (.ref a2)] [])) (fun t k => XS.astoreN X3.here hx rfl (hb hby d27_18) rfl rfl (l' := #[.val (.ref a1), .val (.ref a2), .val (.ref a2)]) rfl k) ?_
    obtain ⟨T4, X4, e4, st4⟩ := getS2 X3 hx hZ hown (host := "") (Or.inl (hw _ (List.mem_of_getElem? (i := 175) rfl))) Via.refl e3 S_CS (g := (mkF m 19 #[.val (.ref a1), .val (.ref a2), .val (.ref a2)] [])) rfl (hb hby d27_19)
    refine own_step (T' := T4) (f' := (mkF m 22 #[.val (.ref a1), .val (.ref a2), .val (.ref a2)] [(.int cs)])) (fun t k => st4 t k) ?_
    refine own_step (T' := T4) (f' := (mkF m 25 #[.val (.ref a1), .val (.ref a2), .val (.ref a2)] [])) (fun t k => XS.ifNo X4.here hx rfl (hb hby d27_22) rfl ((if0 _ _).trans (feq hcs).1) k) ?_
    refine own_step (T' := T4) (f' := (mkF m 26 #[.val (.ref a1), .val (.ref a2), .val (.ref a2)] [(.ref a1)])) (fun t k => XS.aloadN X4.here hx rfl (hb hby d27_25) rfl rfl k) ?_
    obtain ⟨T5, X5, e5, st5⟩ := getF X4 hx hZ hown (host := "") (Or.inl (hw _ (List.mem_of_getElem? (i := 144) rfl))) Via.refl e4 O1.2.1 (g := (mkF m 26 #[.val (.ref a1), .val (.ref a2), .val (.ref a2)] [(.ref a1)])) rfl rfl (hb hby d27_26)
    refine own_step (T' := T5) (f' := (mkF m 29 #[.val (.ref a1), .val (.ref a2), .val (.ref a2)] [(.int (0 : Int32))])) (fun t k => st5 t k) ?_
    refine own_step (T' := T5) (f' := (mkF m 30 #[.val (.ref a1), .val (.ref a2), .val (.ref a2)] [(.ref a2), (.int (0 : Int32))])) (fun t k => XS.aloadN X5.here hx rfl (hb hby d27_29) rfl rfl k) ?_
    obtain ⟨T6, X6, e6, st6⟩ := getF X5 hx hZ hown (host := "") (Or.inl (hw _ (List.mem_of_getElem? (i := 144) rfl))) Via.refl e5 O2.2.1 (g := (mkF m 30 #[.val (.ref a1), .val (.ref a2), .val (.ref a2)] [(.ref a2), (.int (0 : Int32))])) rfl rfl (hb hby d27_30)
    refine own_step (T' := T6) (f' := (mkF m 33 #[.val (.ref a1), .val (.ref a2), .val (.ref a2)] [(.int (0 : Int32)), (.int (0 : Int32))])) (fun t k => st6 t k) ?_
    refine own_step (T' := T6) (f' := (mkF m 36 #[.val (.ref a1), .val (.ref a2), .val (.ref a2)] [])) (fun t k => XS.icmpNo X6.here hx rfl (hb hby d27_33) rfl (teq (by decide : (0 : Int32) = (0 : Int32))).2 k) ?_
    refine own_step (T' := T6) (f' := (mkF m 37 #[.val (.ref a1), .val (.ref a2), .val (.ref a2)] [(.ref a1)])) (fun t k => XS.aloadN X6.here hx rfl (hb hby d27_36) rfl rfl k) ?_
    obtain ⟨T7, X7, e7, st7⟩ := getF X6 hx hZ hown (host := "") (Or.inl (hw _ (List.mem_of_getElem? (i := 164) rfl))) Via.refl e6 O1.2.2.1 (g := (mkF m 37 #[.val (.ref a1), .val (.ref a2), .val (.ref a2)] [(.ref a1)])) rfl rfl (hb hby d27_37)
    refine own_step (T' := T7) (f' := (mkF m 40 #[.val (.ref a1), .val (.ref a2), .val (.ref a2)] [(.ref b1)])) (fun t k => st7 t k) ?_
    refine own_step (T' := T7) (f' := (mkF m 41 #[.val (.ref a1), .val (.ref a2), .val (.ref a2)] [(.ref a2), (.ref b1)])) (fun t k => XS.aloadN X7.here hx rfl (hb hby d27_40) rfl rfl k) ?_
    obtain ⟨T8, X8, e8, st8⟩ := getF X7 hx hZ hown (host := "") (Or.inl (hw _ (List.mem_of_getElem? (i := 164) rfl))) Via.refl e7 O2.2.2.1 (g := (mkF m 41 #[.val (.ref a1), .val (.ref a2), .val (.ref a2)] [(.ref a2), (.ref b1)])) rfl rfl (hb hby d27_41)
    refine own_step (T' := T8) (f' := (mkF m 44 #[.val (.ref a1), .val (.ref a2), .val (.ref a2)] [(.ref b2), (.ref b1)])) (fun t k => st8 t k) ?_
    obtain ⟨_, _, ⟨T9, L9, k9, n9⟩, -, X9, ⟨Lc9, hQ9, l9, y9, z9⟩, st9⟩ := Jvm.LawKit.callS X8 hx (y := (⟨"java/lang/StringLatin1", "equals", "([B[B)Z"⟩ : MethodName)) hown (mvT hZ (hw _ (List.mem_of_getElem? (i := 176) rfl))) (mvT hZ (hw _ (List.mem_of_getElem? (i := 177) rfl))) (mvT hZ (hw _ (List.mem_of_getElem? (i := 178) rfl))) (mvT hZ (hw _ (List.mem_of_getElem? (i := 179) rfl))) (by decide) (backOf (W := 0) (rm28_1 l Z a0 hw [] b1 b2 h0 n0 Z0 k1 k2 O1.2.2.2 O2.2.2.2) hZ (hw _ (List.mem_of_getElem? (i := 179) rfl)) (hw _ (List.mem_of_getElem? (i := 178) rfl)) (by decide) (by decide)) (g := (mkF m 44 #[.val (.ref a1), .val (.ref a2), .val (.ref a2)] [(.ref b2), (.ref b1)])) rfl (by rw [hml]; rfl) (argsL := [(.ref b1), (.ref b2)]) (rest := []) (lenOf pd_27_0 rfl) rfl (by show 2 * 0 + _ ≤ _; exact Nat.le_of_eq rfl) (hb hby d27_44) (fun _ _ => ⟨rfl, e8, (by decide : 0 + 0 ≤ _), (by decide : 0 + 0 ≤ _)⟩)
    dsimp only [Pt.U, Pt.locs, Pt.cells, Pt.slots] at X9 l9 y9 z9 st9 hQ9
    subst l9 y9 z9
    obtain ⟨rfl, N9q, E9⟩ := hQ9
    have N9 := Fr.app N0 N9q
    refine own_step (T' := T9) (f' := (mkF m 47 #[.val (.ref a1), .val (.ref a2), .val (.ref a2)] [(.int (1 : Int32))])) (fun t k => st9 t k) ?_
    refine own_step (T' := T9) (f' := (mkF m 50 #[.val (.ref a1), .val (.ref a2), .val (.ref a2)] [])) (fun t k => XS.ifNo X9.here hx rfl (hb hby d27_47) rfl ((if0 _ _).trans (feq (by decide : ¬ ((1 : Int32) = (0 : Int32)))).1) k) ?_
    refine own_step (T' := T9) (f' := (mkF m 51 #[.val (.ref a1), .val (.ref a2), .val (.ref a2)] [(.int (1 : Int32))])) (fun t k => XS.iconst X9.here hx rfl (hb hby d27_50) k) ?_
    refine own_step (T' := T9) (f' := (mkF m 55 #[.val (.ref a1), .val (.ref a2), .val (.ref a2)] [(.int (1 : Int32))])) (fun t k => XS.goto X9.here hx rfl (pc0 := 51) (pc' := 55) rfl (hb hby d27_51) (by decide) (by decide) k) ?_
    exact own_retN X9 hx hlk (t := .boolean) Bd.returns (by simp) (hb hby d27_55) (by decide) (by decide) ⟨rfl, N9, E9⟩

theorem ef_rm15_0 (m : MethodId) (x0 : Addr) (x1 : Int32) : entryFrame m #[(.ref x0), (.int x1)] 3 = mkF m 0 #[.val (.ref x0), .val (.int x1), .unset] [] := by first | (simp [entryFrame, mkF, argsToLocals, Value.category]; done) | rfl
set_option maxRecDepth 65536 in
set_option maxHeartbeats 40000000 in
theorem rm15_0 (l : Launch) (Z : State) (a0 : Array Value) (hw : ∀ d ∈ tables_1, d.before a0 Z = true) (ws : List Jvm.Cond) (a1 : Addr) (h0 : Heap) (n0 : Nat) (Z0 : n0 ≤ h0.size) (bv : Addr) (kv : ClassId) (F_value_a1 : Fld Z h0 a1 "java/lang/AbstractStringBuilder" "value" "[B" (.ref bv)) (F_coder_a1 : Fld Z h0 a1 "java/lang/AbstractStringBuilder" "coder" "B" (.int (0 : Int32))) (V_bv : Arv Z h0 bv kv .byte (16 : Int32) [(.int (0 : Int32)), (.int (0 : Int32)), (.int (0 : Int32)), (.int (0 : Int32)), (.int (0 : Int32)), (.int (0 : Int32)), (.int (0 : Int32)), (.int (0 : Int32)), (.int (0 : Int32)), (.int (0 : Int32)), (.int (0 : Int32)), (.int (0 : Int32)), (.int (0 : Int32)), (.int (0 : Int32)), (.int (0 : Int32)), (.int (0 : Int32))] (.int (0 : Int32))) :
    MetFree l (⟨"java/lang/AbstractStringBuilder", "ensureCapacityInternal", "(I)V"⟩ : MethodName) (head1 (Jvm.Cond.code (⟨"java/lang/AbstractStringBuilder", "ensureCapacityInternal", "(I)V"⟩ : MethodName) jdk_68_method_9_code 3 none :: ws) ({ frames := 0, cells := 0, slots := 0, locals := 0 } : Room)) (fun a U => a = #[(.ref a1), (.int (5 : Int32))] ∧ Z.Warmed39 U.vm ∧ U.heap = h0) (fun _ _ _ _ _ => True) (fun _ U o U' => ∃ v L, o = .returned v ∧ QV h0 n0 v U'.heap L ∧ FrameEnd U o U' L ({ frames := 0, cells := 0, slots := 0, locals := 0 } : Room).cells ({ frames := 0, cells := 0, slots := 0, locals := 0 } : Room).slots) := by
  refine MetFree.of_bodySF (plainFor_of_name pn_15) hisR ?_
  intro p e s m args below meth c s₁ Bd hml0 hP hK
  obtain ⟨rfl, hZ, hh⟩ := hP
  have hx := Bd.exec
  have hby := Bd.bytes
  have hlk : meth.locks = false := BodyLoose.notSynchronized Bd
  have hml : c.maxLocals = 3 := hml0
  have hown : s.vm.findClass "java/lang/AbstractStringBuilder" = some m.cls := findClass_of_methodNamed Bd.named
  have hnm := (name_of_methodNamed Bd.named Bd.method).1
  have X0 : Stand p l e ({ frames := 0, cells := 0, slots := 0, locals := 0 } : Room) s m #[(.ref a1), (.int (5 : Int32))] below meth c s₁ [] 0 0 := Stand.of_body Bd
  have e0 : s₁.heap = h0 := by rw [← hh, Bd.state]; rfl
  have N0 := Fr.nil n0
  have Zz := Z0
  have Kp : Keep h0 h0 [] := Keep.refl _ _
  show OwnEnds p e below s (QV h0 n0) ({ frames := 0, cells := 0, slots := 0, locals := 0 } : Room).cells ({ frames := 0, cells := 0, slots := 0, locals := 0 } : Room).slots s₁ (entryFrame m #[(.ref a1), (.int (5 : Int32))] 3)
  refine own_step (T' := s₁) (f' := (mkF m 0 #[.val (.ref a1), .val (.int (5 : Int32)), .unset] [])) (fun t k => castTop (ef_rm15_0 m a1 (5 : Int32)) k) ?_
  refine own_step (T' := s₁) (f' := (mkF m 1 #[.val (.ref a1), .val (.int (5 : Int32)), .unset] [(.ref a1)])) (fun t k => XS.aloadN X0.here hx rfl (hb hby d15_0) rfl rfl k) ?_
  obtain ⟨T1, X1, e1, st1⟩ := getF X0 hx hZ hown (host := "") (Or.inl (hw _ (List.mem_of_getElem? (i := 84) rfl))) Via.refl e0 F_value_a1 (g := (mkF m 1 #[.val (.ref a1), .val (.int (5 : Int32)), .unset] [(.ref a1)])) rfl rfl (hb hby d15_1)
  refine own_step (T' := T1) (f' := (mkF m 4 #[.val (.ref a1), .val (.int (5 : Int32)), .unset] [(.ref bv)])) (fun t k => st1 t k) ?_
  obtain ⟨cl2, Ar2, q2, S2, M2, H2, G2⟩ := id V_bv
  refine own_step (T' := T1) (f' := (mkF m 5 #[.val (.ref a1), .val (.int (5 : Int32)), .unset] [(.int (16 : Int32))])) (fun t k => X1.arraylength hx (by rw [e1]; exact Ar2.1) (State.isArrayOf_alike hZ.alike Ar2.2.1) (g := (mkF m 4 #[.val (.ref a1), .val (.int (5 : Int32)), .unset] [(.ref bv)])) rfl rfl (hb hby d15_4) _ (by rw [len_of S2 M2]; exact k)) ?_
  refine own_step (T' := T1) (f' := (mkF m 6 #[.val (.ref a1), .val (.int (5 : Int32)), .unset] [(.ref a1), (.int (16 : Int32))])) (fun t k => XS.aloadN X1.here hx rfl (hb hby d15_5) rfl rfl k) ?_
  obtain ⟨T3, X3, e3, st3⟩ := getF X1 hx hZ hown (host := "") (Or.inl (hw _ (List.mem_of_getElem? (i := 86) rfl))) Via.refl e1 F_coder_a1 (g := (mkF m 6 #[.val (.ref a1), .val (.int (5 : Int32)), .unset] [(.ref a1), (.int (16 : Int32))])) rfl rfl (hb hby d15_6)
  refine own_step (T' := T3) (f' := (mkF m 9 #[.val (.ref a1), .val (.int (5 : Int32)), .unset] [(.int (0 : Int32)), (.int (16 : Int32))])) (fun t k => st3 t k) ?_
  refine own_step (T' := T3) (f' := (mkF m 10 #[.val (.ref a1), .val (.int (5 : Int32)), .unset] [(.int ((16 : Int32) >>> ((0 : Int32) &&& 31)))])) (fun t k => XS.ishr X3.here hx rfl (hb hby d15_9) rfl k) ?_
  refine own_step (T' := T3) (f' := (mkF m 11 #[.val (.ref a1), .val (.int (5 : Int32)), .val (.int ((16 : Int32) >>> ((0 : Int32) &&& 31)))] [])) (fun t k => XS.istoreN X3.here hx rfl (hb hby d15_10) rfl (l' := #[.val (.ref a1), .val (.int (5 : Int32)), .val (.int ((16 : Int32) >>> ((0 : Int32) &&& 31)))]) rfl k) ?_
  refine own_step (T' := T3) (f' := (mkF m 12 #[.val (.ref a1), .val (.int (5 : Int32)), .val (.int ((16 : Int32) >>> ((0 : Int32) &&& 31)))] [(.int (5 : Int32))])) (fun t k => XS.iloadN X3.here hx rfl (hb hby d15_11) rfl k) ?_
  refine own_step (T' := T3) (f' := (mkF m 13 #[.val (.ref a1), .val (.int (5 : Int32)), .val (.int ((16 : Int32) >>> ((0 : Int32) &&& 31)))] [(.int ((16 : Int32) >>> ((0 : Int32) &&& 31))), (.int (5 : Int32))])) (fun t k => XS.iloadN X3.here hx rfl (hb hby d15_12) rfl k) ?_
  refine own_step (T' := T3) (f' := (mkF m 14 #[.val (.ref a1), .val (.int (5 : Int32)), .val (.int ((16 : Int32) >>> ((0 : Int32) &&& 31)))] [(.int ((5 : Int32) - ((16 : Int32) >>> ((0 : Int32) &&& 31))))])) (fun t k => XS.isub X3.here hx rfl (hb hby d15_13) rfl k) ?_
  refine own_step (T' := T3) (f' := (mkF m 38 #[.val (.ref a1), .val (.int (5 : Int32)), .val (.int ((16 : Int32) >>> ((0 : Int32) &&& 31)))] [])) (fun t k => XS.ifYes X3.here hx rfl (pc0 := 14) (pc' := 38) rfl (hb hby d15_14) rfl ((if0 _ _).trans (flt (by decide : ¬ ((0 : Int32) < ((5 : Int32) - ((16 : Int32) >>> ((0 : Int32) &&& 31)))))).2.2.2) (by decide) (by decide) k) ?_
  exact own_retV X3 hx hlk Bd.returns (hb hby d15_38) (by decide) (by decide) ⟨rfl, N0, e3⟩

def Q14_0 (Z : State) (a1 bv : Addr) (kv : ClassId) (h0 : Heap) (n0 : Nat) (v : Option Value) (h : Heap) (L : List Loc) : Prop := v = some (.ref a1) ∧ Fr n0 L ∧ Keep h0 h [a1, bv] ∧ OwnSB Z h a1 bv kv 5 [(.int (102 : Int32)), (.int (97 : Int32)), (.int (108 : Int32)), (.int (115 : Int32)), (.int (101 : Int32)), (.int (0 : Int32)), (.int (0 : Int32)), (.int (0 : Int32)), (.int (0 : Int32)), (.int (0 : Int32)), (.int (0 : Int32)), (.int (0 : Int32)), (.int (0 : Int32)), (.int (0 : Int32)), (.int (0 : Int32)), (.int (0 : Int32))]
theorem d14_13 : decode jdk_68_method_30_code 13 = .ok (.iconst 5, 1) := by decide +kernel
theorem d14_74 : decode jdk_68_method_30_code 74 = .ok (.aload_n 3, 1) := by decide +kernel
theorem d14_75 : decode jdk_68_method_30_code 75 = .ok (.iload_n 2, 1) := by decide +kernel
theorem d14_76 : decode jdk_68_method_30_code 76 = .ok (.iinc 2 1, 3) := by decide +kernel
theorem d14_79 : decode jdk_68_method_30_code 79 = .ok (.bipush 102, 2) := by decide +kernel
theorem d14_81 : decode jdk_68_method_30_code 81 = .ok (.bastore, 1) := by decide +kernel
theorem d14_82 : decode jdk_68_method_30_code 82 = .ok (.aload_n 3, 1) := by decide +kernel
theorem d14_83 : decode jdk_68_method_30_code 83 = .ok (.iload_n 2, 1) := by decide +kernel
theorem d14_84 : decode jdk_68_method_30_code 84 = .ok (.iinc 2 1, 3) := by decide +kernel
theorem d14_87 : decode jdk_68_method_30_code 87 = .ok (.bipush 97, 2) := by decide +kernel
theorem d14_89 : decode jdk_68_method_30_code 89 = .ok (.bastore, 1) := by decide +kernel
theorem d14_90 : decode jdk_68_method_30_code 90 = .ok (.aload_n 3, 1) := by decide +kernel
theorem d14_91 : decode jdk_68_method_30_code 91 = .ok (.iload_n 2, 1) := by decide +kernel
theorem d14_92 : decode jdk_68_method_30_code 92 = .ok (.iinc 2 1, 3) := by decide +kernel
theorem d14_95 : decode jdk_68_method_30_code 95 = .ok (.bipush 108, 2) := by decide +kernel
theorem d14_97 : decode jdk_68_method_30_code 97 = .ok (.bastore, 1) := by decide +kernel
theorem d14_98 : decode jdk_68_method_30_code 98 = .ok (.aload_n 3, 1) := by decide +kernel
theorem d14_99 : decode jdk_68_method_30_code 99 = .ok (.iload_n 2, 1) := by decide +kernel
theorem d14_100 : decode jdk_68_method_30_code 100 = .ok (.iinc 2 1, 3) := by decide +kernel
theorem d14_103 : decode jdk_68_method_30_code 103 = .ok (.bipush 115, 2) := by decide +kernel
theorem d14_105 : decode jdk_68_method_30_code 105 = .ok (.bastore, 1) := by decide +kernel
theorem d14_106 : decode jdk_68_method_30_code 106 = .ok (.aload_n 3, 1) := by decide +kernel
theorem d14_107 : decode jdk_68_method_30_code 107 = .ok (.iload_n 2, 1) := by decide +kernel
theorem d14_108 : decode jdk_68_method_30_code 108 = .ok (.iinc 2 1, 3) := by decide +kernel
theorem d14_111 : decode jdk_68_method_30_code 111 = .ok (.bipush 101, 2) := by decide +kernel
theorem d14_113 : decode jdk_68_method_30_code 113 = .ok (.bastore, 1) := by decide +kernel
theorem d14_114 : decode jdk_68_method_30_code 114 = .ok (.goto 40, 3) := by decide +kernel
theorem ef_rm14_0 (m : MethodId) (x0 : Addr) (x1 : Int32) : entryFrame m #[(.ref x0), (.int x1)] 4 = mkF m 0 #[.val (.ref x0), .val (.int x1), .unset, .unset] [] := by first | (simp [entryFrame, mkF, argsToLocals, Value.category]; done) | rfl
set_option maxRecDepth 65536 in
set_option maxHeartbeats 40000000 in
theorem rm14_0 (l : Launch) (Z : State) (a0 : Array Value) (hw : ∀ d ∈ tables_1, d.before a0 Z = true) (ws : List Jvm.Cond) (a1 : Addr) (h0 : Heap) (n0 : Nat) (Z0 : n0 ≤ h0.size) (bv : Addr) (kv : ClassId) (O : OwnSB Z h0 a1 bv kv 0 [(.int (0 : Int32)), (.int (0 : Int32)), (.int (0 : Int32)), (.int (0 : Int32)), (.int (0 : Int32)), (.int (0 : Int32)), (.int (0 : Int32)), (.int (0 : Int32)), (.int (0 : Int32)), (.int (0 : Int32)), (.int (0 : Int32)), (.int (0 : Int32)), (.int (0 : Int32)), (.int (0 : Int32)), (.int (0 : Int32)), (.int (0 : Int32))]) (cs : Int32) (S_CS : Sta Z h0 "java/lang/String" "COMPACT_STRINGS" "Z" (.int cs)) (hcs : ¬ cs = (0 : Int32)) (g_a1 : n0 ≤ a1) (g_bv : n0 ≤ bv) :
    MetFree l (⟨"java/lang/AbstractStringBuilder", "append", "(Z)Ljava/lang/AbstractStringBuilder;"⟩ : MethodName) (head1 (Jvm.Cond.code (⟨"java/lang/AbstractStringBuilder", "append", "(Z)Ljava/lang/AbstractStringBuilder;"⟩ : MethodName) jdk_68_method_30_code 4 (some (.object "java/lang/AbstractStringBuilder")) :: ws) ({ frames := 1, cells := 0, slots := 0, locals := 14 } : Room)) (fun a U => a = #[(.ref a1), (.int (0 : Int32))] ∧ Z.Warmed39 U.vm ∧ U.heap = h0) (fun _ _ _ _ _ => True) (fun _ U o U' => ∃ v L, o = .returned v ∧ Q14_0 Z a1 bv kv h0 n0 v U'.heap L ∧ FrameEnd U o U' L ({ frames := 1, cells := 0, slots := 0, locals := 14 } : Room).cells ({ frames := 1, cells := 0, slots := 0, locals := 14 } : Room).slots) := by
  refine MetFree.of_bodySF (plainFor_of_name pn_14) hisR ?_
  intro p e s m args below meth c s₁ Bd hml0 hP hK
  obtain ⟨rfl, hZ, hh⟩ := hP
  have hx := Bd.exec
  have hby := Bd.bytes
  have hlk : meth.locks = false := BodyLoose.notSynchronized Bd
  have hml : c.maxLocals = 4 := hml0
  have hown : s.vm.findClass "java/lang/AbstractStringBuilder" = some m.cls := findClass_of_methodNamed Bd.named
  have hnm := (name_of_methodNamed Bd.named Bd.method).1
  have X0 : Stand p l e ({ frames := 1, cells := 0, slots := 0, locals := 14 } : Room) s m #[(.ref a1), (.int (0 : Int32))] below meth c s₁ [] 0 0 := Stand.of_body Bd
  have e0 : s₁.heap = h0 := by rw [← hh, Bd.state]; rfl
  have N0 := Fr.nil n0
  have Zz := Z0
  have Kp : Keep h0 h0 [a1, bv] := Keep.refl _ _
  obtain ⟨E_a1, F_value_a1, F_coder_a1, F_count_a1, V_bv, EX_bv, ne1⟩ := O
  show OwnEnds p e below s (Q14_0 Z a1 bv kv h0 n0) ({ frames := 1, cells := 0, slots := 0, locals := 14 } : Room).cells ({ frames := 1, cells := 0, slots := 0, locals := 14 } : Room).slots s₁ (entryFrame m #[(.ref a1), (.int (0 : Int32))] 4)
  refine own_step (T' := s₁) (f' := (mkF m 0 #[.val (.ref a1), .val (.int (0 : Int32)), .unset, .unset] [])) (fun t k => castTop (ef_rm14_0 m a1 (0 : Int32)) k) ?_
  refine own_step (T' := s₁) (f' := (mkF m 1 #[.val (.ref a1), .val (.int (0 : Int32)), .unset, .unset] [(.ref a1)])) (fun t k => XS.aloadN X0.here hx rfl (hb hby d14_0) rfl rfl k) ?_
  refine own_step (T' := s₁) (f' := (mkF m 2 #[.val (.ref a1), .val (.int (0 : Int32)), .unset, .unset] [(.ref a1), (.ref a1)])) (fun t k => XS.aloadN X0.here hx rfl (hb hby d14_1) rfl rfl k) ?_
  obtain ⟨T1, X1, e1, st1⟩ := getF X0 hx hZ hown (host := "") (Or.inl (hw _ (List.mem_of_getElem? (i := 103) rfl))) Via.refl e0 F_count_a1 (g := (mkF m 2 #[.val (.ref a1), .val (.int (0 : Int32)), .unset, .unset] [(.ref a1), (.ref a1)])) rfl rfl (hb hby d14_2)
  refine own_step (T' := T1) (f' := (mkF m 5 #[.val (.ref a1), .val (.int (0 : Int32)), .unset, .unset] [(.int (0 : Int32)), (.ref a1)])) (fun t k => st1 t k) ?_
  refine own_step (T' := T1) (f' := (mkF m 6 #[.val (.ref a1), .val (.int (0 : Int32)), .unset, .unset] [(.int (0 : Int32)), (.int (0 : Int32)), (.ref a1)])) (fun t k => XS.iloadN X1.here hx rfl (hb hby d14_5) rfl k) ?_
  refine own_step (T' := T1) (f' := (mkF m 13 #[.val (.ref a1), .val (.int (0 : Int32)), .unset, .unset] [(.int (0 : Int32)), (.ref a1)])) (fun t k => XS.ifYes X1.here hx rfl (pc0 := 6) (pc' := 13) rfl (hb hby d14_6) rfl ((if0 _ _).trans (teq (by decide : (0 : Int32) = (0 : Int32))).1) (by decide) (by decide) k) ?_
  refine own_step (T' := T1) (f' := (mkF m 14 #[.val (.ref a1), .val (.int (0 : Int32)), .unset, .unset] [(.int (5 : Int32)), (.int (0 : Int32)), (.ref a1)])) (fun t k => XS.iconst X1.here hx rfl (hb hby d14_13) k) ?_
  refine own_step (T' := T1) (f' := (mkF m 15 #[.val (.ref a1), .val (.int (0 : Int32)), .unset, .unset] [(.int (5 : Int32)), (.ref a1)])) (fun t k => XS.iadd X1.here hx rfl (hb hby d14_14) rfl k) ?_
  obtain ⟨cq2, kq2, q2a, q2b, q2c⟩ := isOf hZ e1 E_a1
  obtain ⟨_, _, ⟨T2, L2, k2, n2⟩, -, X2, ⟨Lc2, hQ2, l2, y2, z2⟩, st2⟩ := X1.virtualBack hx (y := (⟨"java/lang/AbstractStringBuilder", "ensureCapacityInternal", "(I)V"⟩ : MethodName)) (z := (⟨"java/lang/AbstractStringBuilder", "ensureCapacityInternal", "(I)V"⟩ : MethodName)) hown (mvT hZ (hw _ (List.mem_of_getElem? (i := 105) rfl))) (mvT hZ (own_decl (hw _ (List.mem_of_getElem? (i := 106) rfl)) (hw _ (List.mem_of_getElem? (i := 109) rfl)))) (notFace_of_selects (args := #[]) (mvT hZ (hw _ (List.mem_of_getElem? (i := 108) rfl)))) (mvT hZ (hw _ (List.mem_of_getElem? (i := 108) rfl))) (mvT hZ (hw _ (List.mem_of_getElem? (i := 106) rfl))) (by decide) (backOf (W := 0) (rm15_0 l Z a0 hw [] a1 h0 n0 Zz bv kv F_value_a1 F_coder_a1 V_bv) hZ (hw _ (List.mem_of_getElem? (i := 109) rfl)) (hw _ (List.mem_of_getElem? (i := 76) rfl)) (by decide) (by decide)) q2a q2c (g := (mkF m 15 #[.val (.ref a1), .val (.int (0 : Int32)), .unset, .unset] [(.int (5 : Int32)), (.ref a1)])) rfl (by rw [hml]; rfl) (Steps.refl _) (argsL := [(.int (5 : Int32))]) (rest := []) (lenOf pd_14_0 rfl) rfl (by show 2 * 0 + _ ≤ _; exact Nat.le_of_eq rfl) (hb hby d14_15) (fun _ _ => ⟨rfl, e1, (by decide : 0 + 0 ≤ _), (by decide : 0 + 0 ≤ _)⟩)
  dsimp only [Pt.U, Pt.locs, Pt.cells, Pt.slots] at X2 l2 y2 z2 st2 hQ2
  subst l2 y2 z2
  obtain ⟨rfl, N2q, E2⟩ := hQ2
  have N2 := Fr.app N0 N2q
  refine own_step (T' := T2) (f' := (mkF m 18 #[.val (.ref a1), .val (.int (0 : Int32)), .unset, .unset] [])) (fun t k => st2.trans k) ?_
  refine own_step (T' := T2) (f' := (mkF m 19 #[.val (.ref a1), .val (.int (0 : Int32)), .unset, .unset] [(.ref a1)])) (fun t k => XS.aloadN X2.here hx rfl (hb hby d14_18) rfl rfl k) ?_
  obtain ⟨T3, X3, e3, st3⟩ := getF X2 hx hZ hown (host := "") (Or.inl (hw _ (List.mem_of_getElem? (i := 103) rfl))) Via.refl E2 F_count_a1 (g := (mkF m 19 #[.val (.ref a1), .val (.int (0 : Int32)), .unset, .unset] [(.ref a1)])) rfl rfl (hb hby d14_19)
  refine own_step (T' := T3) (f' := (mkF m 22 #[.val (.ref a1), .val (.int (0 : Int32)), .unset, .unset] [(.int (0 : Int32))])) (fun t k => st3 t k) ?_
  refine own_step (T' := T3) (f' := (mkF m 23 #[.val (.ref a1), .val (.int (0 : Int32)), .val (.int (0 : Int32)), .unset] [])) (fun t k => XS.istoreN X3.here hx rfl (hb hby d14_22) rfl (l' := #[.val (.ref a1), .val (.int (0 : Int32)), .val (.int (0 : Int32)), .unset]) rfl k) ?_
  refine own_step (T' := T3) (f' := (mkF m 24 #[.val (.ref a1), .val (.int (0 : Int32)), .val (.int (0 : Int32)), .unset] [(.ref a1)])) (fun t k => XS.aloadN X3.here hx rfl (hb hby d14_23) rfl rfl k) ?_
  obtain ⟨T4, X4, e4, st4⟩ := getF X3 hx hZ hown (host := "") (Or.inl (hw _ (List.mem_of_getElem? (i := 84) rfl))) Via.refl e3 F_value_a1 (g := (mkF m 24 #[.val (.ref a1), .val (.int (0 : Int32)), .val (.int (0 : Int32)), .unset] [(.ref a1)])) rfl rfl (hb hby d14_24)
  refine own_step (T' := T4) (f' := (mkF m 27 #[.val (.ref a1), .val (.int (0 : Int32)), .val (.int (0 : Int32)), .unset] [(.ref bv)])) (fun t k => st4 t k) ?_
  refine own_step (T' := T4) (f' := (mkF m 28 #[.val (.ref a1), .val (.int (0 : Int32)), .val (.int (0 : Int32)), .val (.ref bv)] [])) (fun t k => XS.astoreN X4.here hx rfl (hb hby d14_27) rfl rfl (l' := #[.val (.ref a1), .val (.int (0 : Int32)), .val (.int (0 : Int32)), .val (.ref bv)]) rfl k) ?_
  refine own_step (T' := T4) (f' := (mkF m 29 #[.val (.ref a1), .val (.int (0 : Int32)), .val (.int (0 : Int32)), .val (.ref bv)] [(.ref a1)])) (fun t k => XS.aloadN X4.here hx rfl (hb hby d14_28) rfl rfl k) ?_
  obtain ⟨cq5, kq5, q5a, q5b, q5c⟩ := isOf hZ e4 E_a1
  obtain ⟨_, _, ⟨T5, L5, k5, n5⟩, -, X5, ⟨Lc5, hQ5, l5, y5, z5⟩, st5⟩ := X4.virtualBack hx (y := (⟨"java/lang/AbstractStringBuilder", "isLatin1", "()Z"⟩ : MethodName)) (z := (⟨"java/lang/AbstractStringBuilder", "isLatin1", "()Z"⟩ : MethodName)) hown (mvT hZ (hw _ (List.mem_of_getElem? (i := 110) rfl))) (mvT hZ (hw _ (List.mem_of_getElem? (i := 111) rfl))) (notFace_of_selects (args := #[]) (mvT hZ (hw _ (List.mem_of_getElem? (i := 113) rfl)))) (mvT hZ (hw _ (List.mem_of_getElem? (i := 113) rfl))) (mvT hZ (hw _ (List.mem_of_getElem? (i := 112) rfl))) (by decide) (backOf (W := 0) (rm16 l Z a0 hw [] a1 h0 n0 Zz F_coder_a1 cs S_CS hcs) hZ (hw _ (List.mem_of_getElem? (i := 114) rfl)) (hw _ (List.mem_of_getElem? (i := 76) rfl)) (by decide) (by decide)) q5a q5c (g := (mkF m 29 #[.val (.ref a1), .val (.int (0 : Int32)), .val (.int (0 : Int32)), .val (.ref bv)] [(.ref a1)])) rfl (by rw [hml]; rfl) (Steps.refl _) (argsL := []) (rest := []) (lenOf pd_14_1 rfl) rfl (by show 2 * 0 + _ ≤ _; exact Nat.le_of_eq rfl) (hb hby d14_29) (fun _ _ => ⟨rfl, e4, (by decide : 0 + 0 ≤ _), (by decide : 0 + 0 ≤ _)⟩)
  dsimp only [Pt.U, Pt.locs, Pt.cells, Pt.slots] at X5 l5 y5 z5 st5 hQ5
  subst l5 y5 z5
  obtain ⟨rfl, N5q, E5⟩ := hQ5
  have N5 := Fr.app N2 N5q
  refine own_step (T' := T5) (f' := (mkF m 32 #[.val (.ref a1), .val (.int (0 : Int32)), .val (.int (0 : Int32)), .val (.ref bv)] [(.int (1 : Int32))])) (fun t k => st5.trans k) ?_
  refine own_step (T' := T5) (f' := (mkF m 35 #[.val (.ref a1), .val (.int (0 : Int32)), .val (.int (0 : Int32)), .val (.ref bv)] [])) (fun t k => XS.ifNo X5.here hx rfl (hb hby d14_32) rfl ((if0 _ _).trans (feq (by decide : ¬ ((1 : Int32) = (0 : Int32)))).1) k) ?_
  refine own_step (T' := T5) (f' := (mkF m 36 #[.val (.ref a1), .val (.int (0 : Int32)), .val (.int (0 : Int32)), .val (.ref bv)] [(.int (0 : Int32))])) (fun t k => XS.iloadN X5.here hx rfl (hb hby d14_35) rfl k) ?_
  refine own_step (T' := T5) (f' := (mkF m 74 #[.val (.ref a1), .val (.int (0 : Int32)), .val (.int (0 : Int32)), .val (.ref bv)] [])) (fun t k => XS.ifYes X5.here hx rfl (pc0 := 36) (pc' := 74) rfl (hb hby d14_36) rfl ((if0 _ _).trans (teq (by decide : (0 : Int32) = (0 : Int32))).1) (by decide) (by decide) k) ?_
  refine own_step (T' := T5) (f' := (mkF m 75 #[.val (.ref a1), .val (.int (0 : Int32)), .val (.int (0 : Int32)), .val (.ref bv)] [(.ref bv)])) (fun t k => XS.aloadN X5.here hx rfl (hb hby d14_74) rfl rfl k) ?_
  refine own_step (T' := T5) (f' := (mkF m 76 #[.val (.ref a1), .val (.int (0 : Int32)), .val (.int (0 : Int32)), .val (.ref bv)] [(.int (0 : Int32)), (.ref bv)])) (fun t k => XS.iloadN X5.here hx rfl (hb hby d14_75) rfl k) ?_
  refine own_step (T' := T5) (f' := (mkF m 79 #[.val (.ref a1), .val (.int (0 : Int32)), .val (.int (1 : Int32)), .val (.ref bv)] [(.int (0 : Int32)), (.ref bv)])) (fun t k => XS.iinc X5.here hx rfl (hb hby d14_76) rfl (l' := #[.val (.ref a1), .val (.int (0 : Int32)), .val (.int (1 : Int32)), .val (.ref bv)]) rfl k) ?_
  refine own_step (T' := T5) (f' := (mkF m 81 #[.val (.ref a1), .val (.int (0 : Int32)), .val (.int (1 : Int32)), .val (.ref bv)] [(.int (102 : Int32)), (.int (0 : Int32)), (.ref bv)])) (fun t k => XS.bipush X5.here hx rfl (hb hby d14_79) k) ?_
  obtain ⟨cl6, Ar6, q6, S6, M6, H6, G6⟩ := V_bv
  have hin6 : ¬ ((0 : Int32) < 0 ∨ cl6.slots.size ≤ ((0 : Int32)).toNatClampNeg) := inb_of S6 ⟨by decide, by decide⟩
  obtain ⟨T6, h6, X6, e6, W6, st6⟩ := stB X5 hx hZ E5 Ar6 (j := (0 : Int32)) hin6 (g := (mkF m 81 #[.val (.ref a1), .val (.int (0 : Int32)), .val (.int (1 : Int32)), .val (.ref bv)] [(.int (102 : Int32)), (.int (0 : Int32)), (.ref bv)])) rfl rfl (hb hby d14_81)
  have V_bv : Arv Z h6 bv kv .byte (16 : Int32) [(.int (102 : Int32)), (.int (0 : Int32)), (.int (0 : Int32)), (.int (0 : Int32)), (.int (0 : Int32)), (.int (0 : Int32)), (.int (0 : Int32)), (.int (0 : Int32)), (.int (0 : Int32)), (.int (0 : Int32)), (.int (0 : Int32)), (.int (0 : Int32)), (.int (0 : Int32)), (.int (0 : Int32)), (.int (0 : Int32)), (.int (0 : Int32))] (.int (0 : Int32)) := Arv.set Ar6 q6 S6 M6 H6 G6 (fits_nar_byte _) W6 0 rfl (Nat.le_of_ble_eq_true rfl)
  replace E_a1 := E_a1.wr W6
  replace F_value_a1 := F_value_a1.other W6 (Or.inl ne1)
  replace F_coder_a1 := F_coder_a1.other W6 (Or.inl ne1)
  replace F_count_a1 := F_count_a1.other W6 (Or.inl ne1)
  replace EX_bv := EX_bv.wr W6
  replace S_CS := S_CS.wr W6
  replace Zz := Nat.le_trans Zz (Keep.of_wr W6).1
  replace Kp := Kp.wr W6 (Or.inl (List.mem_of_getElem? (i := 1) rfl))
  have N6 := Fr.snoc X6 N5 g_bv
  refine own_step (T' := T6) (f' := (mkF m 82 #[.val (.ref a1), .val (.int (0 : Int32)), .val (.int (1 : Int32)), .val (.ref bv)] [])) (fun t k => st6 t k) ?_
  refine own_step (T' := T6) (f' := (mkF m 83 #[.val (.ref a1), .val (.int (0 : Int32)), .val (.int (1 : Int32)), .val (.ref bv)] [(.ref bv)])) (fun t k => XS.aloadN X6.here hx rfl (hb hby d14_82) rfl rfl k) ?_
  refine own_step (T' := T6) (f' := (mkF m 84 #[.val (.ref a1), .val (.int (0 : Int32)), .val (.int (1 : Int32)), .val (.ref bv)] [(.int (1 : Int32)), (.ref bv)])) (fun t k => XS.iloadN X6.here hx rfl (hb hby d14_83) rfl k) ?_
  refine own_step (T' := T6) (f' := (mkF m 87 #[.val (.ref a1), .val (.int (0 : Int32)), .val (.int (2 : Int32)), .val (.ref bv)] [(.int (1 : Int32)), (.ref bv)])) (fun t k => XS.iinc X6.here hx rfl (hb hby d14_84) rfl (l' := #[.val (.ref a1), .val (.int (0 : Int32)), .val (.int (2 : Int32)), .val (.ref bv)]) rfl k) ?_
  refine own_step (T' := T6) (f' := (mkF m 89 #[.val (.ref a1), .val (.int (0 : Int32)), .val (.int (2 : Int32)), .val (.ref bv)] [(.int (97 : Int32)), (.int (1 : Int32)), (.ref bv)])) (fun t k => XS.bipush X6.here hx rfl (hb hby d14_87) k) ?_
  obtain ⟨cl7, Ar7, q7, S7, M7, H7, G7⟩ := V_bv
  have hin7 : ¬ ((1 : Int32) < 0 ∨ cl7.slots.size ≤ ((1 : Int32)).toNatClampNeg) := inb_of S7 ⟨by decide, by decide⟩
  obtain ⟨T7, h7, X7, e7, W7, st7⟩ := stB X6 hx hZ e6 Ar7 (j := (1 : Int32)) hin7 (g := (mkF m 89 #[.val (.ref a1), .val (.int (0 : Int32)), .val (.int (2 : Int32)), .val (.ref bv)] [(.int (97 : Int32)), (.int (1 : Int32)), (.ref bv)])) rfl rfl (hb hby d14_89)
  have V_bv : Arv Z h7 bv kv .byte (16 : Int32) [(.int (102 : Int32)), (.int (97 : Int32)), (.int (0 : Int32)), (.int (0 : Int32)), (.int (0 : Int32)), (.int (0 : Int32)), (.int (0 : Int32)), (.int (0 : Int32)), (.int (0 : Int32)), (.int (0 : Int32)), (.int (0 : Int32)), (.int (0 : Int32)), (.int (0 : Int32)), (.int (0 : Int32)), (.int (0 : Int32)), (.int (0 : Int32))] (.int (0 : Int32)) := Arv.set Ar7 q7 S7 M7 H7 G7 (fits_nar_byte _) W7 1 rfl (Nat.le_of_ble_eq_true rfl)
  replace E_a1 := E_a1.wr W7
  replace F_value_a1 := F_value_a1.other W7 (Or.inl ne1)
  replace F_coder_a1 := F_coder_a1.other W7 (Or.inl ne1)
  replace F_count_a1 := F_count_a1.other W7 (Or.inl ne1)
  replace EX_bv := EX_bv.wr W7
  replace S_CS := S_CS.wr W7
  replace Zz := Nat.le_trans Zz (Keep.of_wr W7).1
  replace Kp := Kp.wr W7 (Or.inl (List.mem_of_getElem? (i := 1) rfl))
  have N7 := Fr.snoc X7 N6 g_bv
  refine own_step (T' := T7) (f' := (mkF m 90 #[.val (.ref a1), .val (.int (0 : Int32)), .val (.int (2 : Int32)), .val (.ref bv)] [])) (fun t k => st7 t k) ?_
  refine own_step (T' := T7) (f' := (mkF m 91 #[.val (.ref a1), .val (.int (0 : Int32)), .val (.int (2 : Int32)), .val (.ref bv)] [(.ref bv)])) (fun t k => XS.aloadN X7.here hx rfl (hb hby d14_90) rfl rfl k) ?_
  refine own_step (T' := T7) (f' := (mkF m 92 #[.val (.ref a1), .val (.int (0 : Int32)), .val (.int (2 : Int32)), .val (.ref bv)] [(.int (2 : Int32)), (.ref bv)])) (fun t k => XS.iloadN X7.here hx rfl (hb hby d14_91) rfl k) ?_
  refine own_step (T' := T7) (f' := (mkF m 95 #[.val (.ref a1), .val (.int (0 : Int32)), .val (.int (3 : Int32)), .val (.ref bv)] [(.int (2 : Int32)), (.ref bv)])) (fun t k => XS.iinc X7.here hx rfl (hb hby d14_92) rfl (l' := #[.val (.ref a1), .val (.int (0 : Int32)), .val (.int (3 : Int32)), .val (.ref bv)]) rfl k) ?_
  refine own_step (T' := T7) (f' := (mkF m 97 #[.val (.ref a1), .val (.int (0 : Int32)), .val (.int (3 : Int32)), .val (.ref bv)] [(.int (108 : Int32)), (.int (2 : Int32)), (.ref bv)])) (fun t k => XS.bipush X7.here hx rfl (hb hby d14_95) k) ?_
  obtain ⟨cl8, Ar8, q8, S8, M8, H8, G8⟩ := V_bv
  have hin8 : ¬ ((2 : Int32) < 0 ∨ cl8.slots.size ≤ ((2 : Int32)).toNatClampNeg) := inb_of S8 ⟨by decide, by decide⟩
  obtain ⟨T8, h8, X8, e8, W8, st8⟩ := stB X7 hx hZ e7 Ar8 (j := (2 : Int32)) hin8 (g := (mkF m 97 #[.val (.ref a1), .val (.int (0 : Int32)), .val (.int (3 : Int32)), .val (.ref bv)] [(.int (108 : Int32)), (.int (2 : Int32)), (.ref bv)])) rfl rfl (hb hby d14_97)
  have V_bv : Arv Z h8 bv kv .byte (16 : Int32) [(.int (102 : Int32)), (.int (97 : Int32)), (.int (108 : Int32)), (.int (0 : Int32)), (.int (0 : Int32)), (.int (0 : Int32)), (.int (0 : Int32)), (.int (0 : Int32)), (.int (0 : Int32)), (.int (0 : Int32)), (.int (0 : Int32)), (.int (0 : Int32)), (.int (0 : Int32)), (.int (0 : Int32)), (.int (0 : Int32)), (.int (0 : Int32))] (.int (0 : Int32)) := Arv.set Ar8 q8 S8 M8 H8 G8 (fits_nar_byte _) W8 2 rfl (Nat.le_of_ble_eq_true rfl)
  replace E_a1 := E_a1.wr W8
  replace F_value_a1 := F_value_a1.other W8 (Or.inl ne1)
  replace F_coder_a1 := F_coder_a1.other W8 (Or.inl ne1)
  replace F_count_a1 := F_count_a1.other W8 (Or.inl ne1)
  replace EX_bv := EX_bv.wr W8
  replace S_CS := S_CS.wr W8
  replace Zz := Nat.le_trans Zz (Keep.of_wr W8).1
  replace Kp := Kp.wr W8 (Or.inl (List.mem_of_getElem? (i := 1) rfl))
  have N8 := Fr.snoc X8 N7 g_bv
  refine own_step (T' := T8) (f' := (mkF m 98 #[.val (.ref a1), .val (.int (0 : Int32)), .val (.int (3 : Int32)), .val (.ref bv)] [])) (fun t k => st8 t k) ?_
  refine own_step (T' := T8) (f' := (mkF m 99 #[.val (.ref a1), .val (.int (0 : Int32)), .val (.int (3 : Int32)), .val (.ref bv)] [(.ref bv)])) (fun t k => XS.aloadN X8.here hx rfl (hb hby d14_98) rfl rfl k) ?_
  refine own_step (T' := T8) (f' := (mkF m 100 #[.val (.ref a1), .val (.int (0 : Int32)), .val (.int (3 : Int32)), .val (.ref bv)] [(.int (3 : Int32)), (.ref bv)])) (fun t k => XS.iloadN X8.here hx rfl (hb hby d14_99) rfl k) ?_
  refine own_step (T' := T8) (f' := (mkF m 103 #[.val (.ref a1), .val (.int (0 : Int32)), .val (.int (4 : Int32)), .val (.ref bv)] [(.int (3 : Int32)), (.ref bv)])) (fun t k => XS.iinc X8.here hx rfl (hb hby d14_100) rfl (l' := #[.val (.ref a1), .val (.int (0 : Int32)), .val (.int (4 : Int32)), .val (.ref bv)]) rfl k) ?_
  refine own_step (T' := T8) (f' := (mkF m 105 #[.val (.ref a1), .val (.int (0 : Int32)), .val (.int (4 : Int32)), .val (.ref bv)] [(.int (115 : Int32)), (.int (3 : Int32)), (.ref bv)])) (fun t k => XS.bipush X8.here hx rfl (hb hby d14_103) k) ?_
  obtain ⟨cl9, Ar9, q9, S9, M9, H9, G9⟩ := V_bv
  have hin9 : ¬ ((3 : Int32) < 0 ∨ cl9.slots.size ≤ ((3 : Int32)).toNatClampNeg) := inb_of S9 ⟨by decide, by decide⟩
  obtain ⟨T9, h9, X9, e9, W9, st9⟩ := stB X8 hx hZ e8 Ar9 (j := (3 : Int32)) hin9 (g := (mkF m 105 #[.val (.ref a1), .val (.int (0 : Int32)), .val (.int (4 : Int32)), .val (.ref bv)] [(.int (115 : Int32)), (.int (3 : Int32)), (.ref bv)])) rfl rfl (hb hby d14_105)
  have V_bv : Arv Z h9 bv kv .byte (16 : Int32) [(.int (102 : Int32)), (.int (97 : Int32)), (.int (108 : Int32)), (.int (115 : Int32)), (.int (0 : Int32)), (.int (0 : Int32)), (.int (0 : Int32)), (.int (0 : Int32)), (.int (0 : Int32)), (.int (0 : Int32)), (.int (0 : Int32)), (.int (0 : Int32)), (.int (0 : Int32)), (.int (0 : Int32)), (.int (0 : Int32)), (.int (0 : Int32))] (.int (0 : Int32)) := Arv.set Ar9 q9 S9 M9 H9 G9 (fits_nar_byte _) W9 3 rfl (Nat.le_of_ble_eq_true rfl)
  replace E_a1 := E_a1.wr W9
  replace F_value_a1 := F_value_a1.other W9 (Or.inl ne1)
  replace F_coder_a1 := F_coder_a1.other W9 (Or.inl ne1)
  replace F_count_a1 := F_count_a1.other W9 (Or.inl ne1)
  replace EX_bv := EX_bv.wr W9
  replace S_CS := S_CS.wr W9
  replace Zz := Nat.le_trans Zz (Keep.of_wr W9).1
  replace Kp := Kp.wr W9 (Or.inl (List.mem_of_getElem? (i := 1) rfl))
  have N9 := Fr.snoc X9 N8 g_bv
  refine own_step (T' := T9) (f' := (mkF m 106 #[.val (.ref a1), .val (.int (0 : Int32)), .val (.int (4 : Int32)), .val (.ref bv)] [])) (fun t k => st9 t k) ?_
  refine own_step (T' := T9) (f' := (mkF m 107 #[.val (.ref a1), .val (.int (0 : Int32)), .val (.int (4 : Int32)), .val (.ref bv)] [(.ref bv)])) (fun t k => XS.aloadN X9.here hx rfl (hb hby d14_106) rfl rfl k) ?_
  refine own_step (T' := T9) (f' := (mkF m 108 #[.val (.ref a1), .val (.int (0 : Int32)), .val (.int (4 : Int32)), .val (.ref bv)] [(.int (4 : Int32)), (.ref bv)])) (fun t k => XS.iloadN X9.here hx rfl (hb hby d14_107) rfl k) ?_
  refine own_step (T' := T9) (f' := (mkF m 111 #[.val (.ref a1), .val (.int (0 : Int32)), .val (.int (5 : Int32)), .val (.ref bv)] [(.int (4 : Int32)), (.ref bv)])) (fun t k => XS.iinc X9.here hx rfl (hb hby d14_108) rfl (l' := #[.val (.ref a1), .val (.int (0 : Int32)), .val (.int (5 : Int32)), .val (.ref bv)]) rfl k) ?_
  refine own_step (T' := T9) (f' := (mkF m 113 #[.val (.ref a1), .val (.int (0 : Int32)), .val (.int (5 : Int32)), .val (.ref bv)] [(.int (101 : Int32)), (.int (4 : Int32)), (.ref bv)])) (fun t k => XS.bipush X9.here hx rfl (hb hby d14_111) k) ?_
  obtain ⟨cl10, Ar10, q10, S10, M10, H10, G10⟩ := V_bv
  have hin10 : ¬ ((4 : Int32) < 0 ∨ cl10.slots.size ≤ ((4 : Int32)).toNatClampNeg) := inb_of S10 ⟨by decide, by decide⟩
  obtain ⟨T10, h10, X10, e10, W10, st10⟩ := stB X9 hx hZ e9 Ar10 (j := (4 : Int32)) hin10 (g := (mkF m 113 #[.val (.ref a1), .val (.int (0 : Int32)), .val (.int (5 : Int32)), .val (.ref bv)] [(.int (101 : Int32)), (.int (4 : Int32)), (.ref bv)])) rfl rfl (hb hby d14_113)
  have V_bv : Arv Z h10 bv kv .byte (16 : Int32) [(.int (102 : Int32)), (.int (97 : Int32)), (.int (108 : Int32)), (.int (115 : Int32)), (.int (101 : Int32)), (.int (0 : Int32)), (.int (0 : Int32)), (.int (0 : Int32)), (.int (0 : Int32)), (.int (0 : Int32)), (.int (0 : Int32)), (.int (0 : Int32)), (.int (0 : Int32)), (.int (0 : Int32)), (.int (0 : Int32)), (.int (0 : Int32))] (.int (0 : Int32)) := Arv.set Ar10 q10 S10 M10 H10 G10 (fits_nar_byte _) W10 4 rfl (Nat.le_of_ble_eq_true rfl)
  replace E_a1 := E_a1.wr W10
  replace F_value_a1 := F_value_a1.other W10 (Or.inl ne1)
  replace F_coder_a1 := F_coder_a1.other W10 (Or.inl ne1)
  replace F_count_a1 := F_count_a1.other W10 (Or.inl ne1)
  replace EX_bv := EX_bv.wr W10
  replace S_CS := S_CS.wr W10
  replace Zz := Nat.le_trans Zz (Keep.of_wr W10).1
  replace Kp := Kp.wr W10 (Or.inl (List.mem_of_getElem? (i := 1) rfl))
  have N10 := Fr.snoc X10 N9 g_bv
  refine own_step (T' := T10) (f' := (mkF m 114 #[.val (.ref a1), .val (.int (0 : Int32)), .val (.int (5 : Int32)), .val (.ref bv)] [])) (fun t k => st10 t k) ?_
  refine own_step (T' := T10) (f' := (mkF m 154 #[.val (.ref a1), .val (.int (0 : Int32)), .val (.int (5 : Int32)), .val (.ref bv)] [])) (fun t k => XS.goto X10.here hx rfl (pc0 := 114) (pc' := 154) rfl (hb hby d14_114) (by decide) (by decide) k) ?_
  refine own_step (T' := T10) (f' := (mkF m 155 #[.val (.ref a1), .val (.int (0 : Int32)), .val (.int (5 : Int32)), .val (.ref bv)] [(.ref a1)])) (fun t k => XS.aloadN X10.here hx rfl (hb hby d14_154) rfl rfl k) ?_
  refine own_step (T' := T10) (f' := (mkF m 156 #[.val (.ref a1), .val (.int (0 : Int32)), .val (.int (5 : Int32)), .val (.ref bv)] [(.int (5 : Int32)), (.ref a1)])) (fun t k => XS.iloadN X10.here hx rfl (hb hby d14_155) rfl k) ?_
  obtain ⟨T11, h11, X11, e11, W11, st11⟩ := putF X10 hx hZ hown (host := "") (Or.inl (hw _ (List.mem_of_getElem? (i := 103) rfl))) Via.refl e10 F_count_a1 E_a1 (Or.inl (hw _ (List.mem_of_getElem? (i := 104) rfl))) (hw _ (List.mem_of_getElem? (i := 67) rfl)) (ty := .int) (by decide) rfl rfl (g := (mkF m 156 #[.val (.ref a1), .val (.int (0 : Int32)), .val (.int (5 : Int32)), .val (.ref bv)] [(.int (5 : Int32)), (.ref a1)])) rfl rfl (hb hby d14_156)
  replace E_a1 := E_a1.wr W11
  replace F_value_a1 := F_value_a1.other W11 (Or.inr (Jvm.RoadKit.slot_ne (Or.inl (hw _ (List.mem_of_getElem? (i := 85) rfl))) (Or.inl (hw _ (List.mem_of_getElem? (i := 104) rfl))) (by decide) (t := (.array .byte)) (t' := .int) (by decide) (by decide)))
  replace F_coder_a1 := F_coder_a1.other W11 (Or.inr (Jvm.RoadKit.slot_ne (Or.inl (hw _ (List.mem_of_getElem? (i := 87) rfl))) (Or.inl (hw _ (List.mem_of_getElem? (i := 104) rfl))) (by decide) (t := .byte) (t' := .int) (by decide) (by decide)))
  replace F_count_a1 := F_count_a1.same W11
  replace V_bv := V_bv.other W11 (Ne.symm ne1)
  replace EX_bv := EX_bv.wr W11
  replace S_CS := S_CS.wr W11
  replace Zz := Nat.le_trans Zz (Keep.of_wr W11).1
  replace Kp := Kp.wr W11 (Or.inl (List.mem_of_getElem? (i := 0) rfl))
  have N11 := Fr.snoc X11 N10 g_a1
  refine own_step (T' := T11) (f' := (mkF m 159 #[.val (.ref a1), .val (.int (0 : Int32)), .val (.int (5 : Int32)), .val (.ref bv)] [])) (fun t k => st11 t k) ?_
  refine own_step (T' := T11) (f' := (mkF m 160 #[.val (.ref a1), .val (.int (0 : Int32)), .val (.int (5 : Int32)), .val (.ref bv)] [(.ref a1)])) (fun t k => XS.aloadN X11.here hx rfl (hb hby d14_159) rfl rfl k) ?_
  exact own_retO X11 hx hlk Bd.returns rfl (Or.inr (Or.inr (Or.inr (Or.inr ⟨rfl, rfl, rfl⟩)))) (hb hby d14_160) (by decide) (by decide) (by rw [e11]; exact ⟨rfl, N11, Kp, E_a1, F_value_a1, F_coder_a1, F_count_a1, V_bv, EX_bv, ne1⟩)

theorem ef_rm13_0 (m : MethodId) (x0 : Addr) (x1 : Int32) : entryFrame m #[(.ref x0), (.int x1)] 2 = mkF m 0 #[.val (.ref x0), .val (.int x1)] [] := by first | (simp [entryFrame, mkF, argsToLocals, Value.category]; done) | rfl
set_option maxRecDepth 65536 in
set_option maxHeartbeats 40000000 in
theorem rm13_0 (l : Launch) (Z : State) (a0 : Array Value) (hw : ∀ d ∈ tables_1, d.before a0 Z = true) (ws : List Jvm.Cond) (a1 : Addr) (h0 : Heap) (n0 : Nat) (Z0 : n0 ≤ h0.size) (bv : Addr) (kv : ClassId) (O : OwnSB Z h0 a1 bv kv 0 [(.int (0 : Int32)), (.int (0 : Int32)), (.int (0 : Int32)), (.int (0 : Int32)), (.int (0 : Int32)), (.int (0 : Int32)), (.int (0 : Int32)), (.int (0 : Int32)), (.int (0 : Int32)), (.int (0 : Int32)), (.int (0 : Int32)), (.int (0 : Int32)), (.int (0 : Int32)), (.int (0 : Int32)), (.int (0 : Int32)), (.int (0 : Int32))]) (cs : Int32) (S_CS : Sta Z h0 "java/lang/String" "COMPACT_STRINGS" "Z" (.int cs)) (hcs : ¬ cs = (0 : Int32)) (g_a1 : n0 ≤ a1) (g_bv : n0 ≤ bv) :
    MetFree l (⟨"java/lang/StringBuilder", "append", "(Z)Ljava/lang/StringBuilder;"⟩ : MethodName) (head1 (Jvm.Cond.code (⟨"java/lang/StringBuilder", "append", "(Z)Ljava/lang/StringBuilder;"⟩ : MethodName) jdk_67_method_13_code 2 (some (.object "java/lang/StringBuilder")) :: ws) ({ frames := 2, cells := 0, slots := 0, locals := 29 } : Room)) (fun a U => a = #[(.ref a1), (.int (0 : Int32))] ∧ Z.Warmed39 U.vm ∧ U.heap = h0) (fun _ _ _ _ _ => True) (fun _ U o U' => ∃ v L, o = .returned v ∧ Q14_0 Z a1 bv kv h0 n0 v U'.heap L ∧ FrameEnd U o U' L ({ frames := 2, cells := 0, slots := 0, locals := 29 } : Room).cells ({ frames := 2, cells := 0, slots := 0, locals := 29 } : Room).slots) := by
  refine MetFree.of_bodySF (plainFor_of_name pn_13) hisR ?_
  intro p e s m args below meth c s₁ Bd hml0 hP hK
  obtain ⟨rfl, hZ, hh⟩ := hP
  have hx := Bd.exec
  have hby := Bd.bytes
  have hlk : meth.locks = false := BodyLoose.notSynchronized Bd
  have hml : c.maxLocals = 2 := hml0
  have hown : s.vm.findClass "java/lang/StringBuilder" = some m.cls := findClass_of_methodNamed Bd.named
  have hnm := (name_of_methodNamed Bd.named Bd.method).1
  have X0 : Stand p l e ({ frames := 2, cells := 0, slots := 0, locals := 29 } : Room) s m #[(.ref a1), (.int (0 : Int32))] below meth c s₁ [] 0 0 := Stand.of_body Bd
  have e0 : s₁.heap = h0 := by rw [← hh, Bd.state]; rfl
  have N0 := Fr.nil n0
  show OwnEnds p e below s (Q14_0 Z a1 bv kv h0 n0) ({ frames := 2, cells := 0, slots := 0, locals := 29 } : Room).cells ({ frames := 2, cells := 0, slots := 0, locals := 29 } : Room).slots s₁ (entryFrame m #[(.ref a1), (.int (0 : Int32))] 2)
  refine own_step (T' := s₁) (f' := (mkF m 0 #[.val (.ref a1), .val (.int (0 : Int32))] [])) (fun t k => castTop (ef_rm13_0 m a1 (0 : Int32)) k) ?_
  refine own_step (T' := s₁) (f' := (mkF m 1 #[.val (.ref a1), .val (.int (0 : Int32))] [(.ref a1)])) (fun t k => XS.aloadN X0.here hx rfl (hb hby d13_0) rfl rfl k) ?_
  refine own_step (T' := s₁) (f' := (mkF m 2 #[.val (.ref a1), .val (.int (0 : Int32))] [(.int (0 : Int32)), (.ref a1)])) (fun t k => XS.iloadN X0.here hx rfl (hb hby d13_1) rfl k) ?_
  obtain ⟨_, _, ⟨T1, L1, k1, n1⟩, -, X1, ⟨Lc1, hQ1, l1, y1, z1⟩, st1⟩ := superBack X0 hx hZ (y := (⟨"java/lang/AbstractStringBuilder", "append", "(Z)Ljava/lang/AbstractStringBuilder;"⟩ : MethodName)) hown (hw _ (List.mem_of_getElem? (i := 98) rfl)) (own_same (y := (⟨"java/lang/AbstractStringBuilder", "append", "(Z)Ljava/lang/AbstractStringBuilder;"⟩ : MethodName)) (hw _ (List.mem_of_getElem? (i := 101) rfl)) (hw _ (List.mem_of_getElem? (i := 113) rfl)) rfl (by decide)) (hw _ (List.mem_of_getElem? (i := 99) rfl)) (hw _ (List.mem_of_getElem? (i := 100) rfl)) (by decide) (backOf (W := 0) (rm14_0 l Z a0 hw [] a1 h0 n0 Z0 bv kv O cs S_CS hcs g_a1 g_bv) hZ (hw _ (List.mem_of_getElem? (i := 102) rfl)) (hw _ (List.mem_of_getElem? (i := 76) rfl)) (by decide) (by decide)) e0 (Ins.self O.1) (g := (mkF m 2 #[.val (.ref a1), .val (.int (0 : Int32))] [(.int (0 : Int32)), (.ref a1)])) rfl (by rw [hml]; rfl) (hw _ (List.mem_of_getElem? (i := 102) rfl)) (argsL := [(.int (0 : Int32))]) (rest := []) (lenOf pd_13_0 rfl) rfl (by show 2 * 0 + _ ≤ _; exact Nat.le_of_eq rfl) (hb hby d13_2) (fun _ _ => ⟨rfl, e0, (by decide : 0 + 0 ≤ _), (by decide : 0 + 0 ≤ _)⟩)
  dsimp only [Pt.U, Pt.locs, Pt.cells, Pt.slots] at X1 l1 y1 z1 st1 hQ1
  subst l1 y1 z1
  obtain ⟨rfl, N1q, K1, Ow1⟩ := hQ1
  have N1 := Fr.app N0 N1q
  refine own_step (T' := T1) (f' := (mkF m 5 #[.val (.ref a1), .val (.int (0 : Int32))] [(.ref a1)])) (fun t k => st1.trans k) ?_
  refine own_step (T' := T1) (f' := (mkF m 6 #[.val (.ref a1), .val (.int (0 : Int32))] [])) (fun t k => XS.pop X1.here hx rfl (hb hby d13_5) rfl rfl k) ?_
  refine own_step (T' := T1) (f' := (mkF m 7 #[.val (.ref a1), .val (.int (0 : Int32))] [(.ref a1)])) (fun t k => XS.aloadN X1.here hx rfl (hb hby d13_6) rfl rfl k) ?_
  exact own_retO X1 hx hlk Bd.returns rfl (Or.inr (Or.inr (Or.inr (Or.inr ⟨rfl, rfl, rfl⟩)))) (hb hby d13_7) (by decide) (by decide) ⟨rfl, N1, K1, Ow1⟩

def Q12_0 (Z : State) (a2 bv : Addr) (kv : ClassId) (h0 : Heap) (n0 : Nat) (v : Option Value) (h : Heap) (L : List Loc) : Prop := v = none ∧ Fr n0 L ∧ Keep h0 h [a2, bv] ∧ OwnSB Z h a2 bv kv 5 [(.int (102 : Int32)), (.int (97 : Int32)), (.int (108 : Int32)), (.int (115 : Int32)), (.int (101 : Int32)), (.int (0 : Int32)), (.int (0 : Int32)), (.int (0 : Int32)), (.int (0 : Int32)), (.int (0 : Int32)), (.int (0 : Int32)), (.int (0 : Int32)), (.int (0 : Int32)), (.int (0 : Int32)), (.int (0 : Int32)), (.int (0 : Int32))]
theorem ef_rm12_0 (m : MethodId) (x0 : Addr) (x1 : Addr) : entryFrame m #[(.ref x0), (.ref x1)] 2 = mkF m 0 #[.val (.ref x0), .val (.ref x1)] [] := by first | (simp [entryFrame, mkF, argsToLocals, Value.category]; done) | rfl
set_option maxRecDepth 65536 in
set_option maxHeartbeats 40000000 in
theorem rm12_0 (l : Launch) (Z : State) (a0 : Array Value) (hw : ∀ d ∈ tables_1, d.before a0 Z = true) (ws : List Jvm.Cond) (a1 : Addr) (a2 : Addr) (h0 : Heap) (n0 : Nat) (Z0 : n0 ≤ h0.size) (F_v : Fld Z h0 a1 "com/example/umriss/umriss/runtime/BooleanValue" "value" "Z" (.int (0 : Int32))) (bv : Addr) (kv : ClassId) (O : OwnSB Z h0 a2 bv kv 0 [(.int (0 : Int32)), (.int (0 : Int32)), (.int (0 : Int32)), (.int (0 : Int32)), (.int (0 : Int32)), (.int (0 : Int32)), (.int (0 : Int32)), (.int (0 : Int32)), (.int (0 : Int32)), (.int (0 : Int32)), (.int (0 : Int32)), (.int (0 : Int32)), (.int (0 : Int32)), (.int (0 : Int32)), (.int (0 : Int32)), (.int (0 : Int32))]) (cs : Int32) (S_CS : Sta Z h0 "java/lang/String" "COMPACT_STRINGS" "Z" (.int cs)) (hcs : ¬ cs = (0 : Int32)) (g_a2 : n0 ≤ a2) (g_bv : n0 ≤ bv) :
    MetFree l (⟨"com/example/umriss/umriss/runtime/BooleanValue", "appendTo", "(Ljava/lang/StringBuilder;)V"⟩ : MethodName) (head1 (Jvm.Cond.code (⟨"com/example/umriss/umriss/runtime/BooleanValue", "appendTo", "(Ljava/lang/StringBuilder;)V"⟩ : MethodName) prog_7_method_6_code 2 none :: ws) ({ frames := 3, cells := 0, slots := 0, locals := 42 } : Room)) (fun a U => a = #[(.ref a1), (.ref a2)] ∧ Z.Warmed39 U.vm ∧ U.heap = h0) (fun _ _ _ _ _ => True) (fun _ U o U' => ∃ v L, o = .returned v ∧ Q12_0 Z a2 bv kv h0 n0 v U'.heap L ∧ FrameEnd U o U' L ({ frames := 3, cells := 0, slots := 0, locals := 42 } : Room).cells ({ frames := 3, cells := 0, slots := 0, locals := 42 } : Room).slots) := by
  refine MetFree.of_bodySF (plainFor_of_name pn_12) hisR ?_
  intro p e s m args below meth c s₁ Bd hml0 hP hK
  obtain ⟨rfl, hZ, hh⟩ := hP
  have hx := Bd.exec
  have hby := Bd.bytes
  have hlk : meth.locks = false := BodyLoose.notSynchronized Bd
  have hml : c.maxLocals = 2 := hml0
  have hown : s.vm.findClass "com/example/umriss/umriss/runtime/BooleanValue" = some m.cls := findClass_of_methodNamed Bd.named
  have hnm := (name_of_methodNamed Bd.named Bd.method).1
  have X0 : Stand p l e ({ frames := 3, cells := 0, slots := 0, locals := 42 } : Room) s m #[(.ref a1), (.ref a2)] below meth c s₁ [] 0 0 := Stand.of_body Bd
  have e0 : s₁.heap = h0 := by rw [← hh, Bd.state]; rfl
  have N0 := Fr.nil n0
  show OwnEnds p e below s (Q12_0 Z a2 bv kv h0 n0) ({ frames := 3, cells := 0, slots := 0, locals := 42 } : Room).cells ({ frames := 3, cells := 0, slots := 0, locals := 42 } : Room).slots s₁ (entryFrame m #[(.ref a1), (.ref a2)] 2)
  refine own_step (T' := s₁) (f' := (mkF m 0 #[.val (.ref a1), .val (.ref a2)] [])) (fun t k => castTop (ef_rm12_0 m a1 a2) k) ?_
  refine own_step (T' := s₁) (f' := (mkF m 1 #[.val (.ref a1), .val (.ref a2)] [(.ref a2)])) (fun t k => XS.aloadN X0.here hx rfl (hb hby d12_0) rfl rfl k) ?_
  refine own_step (T' := s₁) (f' := (mkF m 2 #[.val (.ref a1), .val (.ref a2)] [(.ref a1), (.ref a2)])) (fun t k => XS.aloadN X0.here hx rfl (hb hby d12_1) rfl rfl k) ?_
  obtain ⟨T1, X1, e1, st1⟩ := getF X0 hx hZ hown (host := "") (Or.inl (hw _ (List.mem_of_getElem? (i := 13) rfl))) Via.refl e0 F_v (g := (mkF m 2 #[.val (.ref a1), .val (.ref a2)] [(.ref a1), (.ref a2)])) rfl rfl (hb hby d12_2)
  refine own_step (T' := T1) (f' := (mkF m 5 #[.val (.ref a1), .val (.ref a2)] [(.int (0 : Int32)), (.ref a2)])) (fun t k => st1 t k) ?_
  obtain ⟨cq2, kq2, q2a, q2b, q2c⟩ := isOf hZ e1 O.1
  obtain ⟨_, _, ⟨T2, L2, k2, n2⟩, -, X2, ⟨Lc2, hQ2, l2, y2, z2⟩, st2⟩ := X1.virtualBack hx (y := (⟨"java/lang/StringBuilder", "append", "(Z)Ljava/lang/StringBuilder;"⟩ : MethodName)) (z := (⟨"java/lang/StringBuilder", "append", "(Z)Ljava/lang/StringBuilder;"⟩ : MethodName)) hown (mvT hZ (hw _ (List.mem_of_getElem? (i := 93) rfl))) (mvT hZ (hw _ (List.mem_of_getElem? (i := 94) rfl))) (notFace_of_selects (args := #[]) (mvT hZ (hw _ (List.mem_of_getElem? (i := 96) rfl)))) (mvT hZ (hw _ (List.mem_of_getElem? (i := 96) rfl))) (mvT hZ (hw _ (List.mem_of_getElem? (i := 95) rfl))) (by decide) (backOf (W := 0) (rm13_0 l Z a0 hw [] a2 h0 n0 Z0 bv kv O cs S_CS hcs g_a2 g_bv) hZ (hw _ (List.mem_of_getElem? (i := 97) rfl)) (hw _ (List.mem_of_getElem? (i := 68) rfl)) (by decide) (by decide)) q2a q2c (g := (mkF m 5 #[.val (.ref a1), .val (.ref a2)] [(.int (0 : Int32)), (.ref a2)])) rfl (by rw [hml]; rfl) (Steps.refl _) (argsL := [(.int (0 : Int32))]) (rest := []) (lenOf pd_12_0 rfl) rfl (by show 2 * 0 + _ ≤ _; exact Nat.le_of_eq rfl) (hb hby d12_5) (fun _ _ => ⟨rfl, e1, (by decide : 0 + 0 ≤ _), (by decide : 0 + 0 ≤ _)⟩)
  dsimp only [Pt.U, Pt.locs, Pt.cells, Pt.slots] at X2 l2 y2 z2 st2 hQ2
  subst l2 y2 z2
  obtain ⟨rfl, N2q, K2, Ow2⟩ := hQ2
  have N2 := Fr.app N0 N2q
  refine own_step (T' := T2) (f' := (mkF m 8 #[.val (.ref a1), .val (.ref a2)] [(.ref a2)])) (fun t k => st2.trans k) ?_
  refine own_step (T' := T2) (f' := (mkF m 9 #[.val (.ref a1), .val (.ref a2)] [])) (fun t k => XS.pop X2.here hx rfl (hb hby d12_8) rfl rfl k) ?_
  exact own_retV X2 hx hlk Bd.returns (hb hby d12_9) (by decide) (by decide) ⟨rfl, N2, K2, Ow2⟩

theorem ef_rm25_0 (m : MethodId) (x0 : Int32) (x1 : Int32) : entryFrame m #[(.int x0), (.int x1)] 2 = mkF m 0 #[.val (.int x0), .val (.int x1)] [] := by first | (simp [entryFrame, mkF, argsToLocals, Value.category]; done) | rfl
set_option maxRecDepth 65536 in
set_option maxHeartbeats 40000000 in
theorem rm25_0 (l : Launch) (Z : State) (a0 : Array Value) (hw : ∀ d ∈ tables_1, d.before a0 Z = true) (ws : List Jvm.Cond)  (h0 : Heap) (n0 : Nat) (Z0 : n0 ≤ h0.size)  :
    MetFree l (⟨"java/util/Arrays", "checkLength", "(II)V"⟩ : MethodName) (head1 (Jvm.Cond.code (⟨"java/util/Arrays", "checkLength", "(II)V"⟩ : MethodName) jdk_65_method_131_code 2 none :: ws) ({ frames := 0, cells := 0, slots := 0, locals := 0 } : Room)) (fun a U => a = #[(.int (0 : Int32)), (.int (5 : Int32))] ∧ Z.Warmed39 U.vm ∧ U.heap = h0) (fun _ _ _ _ _ => True) (fun _ U o U' => ∃ v L, o = .returned v ∧ QV h0 n0 v U'.heap L ∧ FrameEnd U o U' L ({ frames := 0, cells := 0, slots := 0, locals := 0 } : Room).cells ({ frames := 0, cells := 0, slots := 0, locals := 0 } : Room).slots) := by
  refine MetFree.of_bodySF (plainFor_of_name pn_25) hisR ?_
  intro p e s m args below meth c s₁ Bd hml0 hP hK
  obtain ⟨rfl, hZ, hh⟩ := hP
  have hx := Bd.exec
  have hby := Bd.bytes
  have hlk : meth.locks = false := BodyLoose.notSynchronized Bd
  have hml : c.maxLocals = 2 := hml0
  have hown : s.vm.findClass "java/util/Arrays" = some m.cls := findClass_of_methodNamed Bd.named
  have hnm := (name_of_methodNamed Bd.named Bd.method).1
  have X0 : Stand p l e ({ frames := 0, cells := 0, slots := 0, locals := 0 } : Room) s m #[(.int (0 : Int32)), (.int (5 : Int32))] below meth c s₁ [] 0 0 := Stand.of_body Bd
  have e0 : s₁.heap = h0 := by rw [← hh, Bd.state]; rfl
  have N0 := Fr.nil n0
  show OwnEnds p e below s (QV h0 n0) ({ frames := 0, cells := 0, slots := 0, locals := 0 } : Room).cells ({ frames := 0, cells := 0, slots := 0, locals := 0 } : Room).slots s₁ (entryFrame m #[(.int (0 : Int32)), (.int (5 : Int32))] 2)
  refine own_step (T' := s₁) (f' := (mkF m 0 #[.val (.int (0 : Int32)), .val (.int (5 : Int32))] [])) (fun t k => castTop (ef_rm25_0 m (0 : Int32) (5 : Int32)) k) ?_
  refine own_step (T' := s₁) (f' := (mkF m 1 #[.val (.int (0 : Int32)), .val (.int (5 : Int32))] [(.int (5 : Int32))])) (fun t k => XS.iloadN X0.here hx rfl (hb hby d25_0) rfl k) ?_
  refine own_step (T' := s₁) (f' := (mkF m 2 #[.val (.int (0 : Int32)), .val (.int (5 : Int32))] [(.int (0 : Int32)), (.int (5 : Int32))])) (fun t k => XS.iloadN X0.here hx rfl (hb hby d25_1) rfl k) ?_
  refine own_step (T' := s₁) (f' := (mkF m 37 #[.val (.int (0 : Int32)), .val (.int (5 : Int32))] [])) (fun t k => XS.icmpYes X0.here hx rfl (pc0 := 2) (pc' := 37) rfl (hb hby d25_2) rfl (flt (by decide : ¬ ((5 : Int32) < (0 : Int32)))).2.1 (by decide) (by decide) k) ?_
  exact own_retV X0 hx hlk Bd.returns (hb hby d25_37) (by decide) (by decide) ⟨rfl, N0, e0⟩

theorem ef_rm26_0 (m : MethodId) (x0 : Int32) (x1 : Int32) : entryFrame m #[(.int x0), (.int x1)] 2 = mkF m 0 #[.val (.int x0), .val (.int x1)] [] := by first | (simp [entryFrame, mkF, argsToLocals, Value.category]; done) | rfl
set_option maxRecDepth 65536 in
set_option maxHeartbeats 40000000 in
theorem rm26_0 (l : Launch) (Z : State) (a0 : Array Value) (hw : ∀ d ∈ tables_1, d.before a0 Z = true) (ws : List Jvm.Cond)  (h0 : Heap) (n0 : Nat) (Z0 : n0 ≤ h0.size)  :
    MetFree l (⟨"java/lang/Math", "min", "(II)I"⟩ : MethodName) (head1 (Jvm.Cond.code (⟨"java/lang/Math", "min", "(II)I"⟩ : MethodName) jdk_29_method_69_code 2 (some .int) :: ws) ({ frames := 0, cells := 0, slots := 0, locals := 0 } : Room)) (fun a U => a = #[(.int (16 : Int32)), (.int (5 : Int32))] ∧ Z.Warmed39 U.vm ∧ U.heap = h0) (fun _ _ _ _ _ => True) (fun _ U o U' => ∃ v L, o = .returned v ∧ QI 5 h0 n0 v U'.heap L ∧ FrameEnd U o U' L ({ frames := 0, cells := 0, slots := 0, locals := 0 } : Room).cells ({ frames := 0, cells := 0, slots := 0, locals := 0 } : Room).slots) := by
  refine MetFree.of_bodySF (Jvm.Free.JP.mathPlain rfl (by decide +kernel)) hisR ?_
  intro p e s m args below meth c s₁ Bd hml0 hP hK
  obtain ⟨rfl, hZ, hh⟩ := hP
  have hx := Bd.exec
  have hby := Bd.bytes
  have hlk : meth.locks = false := BodyLoose.notSynchronized Bd
  have hml : c.maxLocals = 2 := hml0
  have hown : s.vm.findClass "java/lang/Math" = some m.cls := findClass_of_methodNamed Bd.named
  have hnm := (name_of_methodNamed Bd.named Bd.method).1
  have X0 : Stand p l e ({ frames := 0, cells := 0, slots := 0, locals := 0 } : Room) s m #[(.int (16 : Int32)), (.int (5 : Int32))] below meth c s₁ [] 0 0 := Stand.of_body Bd
  have e0 : s₁.heap = h0 := by rw [← hh, Bd.state]; rfl
  have N0 := Fr.nil n0
  show OwnEnds p e below s (QI 5 h0 n0) ({ frames := 0, cells := 0, slots := 0, locals := 0 } : Room).cells ({ frames := 0, cells := 0, slots := 0, locals := 0 } : Room).slots s₁ (entryFrame m #[(.int (16 : Int32)), (.int (5 : Int32))] 2)
  refine own_step (T' := s₁) (f' := (mkF m 0 #[.val (.int (16 : Int32)), .val (.int (5 : Int32))] [])) (fun t k => castTop (ef_rm26_0 m (16 : Int32) (5 : Int32)) k) ?_
  refine own_step (T' := s₁) (f' := (mkF m 1 #[.val (.int (16 : Int32)), .val (.int (5 : Int32))] [(.int (16 : Int32))])) (fun t k => XS.iloadN X0.here hx rfl (hb hby d26_0) rfl k) ?_
  refine own_step (T' := s₁) (f' := (mkF m 2 #[.val (.int (16 : Int32)), .val (.int (5 : Int32))] [(.int (5 : Int32)), (.int (16 : Int32))])) (fun t k => XS.iloadN X0.here hx rfl (hb hby d26_1) rfl k) ?_
  refine own_step (T' := s₁) (f' := (mkF m 9 #[.val (.int (16 : Int32)), .val (.int (5 : Int32))] [])) (fun t k => XS.icmpYes X0.here hx rfl (pc0 := 2) (pc' := 9) rfl (hb hby d26_2) rfl (tlt (by decide : (5 : Int32) < (16 : Int32))).2.2.1 (by decide) (by decide) k) ?_
  refine own_step (T' := s₁) (f' := (mkF m 10 #[.val (.int (16 : Int32)), .val (.int (5 : Int32))] [(.int (5 : Int32))])) (fun t k => XS.iloadN X0.here hx rfl (hb hby d26_9) rfl k) ?_
  exact own_retO X0 hx hlk Bd.returns rfl (Or.inl ⟨rfl, Or.inl rfl, _, rfl⟩) (hb hby d26_10) (by decide) (by decide) ⟨rfl, N0, e0⟩

def Q24_0 (Z : State) (h0 : Heap) (n0 : Nat) (v : Option Value) (h : Heap) (L : List Loc) : Prop := ∃ (b : Addr) (k : ClassId), v = some (.ref b) ∧ Fr n0 L ∧ Keep h0 h [] ∧ h0.size ≤ b ∧ Arv Z h b k .byte (5 : Int32) [(.int (102 : Int32)), (.int (97 : Int32)), (.int (108 : Int32)), (.int (115 : Int32)), (.int (101 : Int32))] (.int (0 : Int32))
theorem ef_rm24_0 (m : MethodId) (x0 : Addr) (x1 : Int32) (x2 : Int32) : entryFrame m #[(.ref x0), (.int x1), (.int x2)] 5 = mkF m 0 #[.val (.ref x0), .val (.int x1), .val (.int x2), .unset, .unset] [] := by first | (simp [entryFrame, mkF, argsToLocals, Value.category]; done) | rfl
set_option maxRecDepth 65536 in
set_option maxHeartbeats 40000000 in
theorem rm24_0 (l : Launch) (Z : State) (a0 : Array Value) (hw : ∀ d ∈ tables_1, d.before a0 Z = true) (ws : List Jvm.Cond) (a1 : Addr) (h0 : Heap) (n0 : Nat) (Z0 : n0 ≤ h0.size) (ka : ClassId) (V_a1 : Arv Z h0 a1 ka .byte (16 : Int32) [(.int (102 : Int32)), (.int (97 : Int32)), (.int (108 : Int32)), (.int (115 : Int32)), (.int (101 : Int32)), (.int (0 : Int32)), (.int (0 : Int32)), (.int (0 : Int32)), (.int (0 : Int32)), (.int (0 : Int32)), (.int (0 : Int32)), (.int (0 : Int32)), (.int (0 : Int32)), (.int (0 : Int32)), (.int (0 : Int32)), (.int (0 : Int32))] (.int (0 : Int32))) :
    MetFree l (⟨"java/util/Arrays", "copyOfRangeByte", "([BII)[B"⟩ : MethodName) (head1 (Jvm.Cond.code (⟨"java/util/Arrays", "copyOfRangeByte", "([BII)[B"⟩ : MethodName) jdk_65_method_133_code 5 (some (.array .byte)) :: ws) ({ frames := 1, cells := 1, slots := 5, locals := 40 } : Room)) (fun a U => a = #[(.ref a1), (.int (0 : Int32)), (.int (5 : Int32))] ∧ Z.Warmed39 U.vm ∧ U.heap = h0) (fun _ _ _ _ _ => True) (fun _ U o U' => ∃ v L, o = .returned v ∧ Q24_0 Z h0 n0 v U'.heap L ∧ FrameEnd U o U' L ({ frames := 1, cells := 1, slots := 5, locals := 40 } : Room).cells ({ frames := 1, cells := 1, slots := 5, locals := 40 } : Room).slots) := by
  refine MetFree.of_bodySF (plainFor_of_name pn_24) hisR ?_
  intro p e s m args below meth c s₁ Bd hml0 hP hK
  obtain ⟨rfl, hZ, hh⟩ := hP
  have hx := Bd.exec
  have hby := Bd.bytes
  have hlk : meth.locks = false := BodyLoose.notSynchronized Bd
  have hml : c.maxLocals = 5 := hml0
  have hown : s.vm.findClass "java/util/Arrays" = some m.cls := findClass_of_methodNamed Bd.named
  have hnm := (name_of_methodNamed Bd.named Bd.method).1
  have X0 : Stand p l e ({ frames := 1, cells := 1, slots := 5, locals := 40 } : Room) s m #[(.ref a1), (.int (0 : Int32)), (.int (5 : Int32))] below meth c s₁ [] 0 0 := Stand.of_body Bd
  have e0 : s₁.heap = h0 := by rw [← hh, Bd.state]; rfl
  have N0 := Fr.nil n0
  have Zz := Z0
  have Kp : Keep h0 h0 [] := Keep.refl _ _
  show OwnEnds p e below s (Q24_0 Z h0 n0) ({ frames := 1, cells := 1, slots := 5, locals := 40 } : Room).cells ({ frames := 1, cells := 1, slots := 5, locals := 40 } : Room).slots s₁ (entryFrame m #[(.ref a1), (.int (0 : Int32)), (.int (5 : Int32))] 5)
  refine own_step (T' := s₁) (f' := (mkF m 0 #[.val (.ref a1), .val (.int (0 : Int32)), .val (.int (5 : Int32)), .unset, .unset] [])) (fun t k => castTop (ef_rm24_0 m a1 (0 : Int32) (5 : Int32)) k) ?_
  refine own_step (T' := s₁) (f' := (mkF m 1 #[.val (.ref a1), .val (.int (0 : Int32)), .val (.int (5 : Int32)), .unset, .unset] [(.int (0 : Int32))])) (fun t k => XS.iloadN X0.here hx rfl (hb hby d24_0) rfl k) ?_
  refine own_step (T' := s₁) (f' := (mkF m 2 #[.val (.ref a1), .val (.int (0 : Int32)), .val (.int (5 : Int32)), .unset, .unset] [(.int (5 : Int32)), (.int (0 : Int32))])) (fun t k => XS.iloadN X0.here hx rfl (hb hby d24_1) rfl k) ?_
  obtain ⟨_, _, ⟨T1, L1, k1, n1⟩, -, X1, ⟨Lc1, hQ1, l1, y1, z1⟩, st1⟩ := Jvm.LawKit.callS X0 hx (y := (⟨"java/util/Arrays", "checkLength", "(II)V"⟩ : MethodName)) hown (mvT hZ (hw _ (List.mem_of_getElem? (i := 153) rfl))) (mvT hZ (hw _ (List.mem_of_getElem? (i := 154) rfl))) (mvT hZ (hw _ (List.mem_of_getElem? (i := 148) rfl))) (mvT hZ (hw _ (List.mem_of_getElem? (i := 155) rfl))) (by decide) (backOf (W := 0) (rm25_0 l Z a0 hw [] h0 n0 Zz) hZ (hw _ (List.mem_of_getElem? (i := 155) rfl)) (hw _ (List.mem_of_getElem? (i := 148) rfl)) (by decide) (by decide)) (g := (mkF m 2 #[.val (.ref a1), .val (.int (0 : Int32)), .val (.int (5 : Int32)), .unset, .unset] [(.int (5 : Int32)), (.int (0 : Int32))])) rfl (by rw [hml]; rfl) (argsL := [(.int (0 : Int32)), (.int (5 : Int32))]) (rest := []) (lenOf pd_24_0 rfl) rfl (by show 2 * 0 + _ ≤ _; exact Nat.le_of_eq rfl) (hb hby d24_2) (fun _ _ => ⟨rfl, e0, (by decide : 0 + 0 ≤ _), (by decide : 0 + 0 ≤ _)⟩)
  dsimp only [Pt.U, Pt.locs, Pt.cells, Pt.slots] at X1 l1 y1 z1 st1 hQ1
  subst l1 y1 z1
  obtain ⟨rfl, N1q, E1⟩ := hQ1
  have N1 := Fr.app N0 N1q
  refine own_step (T' := T1) (f' := (mkF m 5 #[.val (.ref a1), .val (.int (0 : Int32)), .val (.int (5 : Int32)), .unset, .unset] [])) (fun t k => st1 t k) ?_
  refine own_step (T' := T1) (f' := (mkF m 6 #[.val (.ref a1), .val (.int (0 : Int32)), .val (.int (5 : Int32)), .unset, .unset] [(.int (5 : Int32))])) (fun t k => XS.iloadN X1.here hx rfl (hb hby d24_5) rfl k) ?_
  refine own_step (T' := T1) (f' := (mkF m 7 #[.val (.ref a1), .val (.int (0 : Int32)), .val (.int (5 : Int32)), .unset, .unset] [(.int (0 : Int32)), (.int (5 : Int32))])) (fun t k => XS.iloadN X1.here hx rfl (hb hby d24_6) rfl k) ?_
  refine own_step (T' := T1) (f' := (mkF m 8 #[.val (.ref a1), .val (.int (0 : Int32)), .val (.int (5 : Int32)), .unset, .unset] [(.int (5 : Int32))])) (fun t k => XS.isub X1.here hx rfl (hb hby d24_7) rfl k) ?_
  refine own_step (T' := T1) (f' := (mkF m 9 #[.val (.ref a1), .val (.int (0 : Int32)), .val (.int (5 : Int32)), .val (.int (5 : Int32)), .unset] [])) (fun t k => XS.istoreN X1.here hx rfl (hb hby d24_8) rfl (l' := #[.val (.ref a1), .val (.int (0 : Int32)), .val (.int (5 : Int32)), .val (.int (5 : Int32)), .unset]) rfl k) ?_
  refine own_step (T' := T1) (f' := (mkF m 10 #[.val (.ref a1), .val (.int (0 : Int32)), .val (.int (5 : Int32)), .val (.int (5 : Int32)), .unset] [(.int (5 : Int32))])) (fun t k => XS.iloadN X1.here hx rfl (hb hby d24_9) rfl k) ?_
  obtain ⟨T2, h2, k2, X2, e2, E2, A2, EX2, st2⟩ := newPE X1 hx hZ (hw _ (List.mem_of_getElem? (i := 83) rfl)) E1 (g := (mkF m 10 #[.val (.ref a1), .val (.int (0 : Int32)), .val (.int (5 : Int32)), .val (.int (5 : Int32)), .unset] [(.int (5 : Int32))])) rfl (hb hby d24_10) rfl (by decide) (cap := 5) (by decide) (by decide) (by decide) (by decide) (ad := "[B") rfl
  obtain ⟨b2, g2⟩ : ∃ z, z = h0.size := ⟨_, rfl⟩
  rw [← g2] at A2 EX2 st2
  have ne_a1_b2 : a1 ≠ b2 := Nat.ne_of_lt (Nat.lt_of_lt_of_le V_a1.lt (Nat.le_of_eq g2.symm))
  have g_b2 : n0 ≤ b2 := Nat.le_trans Zz (Nat.le_of_eq g2.symm)
  have sz_b2 : h0.size ≤ b2 := Nat.le_trans Kp.1 (Nat.le_of_eq g2.symm)
  replace V_a1 := V_a1.ext E2
  replace Zz := Nat.le_trans Zz E2.1
  replace Kp := Kp.ext E2
  have V_b2 : Arv Z h2 b2 k2 .byte (5 : Int32) [(.int (0 : Int32)), (.int (0 : Int32)), (.int (0 : Int32)), (.int (0 : Int32)), (.int (0 : Int32))] (.int (0 : Int32)) := (Arv.new A2 (by decide)).pad (pad_rep [] (.int (0 : Int32)) 5)
  have EX_b2 := EX2
  refine own_step (T' := T2) (f' := (mkF m 12 #[.val (.ref a1), .val (.int (0 : Int32)), .val (.int (5 : Int32)), .val (.int (5 : Int32)), .unset] [(.ref b2)])) (fun t k => st2 t k) ?_
  refine own_step (T' := T2) (f' := (mkF m 14 #[.val (.ref a1), .val (.int (0 : Int32)), .val (.int (5 : Int32)), .val (.int (5 : Int32)), .val (.ref b2)] [])) (fun t k => XS.astore X2.here hx rfl (hb hby d24_12) rfl rfl (l' := #[.val (.ref a1), .val (.int (0 : Int32)), .val (.int (5 : Int32)), .val (.int (5 : Int32)), .val (.ref b2)]) rfl k) ?_
  refine own_step (T' := T2) (f' := (mkF m 15 #[.val (.ref a1), .val (.int (0 : Int32)), .val (.int (5 : Int32)), .val (.int (5 : Int32)), .val (.ref b2)] [(.ref a1)])) (fun t k => XS.aloadN X2.here hx rfl (hb hby d24_14) rfl rfl k) ?_
  refine own_step (T' := T2) (f' := (mkF m 16 #[.val (.ref a1), .val (.int (0 : Int32)), .val (.int (5 : Int32)), .val (.int (5 : Int32)), .val (.ref b2)] [(.int (0 : Int32)), (.ref a1)])) (fun t k => XS.iloadN X2.here hx rfl (hb hby d24_15) rfl k) ?_
  refine own_step (T' := T2) (f' := (mkF m 18 #[.val (.ref a1), .val (.int (0 : Int32)), .val (.int (5 : Int32)), .val (.int (5 : Int32)), .val (.ref b2)] [(.ref b2), (.int (0 : Int32)), (.ref a1)])) (fun t k => XS.aload X2.here hx rfl (hb hby d24_16) rfl rfl k) ?_
  refine own_step (T' := T2) (f' := (mkF m 19 #[.val (.ref a1), .val (.int (0 : Int32)), .val (.int (5 : Int32)), .val (.int (5 : Int32)), .val (.ref b2)] [(.int (0 : Int32)), (.ref b2), (.int (0 : Int32)), (.ref a1)])) (fun t k => XS.iconst X2.here hx rfl (hb hby d24_18) k) ?_
  refine own_step (T' := T2) (f' := (mkF m 20 #[.val (.ref a1), .val (.int (0 : Int32)), .val (.int (5 : Int32)), .val (.int (5 : Int32)), .val (.ref b2)] [(.ref a1), (.int (0 : Int32)), (.ref b2), (.int (0 : Int32)), (.ref a1)])) (fun t k => XS.aloadN X2.here hx rfl (hb hby d24_19) rfl rfl k) ?_
  obtain ⟨cl3, Ar3, q3, S3, M3, H3, G3⟩ := id V_a1
  refine own_step (T' := T2) (f' := (mkF m 21 #[.val (.ref a1), .val (.int (0 : Int32)), .val (.int (5 : Int32)), .val (.int (5 : Int32)), .val (.ref b2)] [(.int (16 : Int32)), (.int (0 : Int32)), (.ref b2), (.int (0 : Int32)), (.ref a1)])) (fun t k => X2.arraylength hx (by rw [e2]; exact Ar3.1) (State.isArrayOf_alike hZ.alike Ar3.2.1) (g := (mkF m 20 #[.val (.ref a1), .val (.int (0 : Int32)), .val (.int (5 : Int32)), .val (.int (5 : Int32)), .val (.ref b2)] [(.ref a1), (.int (0 : Int32)), (.ref b2), (.int (0 : Int32)), (.ref a1)])) rfl rfl (hb hby d24_20) _ (by rw [len_of S3 M3]; exact k)) ?_
  refine own_step (T' := T2) (f' := (mkF m 22 #[.val (.ref a1), .val (.int (0 : Int32)), .val (.int (5 : Int32)), .val (.int (5 : Int32)), .val (.ref b2)] [(.int (0 : Int32)), (.int (16 : Int32)), (.int (0 : Int32)), (.ref b2), (.int (0 : Int32)), (.ref a1)])) (fun t k => XS.iloadN X2.here hx rfl (hb hby d24_21) rfl k) ?_
  refine own_step (T' := T2) (f' := (mkF m 23 #[.val (.ref a1), .val (.int (0 : Int32)), .val (.int (5 : Int32)), .val (.int (5 : Int32)), .val (.ref b2)] [(.int (16 : Int32)), (.int (0 : Int32)), (.ref b2), (.int (0 : Int32)), (.ref a1)])) (fun t k => XS.isub X2.here hx rfl (hb hby d24_22) rfl k) ?_
  refine own_step (T' := T2) (f' := (mkF m 24 #[.val (.ref a1), .val (.int (0 : Int32)), .val (.int (5 : Int32)), .val (.int (5 : Int32)), .val (.ref b2)] [(.int (5 : Int32)), (.int (16 : Int32)), (.int (0 : Int32)), (.ref b2), (.int (0 : Int32)), (.ref a1)])) (fun t k => XS.iloadN X2.here hx rfl (hb hby d24_23) rfl k) ?_
  obtain ⟨_, _, ⟨T4, L4, k4, n4⟩, -, X4, ⟨Lc4, hQ4, l4, y4, z4⟩, st4⟩ := Jvm.LawKit.callS X2 hx (y := (⟨"java/lang/Math", "min", "(II)I"⟩ : MethodName)) hown (mvT hZ (hw _ (List.mem_of_getElem? (i := 156) rfl))) (mvT hZ (hw _ (List.mem_of_getElem? (i := 157) rfl))) (mvT hZ (hw _ (List.mem_of_getElem? (i := 158) rfl))) (mvT hZ (hw _ (List.mem_of_getElem? (i := 159) rfl))) (by decide) (backOf (W := 4) (rm26_0 l Z a0 hw [] h2 n0 Zz) hZ (hw _ (List.mem_of_getElem? (i := 159) rfl)) (hw _ (List.mem_of_getElem? (i := 158) rfl)) (by decide) (by decide)) (g := (mkF m 24 #[.val (.ref a1), .val (.int (0 : Int32)), .val (.int (5 : Int32)), .val (.int (5 : Int32)), .val (.ref b2)] [(.int (5 : Int32)), (.int (16 : Int32)), (.int (0 : Int32)), (.ref b2), (.int (0 : Int32)), (.ref a1)])) rfl (by rw [hml]; rfl) (argsL := [(.int (16 : Int32)), (.int (5 : Int32))]) (rest := [(.int (0 : Int32)), (.ref b2), (.int (0 : Int32)), (.ref a1)]) (lenOf pd_24_1 rfl) rfl (by show 2 * 0 + _ ≤ _; exact Nat.le_of_eq rfl) (hb hby d24_24) (fun _ _ => ⟨rfl, e2, (by decide : 1 + 0 ≤ _), (by decide : 5 + 0 ≤ _)⟩)
  dsimp only [Pt.U, Pt.locs, Pt.cells, Pt.slots] at X4 l4 y4 z4 st4 hQ4
  subst l4 y4 z4
  obtain ⟨rfl, N4q, E4⟩ := hQ4
  have N4 := Fr.app N1 N4q
  refine own_step (T' := T4) (f' := (mkF m 27 #[.val (.ref a1), .val (.int (0 : Int32)), .val (.int (5 : Int32)), .val (.int (5 : Int32)), .val (.ref b2)] [(.int (5 : Int32)), (.int (0 : Int32)), (.ref b2), (.int (0 : Int32)), (.ref a1)])) (fun t k => st4 t k) ?_
  obtain ⟨T5, h5, Lc5, X5, e5, Nf5, K5, Vc5, st5⟩ := cpA X4 hx hZ hown (hw _ (List.mem_of_getElem? (i := 160) rfl)) (hw _ (List.mem_of_getElem? (i := 163) rfl)) (hw _ (List.mem_of_getElem? (i := 161) rfl)) (hw _ (List.mem_of_getElem? (i := 162) rfl)) E4 V_a1 V_b2 (us := [(.int (102 : Int32)), (.int (97 : Int32)), (.int (108 : Int32)), (.int (115 : Int32)), (.int (101 : Int32))]) (Or.inl ⟨rfl, rfl⟩) (by decide) (by decide) (by decide) (by decide) (by decide) rfl (by decide) N4 g_b2 (g := (mkF m 27 #[.val (.ref a1), .val (.int (0 : Int32)), .val (.int (5 : Int32)), .val (.int (5 : Int32)), .val (.ref b2)] [(.int (5 : Int32)), (.int (0 : Int32)), (.ref b2), (.int (0 : Int32)), (.ref a1)])) rfl (by rw [hml]; rfl) rfl (hb hby d24_27) (by decide) (W := 0) (by show 2 * 0 + _ ≤ _; exact Nat.le_of_eq rfl) (by decide)
  replace V_a1 := V_a1.keep K5 (ninS ne_a1_b2 nin0)
  replace EX_b2 := EX_b2.keep K5
  replace Zz := Nat.le_trans Zz K5.1
  replace Kp := Kp.trans K5 (allS (Or.inr sz_b2) all0)
  have V_b2 : Arv Z h5 b2 k2 .byte (5 : Int32) [(.int (102 : Int32)), (.int (97 : Int32)), (.int (108 : Int32)), (.int (115 : Int32)), (.int (101 : Int32))] (.int (0 : Int32)) := Vc5
  refine own_step (T' := T5) (f' := (mkF m 30 #[.val (.ref a1), .val (.int (0 : Int32)), .val (.int (5 : Int32)), .val (.int (5 : Int32)), .val (.ref b2)] [])) (fun t k => st5 t k) ?_
  refine own_step (T' := T5) (f' := (mkF m 32 #[.val (.ref a1), .val (.int (0 : Int32)), .val (.int (5 : Int32)), .val (.int (5 : Int32)), .val (.ref b2)] [(.ref b2)])) (fun t k => XS.aload X5.here hx rfl (hb hby d24_30) rfl rfl k) ?_
  exact own_retO X5 hx hlk Bd.returns rfl (Or.inr (Or.inr (Or.inr (Or.inr ⟨rfl, rfl, rfl⟩)))) (hb hby d24_32) (by decide) (by decide) (by rw [e5]; exact ⟨b2, k2, rfl, Nf5, Kp, sz_b2, V_b2⟩)

theorem ef_rm23_0 (m : MethodId) (x0 : Addr) (x1 : Int32) (x2 : Int32) : entryFrame m #[(.ref x0), (.int x1), (.int x2)] 3 = mkF m 0 #[.val (.ref x0), .val (.int x1), .val (.int x2)] [] := by first | (simp [entryFrame, mkF, argsToLocals, Value.category]; done) | rfl
set_option maxRecDepth 65536 in
set_option maxHeartbeats 40000000 in
theorem rm23_0 (l : Launch) (Z : State) (a0 : Array Value) (hw : ∀ d ∈ tables_1, d.before a0 Z = true) (ws : List Jvm.Cond) (a1 : Addr) (h0 : Heap) (n0 : Nat) (Z0 : n0 ≤ h0.size) (ka : ClassId) (V_a1 : Arv Z h0 a1 ka .byte (16 : Int32) [(.int (102 : Int32)), (.int (97 : Int32)), (.int (108 : Int32)), (.int (115 : Int32)), (.int (101 : Int32)), (.int (0 : Int32)), (.int (0 : Int32)), (.int (0 : Int32)), (.int (0 : Int32)), (.int (0 : Int32)), (.int (0 : Int32)), (.int (0 : Int32)), (.int (0 : Int32)), (.int (0 : Int32)), (.int (0 : Int32)), (.int (0 : Int32))] (.int (0 : Int32))) :
    MetFree l (⟨"java/util/Arrays", "copyOfRange", "([BII)[B"⟩ : MethodName) (head1 (Jvm.Cond.code (⟨"java/util/Arrays", "copyOfRange", "([BII)[B"⟩ : MethodName) jdk_65_method_132_code 3 (some (.array .byte)) :: ws) ({ frames := 2, cells := 1, slots := 5, locals := 56 } : Room)) (fun a U => a = #[(.ref a1), (.int (0 : Int32)), (.int (5 : Int32))] ∧ Z.Warmed39 U.vm ∧ U.heap = h0) (fun _ _ _ _ _ => True) (fun _ U o U' => ∃ v L, o = .returned v ∧ Q24_0 Z h0 n0 v U'.heap L ∧ FrameEnd U o U' L ({ frames := 2, cells := 1, slots := 5, locals := 56 } : Room).cells ({ frames := 2, cells := 1, slots := 5, locals := 56 } : Room).slots) := by
  refine MetFree.of_bodySF (plainFor_of_name pn_23) hisR ?_
  intro p e s m args below meth c s₁ Bd hml0 hP hK
  obtain ⟨rfl, hZ, hh⟩ := hP
  have hx := Bd.exec
  have hby := Bd.bytes
  have hlk : meth.locks = false := BodyLoose.notSynchronized Bd
  have hml : c.maxLocals = 3 := hml0
  have hown : s.vm.findClass "java/util/Arrays" = some m.cls := findClass_of_methodNamed Bd.named
  have hnm := (name_of_methodNamed Bd.named Bd.method).1
  have X0 : Stand p l e ({ frames := 2, cells := 1, slots := 5, locals := 56 } : Room) s m #[(.ref a1), (.int (0 : Int32)), (.int (5 : Int32))] below meth c s₁ [] 0 0 := Stand.of_body Bd
  have e0 : s₁.heap = h0 := by rw [← hh, Bd.state]; rfl
  have N0 := Fr.nil n0
  have Zz := Z0
  have Kp : Keep h0 h0 [] := Keep.refl _ _
  show OwnEnds p e below s (Q24_0 Z h0 n0) ({ frames := 2, cells := 1, slots := 5, locals := 56 } : Room).cells ({ frames := 2, cells := 1, slots := 5, locals := 56 } : Room).slots s₁ (entryFrame m #[(.ref a1), (.int (0 : Int32)), (.int (5 : Int32))] 3)
  refine own_step (T' := s₁) (f' := (mkF m 0 #[.val (.ref a1), .val (.int (0 : Int32)), .val (.int (5 : Int32))] [])) (fun t k => castTop (ef_rm23_0 m a1 (0 : Int32) (5 : Int32)) k) ?_
  refine own_step (T' := s₁) (f' := (mkF m 1 #[.val (.ref a1), .val (.int (0 : Int32)), .val (.int (5 : Int32))] [(.int (0 : Int32))])) (fun t k => XS.iloadN X0.here hx rfl (hb hby d23_0) rfl k) ?_
  refine own_step (T' := s₁) (f' := (mkF m 4 #[.val (.ref a1), .val (.int (0 : Int32)), .val (.int (5 : Int32))] [])) (fun t k => XS.ifNo X0.here hx rfl (hb hby d23_1) rfl ((if0 _ _).trans (teq (by decide : (0 : Int32) = (0 : Int32))).2) k) ?_
  refine own_step (T' := s₁) (f' := (mkF m 5 #[.val (.ref a1), .val (.int (0 : Int32)), .val (.int (5 : Int32))] [(.int (5 : Int32))])) (fun t k => XS.iloadN X0.here hx rfl (hb hby d23_4) rfl k) ?_
  refine own_step (T' := s₁) (f' := (mkF m 6 #[.val (.ref a1), .val (.int (0 : Int32)), .val (.int (5 : Int32))] [(.ref a1), (.int (5 : Int32))])) (fun t k => XS.aloadN X0.here hx rfl (hb hby d23_5) rfl rfl k) ?_
  obtain ⟨cl1, Ar1, q1, S1, M1, H1, G1⟩ := id V_a1
  refine own_step (T' := s₁) (f' := (mkF m 7 #[.val (.ref a1), .val (.int (0 : Int32)), .val (.int (5 : Int32))] [(.int (16 : Int32)), (.int (5 : Int32))])) (fun t k => X0.arraylength hx (by rw [e0]; exact Ar1.1) (State.isArrayOf_alike hZ.alike Ar1.2.1) (g := (mkF m 6 #[.val (.ref a1), .val (.int (0 : Int32)), .val (.int (5 : Int32))] [(.ref a1), (.int (5 : Int32))])) rfl rfl (hb hby d23_6) _ (by rw [len_of S1 M1]; exact k)) ?_
  refine own_step (T' := s₁) (f' := (mkF m 10 #[.val (.ref a1), .val (.int (0 : Int32)), .val (.int (5 : Int32))] [])) (fun t k => XS.icmpNo X0.here hx rfl (hb hby d23_7) rfl (feq (by decide : ¬ ((5 : Int32) = (16 : Int32)))).1 k) ?_
  refine own_step (T' := s₁) (f' := (mkF m 11 #[.val (.ref a1), .val (.int (0 : Int32)), .val (.int (5 : Int32))] [(.ref a1)])) (fun t k => XS.aloadN X0.here hx rfl (hb hby d23_10) rfl rfl k) ?_
  refine own_step (T' := s₁) (f' := (mkF m 12 #[.val (.ref a1), .val (.int (0 : Int32)), .val (.int (5 : Int32))] [(.int (0 : Int32)), (.ref a1)])) (fun t k => XS.iloadN X0.here hx rfl (hb hby d23_11) rfl k) ?_
  refine own_step (T' := s₁) (f' := (mkF m 13 #[.val (.ref a1), .val (.int (0 : Int32)), .val (.int (5 : Int32))] [(.int (5 : Int32)), (.int (0 : Int32)), (.ref a1)])) (fun t k => XS.iloadN X0.here hx rfl (hb hby d23_12) rfl k) ?_
  obtain ⟨_, _, ⟨T2, L2, k2, n2⟩, -, X2, ⟨Lc2, hQ2, l2, y2, z2⟩, st2⟩ := Jvm.LawKit.callS X0 hx (y := (⟨"java/util/Arrays", "copyOfRangeByte", "([BII)[B"⟩ : MethodName)) hown (mvT hZ (hw _ (List.mem_of_getElem? (i := 150) rfl))) (mvT hZ (hw _ (List.mem_of_getElem? (i := 151) rfl))) (mvT hZ (hw _ (List.mem_of_getElem? (i := 148) rfl))) (mvT hZ (hw _ (List.mem_of_getElem? (i := 152) rfl))) (by decide) (backOf (W := 0) (rm24_0 l Z a0 hw [] a1 h0 n0 Zz ka V_a1) hZ (hw _ (List.mem_of_getElem? (i := 152) rfl)) (hw _ (List.mem_of_getElem? (i := 148) rfl)) (by decide) (by decide)) (g := (mkF m 13 #[.val (.ref a1), .val (.int (0 : Int32)), .val (.int (5 : Int32))] [(.int (5 : Int32)), (.int (0 : Int32)), (.ref a1)])) rfl (by rw [hml]; rfl) (argsL := [(.ref a1), (.int (0 : Int32)), (.int (5 : Int32))]) (rest := []) (lenOf pd_23_0 rfl) rfl (by show 2 * 0 + _ ≤ _; exact Nat.le_of_eq rfl) (hb hby d23_13) (fun _ _ => ⟨rfl, e0, (by decide : 0 + 1 ≤ _), (by decide : 0 + 5 ≤ _)⟩)
  dsimp only [Pt.U, Pt.locs, Pt.cells, Pt.slots] at X2 l2 y2 z2 st2 hQ2
  subst l2 y2 z2
  obtain ⟨rb2, rk2, rfl, N2q, K2, zz2, Vr2⟩ := hQ2
  have N2 := Fr.app N0 N2q
  refine own_step (T' := T2) (f' := (mkF m 16 #[.val (.ref a1), .val (.int (0 : Int32)), .val (.int (5 : Int32))] [(.ref rb2)])) (fun t k => st2 t k) ?_
  exact own_retO X2 hx hlk Bd.returns rfl (Or.inr (Or.inr (Or.inr (Or.inr ⟨rfl, rfl, rfl⟩)))) (hb hby d23_16) (by decide) (by decide) ⟨rb2, rk2, rfl, N2, K2, zz2, Vr2⟩

def Q19_0 (Z : State) (a1 : Addr) (h0 : Heap) (n0 : Nat) (v : Option Value) (h : Heap) (L : List Loc) : Prop := v = none ∧ Fr n0 L ∧ Keep h0 h [a1] ∧ ∃ (b : Addr) (k : ClassId), OwnStr Z h a1 b k 5 [(.int (102 : Int32)), (.int (97 : Int32)), (.int (108 : Int32)), (.int (115 : Int32)), (.int (101 : Int32))]
theorem ef_rm19_0 (m : MethodId) (x0 : Addr) (x1 : Addr) : entryFrame m #[(.ref x0), (.ref x1), .null] 5 = mkF m 0 #[.val (.ref x0), .val (.ref x1), .val .null, .unset, .unset] [] := by first | (simp [entryFrame, mkF, argsToLocals, Value.category]; done) | rfl
set_option maxRecDepth 65536 in
set_option maxHeartbeats 40000000 in
theorem rm19_0 (l : Launch) (Z : State) (a0 : Array Value) (hw : ∀ d ∈ tables_1, d.before a0 Z = true) (ws : List Jvm.Cond) (a1 : Addr) (a2 : Addr) (h0 : Heap) (n0 : Nat) (Z0 : n0 ≤ h0.size) (E_a1 : Exa Z h0 a1 "java/lang/String") (F_value_a1 : Fld Z h0 a1 "java/lang/String" "value" "[B" .null) (F_coder_a1 : Fld Z h0 a1 "java/lang/String" "coder" "B" (.int (0 : Int32))) (g_a1 : n0 ≤ a1) (bv : Addr) (kv : ClassId) (O : OwnSB Z h0 a2 bv kv 5 [(.int (102 : Int32)), (.int (97 : Int32)), (.int (108 : Int32)), (.int (115 : Int32)), (.int (101 : Int32)), (.int (0 : Int32)), (.int (0 : Int32)), (.int (0 : Int32)), (.int (0 : Int32)), (.int (0 : Int32)), (.int (0 : Int32)), (.int (0 : Int32)), (.int (0 : Int32)), (.int (0 : Int32)), (.int (0 : Int32)), (.int (0 : Int32))]) (cs : Int32) (S_CS : Sta Z h0 "java/lang/String" "COMPACT_STRINGS" "Z" (.int cs)) (hcs : ¬ cs = (0 : Int32)) (n12 : a1 ≠ a2) (n1b : a1 ≠ bv) :
    MetFree l (⟨"java/lang/String", "<init>", "(Ljava/lang/AbstractStringBuilder;Ljava/lang/Void;)V"⟩ : MethodName) (head1 (Jvm.Cond.code (⟨"java/lang/String", "<init>", "(Ljava/lang/AbstractStringBuilder;Ljava/lang/Void;)V"⟩ : MethodName) jdk_42_method_150_code 5 none :: ws) ({ frames := 3, cells := 1, slots := 5, locals := 71 } : Room)) (fun a U => a = #[(.ref a1), (.ref a2), .null] ∧ Z.Warmed39 U.vm ∧ U.heap = h0) (fun _ _ _ _ _ => True) (fun _ U o U' => ∃ v L, o = .returned v ∧ Q19_0 Z a1 h0 n0 v U'.heap L ∧ FrameEnd U o U' L ({ frames := 3, cells := 1, slots := 5, locals := 71 } : Room).cells ({ frames := 3, cells := 1, slots := 5, locals := 71 } : Room).slots) := by
  refine MetFree.of_bodySF (plainFor_of_name pn_19) hisR ?_
  intro p e s m args below meth c s₁ Bd hml0 hP hK
  obtain ⟨rfl, hZ, hh⟩ := hP
  have hx := Bd.exec
  have hby := Bd.bytes
  have hlk : meth.locks = false := BodyLoose.notSynchronized Bd
  have hml : c.maxLocals = 5 := hml0
  have hown : s.vm.findClass "java/lang/String" = some m.cls := findClass_of_methodNamed Bd.named
  have hnm := (name_of_methodNamed Bd.named Bd.method).1
  have X0 : Stand p l e ({ frames := 3, cells := 1, slots := 5, locals := 71 } : Room) s m #[(.ref a1), (.ref a2), .null] below meth c s₁ [] 0 0 := Stand.of_body Bd
  have e0 : s₁.heap = h0 := by rw [← hh, Bd.state]; rfl
  have N0 := Fr.nil n0
  have Zz := Z0
  have Kp : Keep h0 h0 [a1] := Keep.refl _ _
  obtain ⟨E_a2, F_value_a2, F_coder_a2, F_count_a2, V_bv, EX_bv, ne1⟩ := O
  show OwnEnds p e below s (Q19_0 Z a1 h0 n0) ({ frames := 3, cells := 1, slots := 5, locals := 71 } : Room).cells ({ frames := 3, cells := 1, slots := 5, locals := 71 } : Room).slots s₁ (entryFrame m #[(.ref a1), (.ref a2), .null] 5)
  refine own_step (T' := s₁) (f' := (mkF m 0 #[.val (.ref a1), .val (.ref a2), .val .null, .unset, .unset] [])) (fun t k => castTop (ef_rm19_0 m a1 a2) k) ?_
  refine own_step (T' := s₁) (f' := (mkF m 1 #[.val (.ref a1), .val (.ref a2), .val .null, .unset, .unset] [(.ref a1)])) (fun t k => XS.aloadN X0.here hx rfl (hb hby d19_0) rfl rfl k) ?_
  obtain ⟨T1, X1, e1, st1⟩ := initO X0 hx hZ hown (hw _ (List.mem_of_getElem? (i := 129) rfl)) (hw _ (List.mem_of_getElem? (i := 79) rfl)) (hw _ (List.mem_of_getElem? (i := 80) rfl)) e0 (g := (mkF m 1 #[.val (.ref a1), .val (.ref a2), .val .null, .unset, .unset] [(.ref a1)])) rfl (by rw [hml]; rfl) rfl (hb hby d19_1) (by decide) (W := 0) (by show 2 * 0 + _ ≤ _; exact Nat.le_of_eq rfl) (by decide)
  refine own_step (T' := T1) (f' := (mkF m 4 #[.val (.ref a1), .val (.ref a2), .val .null, .unset, .unset] [])) (fun t k => st1 t k) ?_
  refine own_step (T' := T1) (f' := (mkF m 5 #[.val (.ref a1), .val (.ref a2), .val .null, .unset, .unset] [(.ref a2)])) (fun t k => XS.aloadN X1.here hx rfl (hb hby d19_4) rfl rfl k) ?_
  obtain ⟨cq2, kq2, q2a, q2b, q2c⟩ := isOf hZ e1 E_a2
  obtain ⟨_, _, ⟨T2, L2, k2, n2⟩, -, X2, ⟨Lc2, hQ2, l2, y2, z2⟩, st2⟩ := X1.virtualBack hx (y := (⟨"java/lang/AbstractStringBuilder", "getValue", "()[B"⟩ : MethodName)) (z := (⟨"java/lang/AbstractStringBuilder", "getValue", "()[B"⟩ : MethodName)) hown (mvT hZ (hw _ (List.mem_of_getElem? (i := 130) rfl))) (mvT hZ (hw _ (List.mem_of_getElem? (i := 131) rfl))) (notFace_of_selects (args := #[]) (mvT hZ (hw _ (List.mem_of_getElem? (i := 133) rfl)))) (mvT hZ (hw _ (List.mem_of_getElem? (i := 133) rfl))) (mvT hZ (hw _ (List.mem_of_getElem? (i := 132) rfl))) (by decide) (backOf (W := 0) (rm20 l Z a0 hw [] a2 h0 n0 Zz bv F_value_a2) hZ (hw _ (List.mem_of_getElem? (i := 134) rfl)) (hw _ (List.mem_of_getElem? (i := 76) rfl)) (by decide) (by decide)) q2a q2c (g := (mkF m 5 #[.val (.ref a1), .val (.ref a2), .val .null, .unset, .unset] [(.ref a2)])) rfl (by rw [hml]; rfl) (Steps.refl _) (argsL := []) (rest := []) (lenOf pd_19_0 rfl) rfl (by show 2 * 0 + _ ≤ _; exact Nat.le_of_eq rfl) (hb hby d19_5) (fun _ _ => ⟨rfl, e1, (by decide : 0 + 0 ≤ _), (by decide : 0 + 0 ≤ _)⟩)
  dsimp only [Pt.U, Pt.locs, Pt.cells, Pt.slots] at X2 l2 y2 z2 st2 hQ2
  subst l2 y2 z2
  obtain ⟨rfl, N2q, E2⟩ := hQ2
  have N2 := Fr.app N0 N2q
  refine own_step (T' := T2) (f' := (mkF m 8 #[.val (.ref a1), .val (.ref a2), .val .null, .unset, .unset] [(.ref bv)])) (fun t k => st2.trans k) ?_
  refine own_step (T' := T2) (f' := (mkF m 9 #[.val (.ref a1), .val (.ref a2), .val .null, .val (.ref bv), .unset] [])) (fun t k => XS.astoreN X2.here hx rfl (hb hby d19_8) rfl rfl (l' := #[.val (.ref a1), .val (.ref a2), .val .null, .val (.ref bv), .unset]) rfl k) ?_
  refine own_step (T' := T2) (f' := (mkF m 10 #[.val (.ref a1), .val (.ref a2), .val .null, .val (.ref bv), .unset] [(.ref a2)])) (fun t k => XS.aloadN X2.here hx rfl (hb hby d19_9) rfl rfl k) ?_
  obtain ⟨cq3, kq3, q3a, q3b, q3c⟩ := isOf hZ E2 E_a2
  obtain ⟨_, _, ⟨T3, L3, k3, n3⟩, -, X3, ⟨Lc3, hQ3, l3, y3, z3⟩, st3⟩ := X2.virtualBack hx (y := (⟨"java/lang/AbstractStringBuilder", "length", "()I"⟩ : MethodName)) (z := (⟨"java/lang/StringBuilder", "length", "()I"⟩ : MethodName)) hown (mvT hZ (hw _ (List.mem_of_getElem? (i := 135) rfl))) (mvT hZ (hw _ (List.mem_of_getElem? (i := 136) rfl))) (own_nf (args := #[]) (mvT hZ (hw _ (List.mem_of_getElem? (i := 113) rfl))) rfl) (mvT hZ (hw _ (List.mem_of_getElem? (i := 138) rfl))) (mvT hZ (hw _ (List.mem_of_getElem? (i := 139) rfl))) (by decide) (backOf (W := 0) (rm21 l Z a0 hw [] a2 h0 n0 Zz (5 : Int32) F_count_a2 E_a2) hZ (hw _ (List.mem_of_getElem? (i := 140) rfl)) (hw _ (List.mem_of_getElem? (i := 68) rfl)) (by decide) (by decide)) q3a q3c (g := (mkF m 10 #[.val (.ref a1), .val (.ref a2), .val .null, .val (.ref bv), .unset] [(.ref a2)])) rfl (by rw [hml]; rfl) (Steps.refl _) (argsL := []) (rest := []) (lenOf pd_19_1 rfl) rfl (by show 2 * 0 + _ ≤ _; exact Nat.le_of_eq rfl) (hb hby d19_10) (fun _ _ => ⟨rfl, E2, (by decide : 0 + 0 ≤ _), (by decide : 0 + 0 ≤ _)⟩)
  dsimp only [Pt.U, Pt.locs, Pt.cells, Pt.slots] at X3 l3 y3 z3 st3 hQ3
  subst l3 y3 z3
  obtain ⟨rfl, N3q, E3⟩ := hQ3
  have N3 := Fr.app N2 N3q
  refine own_step (T' := T3) (f' := (mkF m 13 #[.val (.ref a1), .val (.ref a2), .val .null, .val (.ref bv), .unset] [(.int (5 : Int32))])) (fun t k => st3.trans k) ?_
  refine own_step (T' := T3) (f' := (mkF m 15 #[.val (.ref a1), .val (.ref a2), .val .null, .val (.ref bv), .val (.int (5 : Int32))] [])) (fun t k => XS.istore X3.here hx rfl (hb hby d19_13) rfl (l' := #[.val (.ref a1), .val (.ref a2), .val .null, .val (.ref bv), .val (.int (5 : Int32))]) rfl k) ?_
  refine own_step (T' := T3) (f' := (mkF m 16 #[.val (.ref a1), .val (.ref a2), .val .null, .val (.ref bv), .val (.int (5 : Int32))] [(.ref a2)])) (fun t k => XS.aloadN X3.here hx rfl (hb hby d19_15) rfl rfl k) ?_
  obtain ⟨cq4, kq4, q4a, q4b, q4c⟩ := isOf hZ E3 E_a2
  obtain ⟨_, _, ⟨T4, L4, k4, n4⟩, -, X4, ⟨Lc4, hQ4, l4, y4, z4⟩, st4⟩ := X3.virtualBack hx (y := (⟨"java/lang/AbstractStringBuilder", "isLatin1", "()Z"⟩ : MethodName)) (z := (⟨"java/lang/AbstractStringBuilder", "isLatin1", "()Z"⟩ : MethodName)) hown (mvT hZ (hw _ (List.mem_of_getElem? (i := 143) rfl))) (mvT hZ (hw _ (List.mem_of_getElem? (i := 111) rfl))) (notFace_of_selects (args := #[]) (mvT hZ (hw _ (List.mem_of_getElem? (i := 113) rfl)))) (mvT hZ (hw _ (List.mem_of_getElem? (i := 113) rfl))) (mvT hZ (hw _ (List.mem_of_getElem? (i := 112) rfl))) (by decide) (backOf (W := 0) (rm16 l Z a0 hw [] a2 h0 n0 Zz F_coder_a2 cs S_CS hcs) hZ (hw _ (List.mem_of_getElem? (i := 114) rfl)) (hw _ (List.mem_of_getElem? (i := 76) rfl)) (by decide) (by decide)) q4a q4c (g := (mkF m 16 #[.val (.ref a1), .val (.ref a2), .val .null, .val (.ref bv), .val (.int (5 : Int32))] [(.ref a2)])) rfl (by rw [hml]; rfl) (Steps.refl _) (argsL := []) (rest := []) (lenOf pd_19_2 rfl) rfl (by show 2 * 0 + _ ≤ _; exact Nat.le_of_eq rfl) (hb hby d19_16) (fun _ _ => ⟨rfl, E3, (by decide : 0 + 0 ≤ _), (by decide : 0 + 0 ≤ _)⟩)
  dsimp only [Pt.U, Pt.locs, Pt.cells, Pt.slots] at X4 l4 y4 z4 st4 hQ4
  subst l4 y4 z4
  obtain ⟨rfl, N4q, E4⟩ := hQ4
  have N4 := Fr.app N3 N4q
  refine own_step (T' := T4) (f' := (mkF m 19 #[.val (.ref a1), .val (.ref a2), .val .null, .val (.ref bv), .val (.int (5 : Int32))] [(.int (1 : Int32))])) (fun t k => st4.trans k) ?_
  refine own_step (T' := T4) (f' := (mkF m 22 #[.val (.ref a1), .val (.ref a2), .val .null, .val (.ref bv), .val (.int (5 : Int32))] [])) (fun t k => XS.ifNo X4.here hx rfl (hb hby d19_19) rfl ((if0 _ _).trans (feq (by decide : ¬ ((1 : Int32) = (0 : Int32)))).1) k) ?_
  refine own_step (T' := T4) (f' := (mkF m 23 #[.val (.ref a1), .val (.ref a2), .val .null, .val (.ref bv), .val (.int (5 : Int32))] [(.ref a1)])) (fun t k => XS.aloadN X4.here hx rfl (hb hby d19_22) rfl rfl k) ?_
  refine own_step (T' := T4) (f' := (mkF m 24 #[.val (.ref a1), .val (.ref a2), .val .null, .val (.ref bv), .val (.int (5 : Int32))] [(.int (0 : Int32)), (.ref a1)])) (fun t k => XS.iconst X4.here hx rfl (hb hby d19_23) k) ?_
  obtain ⟨T5, h5, X5, e5, W5, st5⟩ := putFN X4 hx hZ hown (hw _ (List.mem_of_getElem? (i := 144) rfl)) Via.refl E4 F_coder_a1 E_a1 (Or.inr ⟨(hw _ (List.mem_of_getElem? (i := 145) rfl)), rfl, hnm⟩) (hw _ (List.mem_of_getElem? (i := 121) rfl)) (ty := .byte) (v' := (.int (0 : Int32))) (by decide) rfl (by decide) (g := (mkF m 24 #[.val (.ref a1), .val (.ref a2), .val .null, .val (.ref bv), .val (.int (5 : Int32))] [(.int (0 : Int32)), (.ref a1)])) rfl rfl (hb hby d19_24)
  replace E_a1 := E_a1.wr W5
  replace F_value_a1 := F_value_a1.other W5 (Or.inr (Jvm.RoadKit.slot_ne (Or.inr (hw _ (List.mem_of_getElem? (i := 165) rfl))) (Or.inr (hw _ (List.mem_of_getElem? (i := 145) rfl))) (by decide) (t := (.array .byte)) (t' := .byte) (by decide) (by decide)))
  replace F_coder_a1 := F_coder_a1.same W5
  replace E_a2 := E_a2.wr W5
  replace F_value_a2 := F_value_a2.other W5 (Or.inl (Ne.symm n12))
  replace F_coder_a2 := F_coder_a2.other W5 (Or.inl (Ne.symm n12))
  replace F_count_a2 := F_count_a2.other W5 (Or.inl (Ne.symm n12))
  replace V_bv := V_bv.other W5 (Ne.symm n1b)
  replace EX_bv := EX_bv.wr W5
  replace S_CS := S_CS.wr W5
  replace Zz := Nat.le_trans Zz (Keep.of_wr W5).1
  replace Kp := Kp.wr W5 (Or.inl (List.mem_of_getElem? (i := 0) rfl))
  have N5 := Fr.snoc X5 N4 g_a1
  refine own_step (T' := T5) (f' := (mkF m 27 #[.val (.ref a1), .val (.ref a2), .val .null, .val (.ref bv), .val (.int (5 : Int32))] [])) (fun t k => st5 t k) ?_
  refine own_step (T' := T5) (f' := (mkF m 28 #[.val (.ref a1), .val (.ref a2), .val .null, .val (.ref bv), .val (.int (5 : Int32))] [(.ref a1)])) (fun t k => XS.aloadN X5.here hx rfl (hb hby d19_27) rfl rfl k) ?_
  refine own_step (T' := T5) (f' := (mkF m 29 #[.val (.ref a1), .val (.ref a2), .val .null, .val (.ref bv), .val (.int (5 : Int32))] [(.ref bv), (.ref a1)])) (fun t k => XS.aloadN X5.here hx rfl (hb hby d19_28) rfl rfl k) ?_
  refine own_step (T' := T5) (f' := (mkF m 30 #[.val (.ref a1), .val (.ref a2), .val .null, .val (.ref bv), .val (.int (5 : Int32))] [(.int (0 : Int32)), (.ref bv), (.ref a1)])) (fun t k => XS.iconst X5.here hx rfl (hb hby d19_29) k) ?_
  refine own_step (T' := T5) (f' := (mkF m 32 #[.val (.ref a1), .val (.ref a2), .val .null, .val (.ref bv), .val (.int (5 : Int32))] [(.int (5 : Int32)), (.int (0 : Int32)), (.ref bv), (.ref a1)])) (fun t k => XS.iload X5.here hx rfl (hb hby d19_30) rfl k) ?_
  obtain ⟨_, _, ⟨T6, L6, k6, n6⟩, -, X6, ⟨Lc6, hQ6, l6, y6, z6⟩, st6⟩ := Jvm.LawKit.callS X5 hx (y := (⟨"java/util/Arrays", "copyOfRange", "([BII)[B"⟩ : MethodName)) hown (mvT hZ (hw _ (List.mem_of_getElem? (i := 146) rfl))) (mvT hZ (hw _ (List.mem_of_getElem? (i := 147) rfl))) (mvT hZ (hw _ (List.mem_of_getElem? (i := 148) rfl))) (mvT hZ (hw _ (List.mem_of_getElem? (i := 149) rfl))) (by decide) (backOf (W := 1) (rm23_0 l Z a0 hw [] bv h5 n0 Zz kv V_bv) hZ (hw _ (List.mem_of_getElem? (i := 149) rfl)) (hw _ (List.mem_of_getElem? (i := 148) rfl)) (by decide) (by decide)) (g := (mkF m 32 #[.val (.ref a1), .val (.ref a2), .val .null, .val (.ref bv), .val (.int (5 : Int32))] [(.int (5 : Int32)), (.int (0 : Int32)), (.ref bv), (.ref a1)])) rfl (by rw [hml]; rfl) (argsL := [(.ref bv), (.int (0 : Int32)), (.int (5 : Int32))]) (rest := [(.ref a1)]) (lenOf pd_19_3 rfl) rfl (by show 2 * 0 + _ ≤ _; exact Nat.le_of_eq rfl) (hb hby d19_32) (fun _ _ => ⟨rfl, e5, (by decide : 0 + 1 ≤ _), (by decide : 0 + 5 ≤ _)⟩)
  dsimp only [Pt.U, Pt.locs, Pt.cells, Pt.slots] at X6 l6 y6 z6 st6 hQ6
  subst l6 y6 z6
  obtain ⟨rb6, rk6, rfl, N6q, K6, zz6, Vr6⟩ := hQ6
  have N6 := Fr.app N5 N6q
  have ne_a1_rb6 : a1 ≠ rb6 := Nat.ne_of_lt (Nat.lt_of_lt_of_le E_a1.lt zz6)
  have ne_a2_rb6 : a2 ≠ rb6 := Nat.ne_of_lt (Nat.lt_of_lt_of_le E_a2.lt zz6)
  have ne_bv_rb6 : bv ≠ rb6 := Nat.ne_of_lt (Nat.lt_of_lt_of_le V_bv.lt zz6)
  replace S_CS := own_sta_keep S_CS K6 all0
  replace E_a1 := E_a1.keep K6
  replace F_value_a1 := F_value_a1.keep K6 nin0
  replace F_coder_a1 := F_coder_a1.keep K6 nin0
  replace E_a2 := E_a2.keep K6
  replace F_value_a2 := F_value_a2.keep K6 nin0
  replace F_coder_a2 := F_coder_a2.keep K6 nin0
  replace F_count_a2 := F_count_a2.keep K6 nin0
  replace V_bv := V_bv.keep K6 nin0
  replace EX_bv := EX_bv.keep K6
  replace Zz := Nat.le_trans Zz K6.1
  replace Kp := Kp.trans K6 all0
  have sq6 := zz6
  refine own_step (T' := T6) (f' := (mkF m 35 #[.val (.ref a1), .val (.ref a2), .val .null, .val (.ref bv), .val (.int (5 : Int32))] [(.ref rb6), (.ref a1)])) (fun t k => st6 t k) ?_
  obtain ⟨T7, h7, X7, e7, W7, st7⟩ := putF X6 hx hZ hown (host := "") (Or.inl (hw _ (List.mem_of_getElem? (i := 164) rfl))) Via.refl rfl F_value_a1 E_a1 (Or.inr ⟨(hw _ (List.mem_of_getElem? (i := 165) rfl)), rfl, hnm⟩) (hw _ (List.mem_of_getElem? (i := 121) rfl)) (ty := (.array .byte)) (by decide) rfl rfl (g := (mkF m 35 #[.val (.ref a1), .val (.ref a2), .val .null, .val (.ref bv), .val (.int (5 : Int32))] [(.ref rb6), (.ref a1)])) rfl rfl (hb hby d19_35)
  replace E_a1 := E_a1.wr W7
  replace F_value_a1 := F_value_a1.same W7
  replace F_coder_a1 := F_coder_a1.other W7 (Or.inr (Jvm.RoadKit.slot_ne (Or.inr (hw _ (List.mem_of_getElem? (i := 145) rfl))) (Or.inr (hw _ (List.mem_of_getElem? (i := 165) rfl))) (by decide) (t := .byte) (t' := (.array .byte)) (by decide) (by decide)))
  replace E_a2 := E_a2.wr W7
  replace F_value_a2 := F_value_a2.other W7 (Or.inl (Ne.symm n12))
  replace F_coder_a2 := F_coder_a2.other W7 (Or.inl (Ne.symm n12))
  replace F_count_a2 := F_count_a2.other W7 (Or.inl (Ne.symm n12))
  replace V_bv := V_bv.other W7 (Ne.symm n1b)
  replace EX_bv := EX_bv.wr W7
  replace S_CS := S_CS.wr W7
  replace Vr6 := Vr6.other W7 (Ne.symm ne_a1_rb6)
  replace Zz := Nat.le_trans Zz (Keep.of_wr W7).1
  replace Kp := Kp.wr W7 (Or.inl (List.mem_of_getElem? (i := 0) rfl))
  have N7 := Fr.snoc X7 N6 g_a1
  refine own_step (T' := T7) (f' := (mkF m 38 #[.val (.ref a1), .val (.ref a2), .val .null, .val (.ref bv), .val (.int (5 : Int32))] [])) (fun t k => st7 t k) ?_
  refine own_step (T' := T7) (f' := (mkF m 97 #[.val (.ref a1), .val (.ref a2), .val .null, .val (.ref bv), .val (.int (5 : Int32))] [])) (fun t k => XS.goto X7.here hx rfl (pc0 := 38) (pc' := 97) rfl (hb hby d19_38) (by decide) (by decide) k) ?_
  exact own_retV X7 hx hlk Bd.returns (hb hby d19_97) (by decide) (by decide) (by rw [e7]; exact ⟨rfl, N7, Kp, rb6, rk6, E_a1, F_coder_a1, F_value_a1, Vr6⟩)

theorem ef_rm18_0 (m : MethodId) (x0 : Addr) (x1 : Addr) : entryFrame m #[(.ref x0), (.ref x1)] 2 = mkF m 0 #[.val (.ref x0), .val (.ref x1)] [] := by first | (simp [entryFrame, mkF, argsToLocals, Value.category]; done) | rfl
set_option maxRecDepth 65536 in
set_option maxHeartbeats 40000000 in
theorem rm18_0 (l : Launch) (Z : State) (a0 : Array Value) (hw : ∀ d ∈ tables_1, d.before a0 Z = true) (ws : List Jvm.Cond) (a1 : Addr) (a2 : Addr) (h0 : Heap) (n0 : Nat) (Z0 : n0 ≤ h0.size) (E_a1 : Exa Z h0 a1 "java/lang/String") (F_value_a1 : Fld Z h0 a1 "java/lang/String" "value" "[B" .null) (F_coder_a1 : Fld Z h0 a1 "java/lang/String" "coder" "B" (.int (0 : Int32))) (g_a1 : n0 ≤ a1) (bv : Addr) (kv : ClassId) (O : OwnSB Z h0 a2 bv kv 5 [(.int (102 : Int32)), (.int (97 : Int32)), (.int (108 : Int32)), (.int (115 : Int32)), (.int (101 : Int32)), (.int (0 : Int32)), (.int (0 : Int32)), (.int (0 : Int32)), (.int (0 : Int32)), (.int (0 : Int32)), (.int (0 : Int32)), (.int (0 : Int32)), (.int (0 : Int32)), (.int (0 : Int32)), (.int (0 : Int32)), (.int (0 : Int32))]) (cs : Int32) (S_CS : Sta Z h0 "java/lang/String" "COMPACT_STRINGS" "Z" (.int cs)) (hcs : ¬ cs = (0 : Int32)) (n12 : a1 ≠ a2) (n1b : a1 ≠ bv) :
    MetFree l (⟨"java/lang/String", "<init>", "(Ljava/lang/StringBuilder;)V"⟩ : MethodName) (head1 (Jvm.Cond.code (⟨"java/lang/String", "<init>", "(Ljava/lang/StringBuilder;)V"⟩ : MethodName) jdk_42_method_53_code 2 none :: ws) ({ frames := 4, cells := 1, slots := 5, locals := 87 } : Room)) (fun a U => a = #[(.ref a1), (.ref a2)] ∧ Z.Warmed39 U.vm ∧ U.heap = h0) (fun _ _ _ _ _ => True) (fun _ U o U' => ∃ v L, o = .returned v ∧ Q19_0 Z a1 h0 n0 v U'.heap L ∧ FrameEnd U o U' L ({ frames := 4, cells := 1, slots := 5, locals := 87 } : Room).cells ({ frames := 4, cells := 1, slots := 5, locals := 87 } : Room).slots) := by
  refine MetFree.of_bodySF (plainFor_of_name pn_18) hisR ?_
  intro p e s m args below meth c s₁ Bd hml0 hP hK
  obtain ⟨rfl, hZ, hh⟩ := hP
  have hx := Bd.exec
  have hby := Bd.bytes
  have hlk : meth.locks = false := BodyLoose.notSynchronized Bd
  have hml : c.maxLocals = 2 := hml0
  have hown : s.vm.findClass "java/lang/String" = some m.cls := findClass_of_methodNamed Bd.named
  have hnm := (name_of_methodNamed Bd.named Bd.method).1
  have X0 : Stand p l e ({ frames := 4, cells := 1, slots := 5, locals := 87 } : Room) s m #[(.ref a1), (.ref a2)] below meth c s₁ [] 0 0 := Stand.of_body Bd
  have e0 : s₁.heap = h0 := by rw [← hh, Bd.state]; rfl
  have N0 := Fr.nil n0
  show OwnEnds p e below s (Q19_0 Z a1 h0 n0) ({ frames := 4, cells := 1, slots := 5, locals := 87 } : Room).cells ({ frames := 4, cells := 1, slots := 5, locals := 87 } : Room).slots s₁ (entryFrame m #[(.ref a1), (.ref a2)] 2)
  refine own_step (T' := s₁) (f' := (mkF m 0 #[.val (.ref a1), .val (.ref a2)] [])) (fun t k => castTop (ef_rm18_0 m a1 a2) k) ?_
  refine own_step (T' := s₁) (f' := (mkF m 1 #[.val (.ref a1), .val (.ref a2)] [(.ref a1)])) (fun t k => XS.aloadN X0.here hx rfl (hb hby d18_0) rfl rfl k) ?_
  refine own_step (T' := s₁) (f' := (mkF m 2 #[.val (.ref a1), .val (.ref a2)] [(.ref a2), (.ref a1)])) (fun t k => XS.aloadN X0.here hx rfl (hb hby d18_1) rfl rfl k) ?_
  refine own_step (T' := s₁) (f' := (mkF m 3 #[.val (.ref a1), .val (.ref a2)] [.null, (.ref a2), (.ref a1)])) (fun t k => XS.aconstNull X0.here hx rfl (hb hby d18_2) k) ?_
  obtain ⟨_, _, ⟨T1, L1, k1, n1⟩, -, X1, ⟨Lc1, hQ1, l1, y1, z1⟩, st1⟩ := X0.specialBack hx (y := (⟨"java/lang/String", "<init>", "(Ljava/lang/AbstractStringBuilder;Ljava/lang/Void;)V"⟩ : MethodName)) rfl hown (mvT hZ (hw _ (List.mem_of_getElem? (i := 126) rfl))) (mvT hZ (hw _ (List.mem_of_getElem? (i := 127) rfl))) (mvT hZ (hw _ (List.mem_of_getElem? (i := 128) rfl))) (by decide) (backOf (W := 0) (rm19_0 l Z a0 hw [] a1 a2 h0 n0 Z0 E_a1 F_value_a1 F_coder_a1 g_a1 bv kv O cs S_CS hcs n12 n1b) hZ (hw _ (List.mem_of_getElem? (i := 128) rfl)) (hw _ (List.mem_of_getElem? (i := 82) rfl)) (by decide) (by decide)) (g := (mkF m 3 #[.val (.ref a1), .val (.ref a2)] [.null, (.ref a2), (.ref a1)])) rfl (by rw [hml]; rfl) (Steps.refl _) (a := a1) (argsL := [(.ref a2), .null]) (rest := []) (lenOf pd_18_0 rfl) rfl (by show 2 * 0 + _ ≤ _; exact Nat.le_of_eq rfl) (hb hby d18_3) (fun _ _ => ⟨rfl, e0, (by decide : 0 + 1 ≤ _), (by decide : 0 + 5 ≤ _)⟩)
  dsimp only [Pt.U, Pt.locs, Pt.cells, Pt.slots] at X1 l1 y1 z1 st1 hQ1
  subst l1 y1 z1
  obtain ⟨rfl, N1q, K1, Ow1⟩ := hQ1
  have N1 := Fr.app N0 N1q
  refine own_step (T' := T1) (f' := (mkF m 6 #[.val (.ref a1), .val (.ref a2)] [])) (fun t k => st1.trans k) ?_
  exact own_retV X1 hx hlk Bd.returns (hb hby d18_6) (by decide) (by decide) ⟨rfl, N1, K1, Ow1⟩

def Q17_0 (Z : State) (h0 : Heap) (n0 : Nat) (v : Option Value) (h : Heap) (L : List Loc) : Prop := ∃ (r b : Addr) (k : ClassId), v = some (.ref r) ∧ Fr n0 L ∧ Keep h0 h [] ∧ OwnStr Z h r b k 5 [(.int (102 : Int32)), (.int (97 : Int32)), (.int (108 : Int32)), (.int (115 : Int32)), (.int (101 : Int32))]
theorem ef_rm17_0 (m : MethodId) (x0 : Addr) : entryFrame m #[(.ref x0)] 1 = mkF m 0 #[.val (.ref x0)] [] := by first | (simp [entryFrame, mkF, argsToLocals, Value.category]; done) | rfl
set_option maxRecDepth 65536 in
set_option maxHeartbeats 40000000 in
theorem rm17_0 (l : Launch) (Z : State) (a0 : Array Value) (hw : ∀ d ∈ tables_1, d.before a0 Z = true) (ws : List Jvm.Cond) (a1 : Addr) (h0 : Heap) (n0 : Nat) (Z0 : n0 ≤ h0.size) (bv : Addr) (kv : ClassId) (O : OwnSB Z h0 a1 bv kv 5 [(.int (102 : Int32)), (.int (97 : Int32)), (.int (108 : Int32)), (.int (115 : Int32)), (.int (101 : Int32)), (.int (0 : Int32)), (.int (0 : Int32)), (.int (0 : Int32)), (.int (0 : Int32)), (.int (0 : Int32)), (.int (0 : Int32)), (.int (0 : Int32)), (.int (0 : Int32)), (.int (0 : Int32)), (.int (0 : Int32)), (.int (0 : Int32))]) (cs : Int32) (S_CS : Sta Z h0 "java/lang/String" "COMPACT_STRINGS" "Z" (.int cs)) (hcs : ¬ cs = (0 : Int32)) :
    MetFree l (⟨"java/lang/StringBuilder", "toString", "()Ljava/lang/String;"⟩ : MethodName) (head1 (Jvm.Cond.code (⟨"java/lang/StringBuilder", "toString", "()Ljava/lang/String;"⟩ : MethodName) jdk_67_method_42_code 1 (some (.object "java/lang/String")) :: ws) ({ frames := 5, cells := 2, slots := 9, locals := 101 } : Room)) (fun a U => a = #[(.ref a1)] ∧ Z.Warmed39 U.vm ∧ U.heap = h0) (fun _ _ _ _ _ => True) (fun _ U o U' => ∃ v L, o = .returned v ∧ Q17_0 Z h0 n0 v U'.heap L ∧ FrameEnd U o U' L ({ frames := 5, cells := 2, slots := 9, locals := 101 } : Room).cells ({ frames := 5, cells := 2, slots := 9, locals := 101 } : Room).slots) := by
  refine MetFree.of_bodySF (plainFor_of_name pn_17) hisR ?_
  intro p e s m args below meth c s₁ Bd hml0 hP hK
  obtain ⟨rfl, hZ, hh⟩ := hP
  have hx := Bd.exec
  have hby := Bd.bytes
  have hlk : meth.locks = false := BodyLoose.notSynchronized Bd
  have hml : c.maxLocals = 1 := hml0
  have hown : s.vm.findClass "java/lang/StringBuilder" = some m.cls := findClass_of_methodNamed Bd.named
  have hnm := (name_of_methodNamed Bd.named Bd.method).1
  have X0 : Stand p l e ({ frames := 5, cells := 2, slots := 9, locals := 101 } : Room) s m #[(.ref a1)] below meth c s₁ [] 0 0 := Stand.of_body Bd
  have e0 : s₁.heap = h0 := by rw [← hh, Bd.state]; rfl
  have N0 := Fr.nil n0
  have Zz := Z0
  have Kp : Keep h0 h0 [] := Keep.refl _ _
  obtain ⟨E_a1, F_value_a1, F_coder_a1, F_count_a1, V_bv, EX_bv, ne1⟩ := O
  show OwnEnds p e below s (Q17_0 Z h0 n0) ({ frames := 5, cells := 2, slots := 9, locals := 101 } : Room).cells ({ frames := 5, cells := 2, slots := 9, locals := 101 } : Room).slots s₁ (entryFrame m #[(.ref a1)] 1)
  refine own_step (T' := s₁) (f' := (mkF m 0 #[.val (.ref a1)] [])) (fun t k => castTop (ef_rm17_0 m a1) k) ?_
  obtain ⟨T1, h1, X1, e1, E1, A1, D1, -, st1⟩ := newO X0 hx hZ hown (hw _ (List.mem_of_getElem? (i := 120) rfl)) (hw _ (List.mem_of_getElem? (i := 121) rfl)) (hw _ (List.mem_of_getElem? (i := 82) rfl)) e0 (g := (mkF m 0 #[.val (.ref a1)] [])) rfl (hb hby d17_0) (by decide) (by decide)
  obtain ⟨b1, g1⟩ : ∃ z, z = h0.size := ⟨_, rfl⟩
  rw [← g1] at A1 D1 st1
  have ne_a1_b1 : a1 ≠ b1 := Nat.ne_of_lt (Nat.lt_of_lt_of_le E_a1.lt (Nat.le_of_eq g1.symm))
  have ne_bv_b1 : bv ≠ b1 := Nat.ne_of_lt (Nat.lt_of_lt_of_le V_bv.lt (Nat.le_of_eq g1.symm))
  have g_b1 : n0 ≤ b1 := Nat.le_trans Zz (Nat.le_of_eq g1.symm)
  have sz_b1 : h0.size ≤ b1 := Nat.le_trans Kp.1 (Nat.le_of_eq g1.symm)
  replace E_a1 := E_a1.ext E1
  replace F_value_a1 := F_value_a1.ext E1
  replace F_coder_a1 := F_coder_a1.ext E1
  replace F_count_a1 := F_count_a1.ext E1
  replace V_bv := V_bv.ext E1
  replace EX_bv := EX_bv.ext E1
  replace S_CS := S_CS.ext E1
  replace Zz := Nat.le_trans Zz E1.1
  replace Kp := Kp.ext E1
  have E_b1 := A1
  have F_coder_b1 : Fld Z h1 b1 "java/lang/String" "coder" "B" (.int (0 : Int32)) := D1 (Or.inr (hw _ (List.mem_of_getElem? (i := 145) rfl))) (ty := .byte) (by decide)
  have F_value_b1 : Fld Z h1 b1 "java/lang/String" "value" "[B" .null := D1 (Or.inr (hw _ (List.mem_of_getElem? (i := 165) rfl))) (ty := (.array .byte)) (by decide)
  refine own_step (T' := T1) (f' := (mkF m 3 #[.val (.ref a1)] [(.ref b1)])) (fun t k => st1 t k) ?_
  refine own_step (T' := T1) (f' := (mkF m 4 #[.val (.ref a1)] [(.ref b1), (.ref b1)])) (fun t k => XS.dup X1.here hx rfl (hb hby d17_3) rfl rfl k) ?_
  refine own_step (T' := T1) (f' := (mkF m 5 #[.val (.ref a1)] [(.ref a1), (.ref b1), (.ref b1)])) (fun t k => XS.aloadN X1.here hx rfl (hb hby d17_4) rfl rfl k) ?_
  obtain ⟨_, _, ⟨T2, L2, k2, n2⟩, -, X2, ⟨Lc2, hQ2, l2, y2, z2⟩, st2⟩ := X1.specialBack hx (y := (⟨"java/lang/String", "<init>", "(Ljava/lang/StringBuilder;)V"⟩ : MethodName)) rfl hown (mvT hZ (hw _ (List.mem_of_getElem? (i := 122) rfl))) (mvT hZ (hw _ (List.mem_of_getElem? (i := 123) rfl))) (mvT hZ (hw _ (List.mem_of_getElem? (i := 125) rfl))) (by decide) (backOf (W := 1) (rm18_0 l Z a0 hw [] b1 a1 h1 n0 Zz E_b1 F_value_b1 F_coder_b1 g_b1 bv kv ⟨E_a1, F_value_a1, F_coder_a1, F_count_a1, V_bv, EX_bv, ne1⟩ cs S_CS hcs (Ne.symm ne_a1_b1) (Ne.symm ne_bv_b1)) hZ (hw _ (List.mem_of_getElem? (i := 125) rfl)) (hw _ (List.mem_of_getElem? (i := 82) rfl)) (by decide) (by decide)) (g := (mkF m 5 #[.val (.ref a1)] [(.ref a1), (.ref b1), (.ref b1)])) rfl (by rw [hml]; rfl) (Steps.refl _) (a := b1) (argsL := [(.ref a1)]) (rest := [(.ref b1)]) (lenOf pd_17_0 rfl) rfl (by show 2 * 0 + _ ≤ _; exact Nat.le_of_eq rfl) (hb hby d17_5) (fun _ _ => ⟨rfl, e1, (by decide : 1 + 1 ≤ _), (by decide : 4 + 5 ≤ _)⟩)
  dsimp only [Pt.U, Pt.locs, Pt.cells, Pt.slots] at X2 l2 y2 z2 st2 hQ2
  subst l2 y2 z2
  obtain ⟨rfl, N2q, K2, sb2, sk2, Os2⟩ := hQ2
  have N2 := Fr.app N0 N2q
  replace S_CS := own_sta_keep S_CS K2 (allS ⟨_, E_b1⟩ all0)
  replace E_a1 := E_a1.keep K2
  replace F_value_a1 := F_value_a1.keep K2 (ninS ne_a1_b1 nin0)
  replace F_coder_a1 := F_coder_a1.keep K2 (ninS ne_a1_b1 nin0)
  replace F_count_a1 := F_count_a1.keep K2 (ninS ne_a1_b1 nin0)
  replace V_bv := V_bv.keep K2 (ninS ne_bv_b1 nin0)
  replace EX_bv := EX_bv.keep K2
  replace E_b1 := E_b1.keep K2
  replace Zz := Nat.le_trans Zz K2.1
  replace Kp := Kp.trans K2 (allS (Or.inr sz_b1) all0)
  refine own_step (T' := T2) (f' := (mkF m 8 #[.val (.ref a1)] [(.ref b1)])) (fun t k => st2.trans k) ?_
  exact own_retO X2 hx hlk Bd.returns rfl (Or.inr (Or.inr (Or.inr (Or.inr ⟨rfl, rfl, rfl⟩)))) (hb hby d17_8) (by decide) (by decide) ⟨b1, sb2, sk2, rfl, N2, Kp, Os2⟩

theorem ef_rm8_0 (m : MethodId) (x0 : Addr) : entryFrame m #[(.ref x0)] 2 = mkF m 0 #[.val (.ref x0), .unset] [] := by first | (simp [entryFrame, mkF, argsToLocals, Value.category]; done) | rfl
set_option maxRecDepth 65536 in
set_option maxHeartbeats 40000000 in
theorem rm8_0 (l : Launch) (Z : State) (a0 : Array Value) (hw : ∀ d ∈ tables_1, d.before a0 Z = true) (ws : List Jvm.Cond) (a1 : Addr) (h0 : Heap) (n0 : Nat) (Z0 : n0 ≤ h0.size) (F_v : Fld Z h0 a1 "com/example/umriss/umriss/runtime/BooleanValue" "value" "Z" (.int (0 : Int32))) (E_a1 : Exa Z h0 a1 "com/example/umriss/umriss/runtime/BooleanValue") (cs : Int32) (S_CS : Sta Z h0 "java/lang/String" "COMPACT_STRINGS" "Z" (.int cs)) (hcs : ¬ cs = (0 : Int32)) :
    MetFree l (⟨"com/example/umriss/umriss/runtime/Value", "toString", "()Ljava/lang/String;"⟩ : MethodName) (head1 (Jvm.Cond.code (⟨"com/example/umriss/umriss/runtime/Value", "toString", "()Ljava/lang/String;"⟩ : MethodName) prog_66_method_9_code 2 (some (.object "java/lang/String")) :: ws) ({ frames := 6, cells := 4, slots := 29, locals := 114 } : Room)) (fun a U => a = #[(.ref a1)] ∧ Z.Warmed39 U.vm ∧ U.heap = h0) (fun _ _ _ _ _ => True) (fun _ U o U' => ∃ v L, o = .returned v ∧ Q17_0 Z h0 n0 v U'.heap L ∧ FrameEnd U o U' L ({ frames := 6, cells := 4, slots := 29, locals := 114 } : Room).cells ({ frames := 6, cells := 4, slots := 29, locals := 114 } : Room).slots) := by
  refine MetFree.of_bodySF (plainFor_of_name pn_8) hisR ?_
  intro p e s m args below meth c s₁ Bd hml0 hP hK
  obtain ⟨rfl, hZ, hh⟩ := hP
  have hx := Bd.exec
  have hby := Bd.bytes
  have hlk : meth.locks = false := BodyLoose.notSynchronized Bd
  have hml : c.maxLocals = 2 := hml0
  have hown : s.vm.findClass "com/example/umriss/umriss/runtime/Value" = some m.cls := findClass_of_methodNamed Bd.named
  have hnm := (name_of_methodNamed Bd.named Bd.method).1
  have X0 : Stand p l e ({ frames := 6, cells := 4, slots := 29, locals := 114 } : Room) s m #[(.ref a1)] below meth c s₁ [] 0 0 := Stand.of_body Bd
  have e0 : s₁.heap = h0 := by rw [← hh, Bd.state]; rfl
  have N0 := Fr.nil n0
  have Zz := Z0
  have Kp : Keep h0 h0 [] := Keep.refl _ _
  show OwnEnds p e below s (Q17_0 Z h0 n0) ({ frames := 6, cells := 4, slots := 29, locals := 114 } : Room).cells ({ frames := 6, cells := 4, slots := 29, locals := 114 } : Room).slots s₁ (entryFrame m #[(.ref a1)] 2)
  refine own_step (T' := s₁) (f' := (mkF m 0 #[.val (.ref a1), .unset] [])) (fun t k => castTop (ef_rm8_0 m a1) k) ?_
  obtain ⟨T1, h1, X1, e1, E1, A1, D1, -, st1⟩ := newO X0 hx hZ hown (hw _ (List.mem_of_getElem? (i := 66) rfl)) (hw _ (List.mem_of_getElem? (i := 67) rfl)) (hw _ (List.mem_of_getElem? (i := 68) rfl)) e0 (g := (mkF m 0 #[.val (.ref a1), .unset] [])) rfl (hb hby d8_0) (by decide) (by decide)
  obtain ⟨b1, g1⟩ : ∃ z, z = h0.size := ⟨_, rfl⟩
  rw [← g1] at A1 D1 st1
  have ne_a1_b1 : a1 ≠ b1 := Nat.ne_of_lt (Nat.lt_of_lt_of_le F_v.lt (Nat.le_of_eq g1.symm))
  have g_b1 : n0 ≤ b1 := Nat.le_trans Zz (Nat.le_of_eq g1.symm)
  have sz_b1 : h0.size ≤ b1 := Nat.le_trans Kp.1 (Nat.le_of_eq g1.symm)
  replace F_v := F_v.ext E1
  replace E_a1 := E_a1.ext E1
  replace S_CS := S_CS.ext E1
  replace Zz := Nat.le_trans Zz E1.1
  replace Kp := Kp.ext E1
  have E_b1 := A1
  have F_value_b1 : Fld Z h1 b1 "java/lang/AbstractStringBuilder" "value" "[B" .null := D1 (Or.inl (hw _ (List.mem_of_getElem? (i := 85) rfl))) (ty := (.array .byte)) (by decide)
  have F_coder_b1 : Fld Z h1 b1 "java/lang/AbstractStringBuilder" "coder" "B" (.int (0 : Int32)) := D1 (Or.inl (hw _ (List.mem_of_getElem? (i := 87) rfl))) (ty := .byte) (by decide)
  have F_count_b1 : Fld Z h1 b1 "java/lang/AbstractStringBuilder" "count" "I" (.int (0 : Int32)) := D1 (Or.inl (hw _ (List.mem_of_getElem? (i := 104) rfl))) (ty := .int) (by decide)
  refine own_step (T' := T1) (f' := (mkF m 3 #[.val (.ref a1), .unset] [(.ref b1)])) (fun t k => st1 t k) ?_
  refine own_step (T' := T1) (f' := (mkF m 4 #[.val (.ref a1), .unset] [(.ref b1), (.ref b1)])) (fun t k => XS.dup X1.here hx rfl (hb hby d8_3) rfl rfl k) ?_
  obtain ⟨_, _, ⟨T2, L2, k2, n2⟩, -, X2, ⟨Lc2, hQ2, l2, y2, z2⟩, st2⟩ := X1.specialBack hx (y := (⟨"java/lang/StringBuilder", "<init>", "()V"⟩ : MethodName)) rfl hown (mvT hZ (hw _ (List.mem_of_getElem? (i := 69) rfl))) (mvT hZ (hw _ (List.mem_of_getElem? (i := 70) rfl))) (mvT hZ (hw _ (List.mem_of_getElem? (i := 71) rfl))) (by decide) (backOf (W := 1) (rm9 l Z a0 hw [] b1 h1 n0 Zz E_b1 F_value_b1 F_coder_b1 F_count_b1 g_b1 cs S_CS hcs) hZ (hw _ (List.mem_of_getElem? (i := 71) rfl)) (hw _ (List.mem_of_getElem? (i := 68) rfl)) (by decide) (by decide)) (g := (mkF m 4 #[.val (.ref a1), .unset] [(.ref b1), (.ref b1)])) rfl (by rw [hml]; rfl) (Steps.refl _) (a := b1) (argsL := []) (rest := [(.ref b1)]) (lenOf pd_8_0 rfl) rfl (by show 2 * 0 + _ ≤ _; exact Nat.le_of_eq rfl) (hb hby d8_4) (fun _ _ => ⟨rfl, e1, (by decide : 1 + 1 ≤ _), (by decide : 4 + 16 ≤ _)⟩)
  dsimp only [Pt.U, Pt.locs, Pt.cells, Pt.slots] at X2 l2 y2 z2 st2 hQ2
  subst l2 y2 z2
  obtain ⟨rfl, N2q, K2, bb2, kk2, zz2, Ex2, Fv2, Fc2, Fn2, Vb2, EXb2, nab2⟩ := hQ2
  have N2 := Fr.app N0 N2q
  have ne_a1_bb2 : a1 ≠ bb2 := Nat.ne_of_lt (Nat.lt_of_lt_of_le F_v.lt zz2)
  have ne_b1_bb2 : b1 ≠ bb2 := Nat.ne_of_lt (Nat.lt_of_lt_of_le E_b1.lt zz2)
  have sz_bb2 : h0.size ≤ bb2 := Nat.le_trans Kp.1 zz2
  have g_bb2 : n0 ≤ bb2 := Nat.le_trans Zz zz2
  replace S_CS := own_sta_keep S_CS K2 (allS ⟨_, E_b1⟩ all0)
  replace F_v := F_v.keep K2 (ninS ne_a1_b1 nin0)
  replace E_a1 := E_a1.keep K2
  replace E_b1 := E_b1.keep K2
  replace Zz := Nat.le_trans Zz K2.1
  replace Kp := Kp.trans K2 (allS (Or.inr sz_b1) all0)
  refine own_step (T' := T2) (f' := (mkF m 7 #[.val (.ref a1), .unset] [(.ref b1)])) (fun t k => st2.trans k) ?_
  refine own_step (T' := T2) (f' := (mkF m 8 #[.val (.ref a1), .val (.ref b1)] [])) (fun t k => XS.astoreN X2.here hx rfl (hb hby d8_7) rfl rfl (l' := #[.val (.ref a1), .val (.ref b1)]) rfl k) ?_
  refine own_step (T' := T2) (f' := (mkF m 9 #[.val (.ref a1), .val (.ref b1)] [(.ref a1)])) (fun t k => XS.aloadN X2.here hx rfl (hb hby d8_8) rfl rfl k) ?_
  refine own_step (T' := T2) (f' := (mkF m 10 #[.val (.ref a1), .val (.ref b1)] [(.ref b1), (.ref a1)])) (fun t k => XS.aloadN X2.here hx rfl (hb hby d8_9) rfl rfl k) ?_
  obtain ⟨cq3, kq3, q3a, q3b, q3c⟩ := isOf hZ rfl E_a1
  obtain ⟨_, _, ⟨T3, L3, k3, n3⟩, -, X3, ⟨Lc3, hQ3, l3, y3, z3⟩, st3⟩ := X2.virtualBack hx (y := (⟨"com/example/umriss/umriss/runtime/Value", "appendTo", "(Ljava/lang/StringBuilder;)V"⟩ : MethodName)) (z := (⟨"com/example/umriss/umriss/runtime/BooleanValue", "appendTo", "(Ljava/lang/StringBuilder;)V"⟩ : MethodName)) hown (mvT hZ (hw _ (List.mem_of_getElem? (i := 88) rfl))) (mvT hZ (hw _ (List.mem_of_getElem? (i := 89) rfl))) (own_nf (args := #[]) (mvT hZ (hw _ (List.mem_of_getElem? (i := 28) rfl))) rfl) (mvT hZ (hw _ (List.mem_of_getElem? (i := 90) rfl))) (mvT hZ (hw _ (List.mem_of_getElem? (i := 91) rfl))) (by decide) (backOf (W := 0) (rm12_0 l Z a0 hw [] a1 b1 T2.heap n0 Zz F_v bb2 kk2 ⟨E_b1, Fv2, Fc2, Fn2, Vb2, EXb2, nab2⟩ cs S_CS hcs g_b1 g_bb2) hZ (hw _ (List.mem_of_getElem? (i := 92) rfl)) (hw _ (List.mem_of_getElem? (i := 2) rfl)) (by decide) (by decide)) q3a q3c (g := (mkF m 10 #[.val (.ref a1), .val (.ref b1)] [(.ref b1), (.ref a1)])) rfl (by rw [hml]; rfl) (Steps.refl _) (argsL := [(.ref b1)]) (rest := []) (lenOf pd_8_1 rfl) rfl (by show 2 * 0 + _ ≤ _; exact Nat.le_of_eq rfl) (hb hby d8_10) (fun _ _ => ⟨rfl, rfl, (by decide : 2 + 0 ≤ _), (by decide : 20 + 0 ≤ _)⟩)
  dsimp only [Pt.U, Pt.locs, Pt.cells, Pt.slots] at X3 l3 y3 z3 st3 hQ3
  subst l3 y3 z3
  obtain ⟨rfl, N3q, K3, Ex3, Gv3, Gc3, Gn3, Wb3, EXw3, naw3⟩ := hQ3
  have N3 := Fr.app N2 N3q
  replace S_CS := own_sta_keep S_CS K3 (allS ⟨_, E_b1⟩ (allS ⟨_, EXb2⟩ all0))
  replace F_v := F_v.keep K3 (ninS ne_a1_b1 (ninS ne_a1_bb2 nin0))
  replace E_a1 := E_a1.keep K3
  replace E_b1 := E_b1.keep K3
  replace EXb2 := EXb2.keep K3
  replace Zz := Nat.le_trans Zz K3.1
  replace Kp := Kp.trans K3 (allS (Or.inr sz_b1) (allS (Or.inr sz_bb2) all0))
  refine own_step (T' := T3) (f' := (mkF m 13 #[.val (.ref a1), .val (.ref b1)] [])) (fun t k => st3.trans k) ?_
  refine own_step (T' := T3) (f' := (mkF m 14 #[.val (.ref a1), .val (.ref b1)] [(.ref b1)])) (fun t k => XS.aloadN X3.here hx rfl (hb hby d8_13) rfl rfl k) ?_
  obtain ⟨cq4, kq4, q4a, q4b, q4c⟩ := isOf hZ rfl E_b1
  obtain ⟨_, _, ⟨T4, L4, k4, n4⟩, -, X4, ⟨Lc4, hQ4, l4, y4, z4⟩, st4⟩ := X3.virtualBack hx (y := (⟨"java/lang/StringBuilder", "toString", "()Ljava/lang/String;"⟩ : MethodName)) (z := (⟨"java/lang/StringBuilder", "toString", "()Ljava/lang/String;"⟩ : MethodName)) hown (mvT hZ (hw _ (List.mem_of_getElem? (i := 115) rfl))) (mvT hZ (hw _ (List.mem_of_getElem? (i := 116) rfl))) (notFace_of_selects (args := #[]) (mvT hZ (hw _ (List.mem_of_getElem? (i := 118) rfl)))) (mvT hZ (hw _ (List.mem_of_getElem? (i := 118) rfl))) (mvT hZ (hw _ (List.mem_of_getElem? (i := 117) rfl))) (by decide) (backOf (W := 0) (rm17_0 l Z a0 hw [] b1 T3.heap n0 Zz bb2 kk2 ⟨E_b1, Gv3, Gc3, Gn3, Wb3, EXb2, nab2⟩ cs S_CS hcs) hZ (hw _ (List.mem_of_getElem? (i := 119) rfl)) (hw _ (List.mem_of_getElem? (i := 68) rfl)) (by decide) (by decide)) q4a q4c (g := (mkF m 14 #[.val (.ref a1), .val (.ref b1)] [(.ref b1)])) rfl (by rw [hml]; rfl) (Steps.refl _) (argsL := []) (rest := []) (lenOf pd_8_2 rfl) rfl (by show 2 * 0 + _ ≤ _; exact Nat.le_of_eq rfl) (hb hby d8_14) (fun _ _ => ⟨rfl, rfl, (by decide : 2 + 2 ≤ _), (by decide : 20 + 9 ≤ _)⟩)
  dsimp only [Pt.U, Pt.locs, Pt.cells, Pt.slots] at X4 l4 y4 z4 st4 hQ4
  subst l4 y4 z4
  obtain ⟨rr4, rb4, rk4, rfl, N4q, K4, Os4⟩ := hQ4
  have N4 := Fr.app N3 N4q
  replace S_CS := own_sta_keep S_CS K4 all0
  replace F_v := F_v.keep K4 nin0
  replace E_a1 := E_a1.keep K4
  replace E_b1 := E_b1.keep K4
  replace EXb2 := EXb2.keep K4
  replace Gv3 := Gv3.keep K4 nin0
  replace Gc3 := Gc3.keep K4 nin0
  replace Gn3 := Gn3.keep K4 nin0
  replace Wb3 := Wb3.keep K4 nin0
  replace Zz := Nat.le_trans Zz K4.1
  replace Kp := Kp.trans K4 all0
  refine own_step (T' := T4) (f' := (mkF m 17 #[.val (.ref a1), .val (.ref b1)] [(.ref rr4)])) (fun t k => st4.trans k) ?_
  exact own_retO X4 hx hlk Bd.returns rfl (Or.inr (Or.inr (Or.inr (Or.inr ⟨rfl, rfl, rfl⟩)))) (hb hby d8_17) (by decide) (by decide) ⟨rr4, rb4, rk4, rfl, N4, Kp, Os4⟩

theorem ef_rm28_0 (m : MethodId) (x0 : Addr) (x1 : Addr) : entryFrame m #[(.ref x0), (.ref x1)] 3 = mkF m 0 #[.val (.ref x0), .val (.ref x1), .unset] [] := by first | (simp [entryFrame, mkF, argsToLocals, Value.category]; done) | rfl
set_option maxRecDepth 65536 in
set_option maxHeartbeats 40000000 in
theorem rm28_0 (l : Launch) (Z : State) (a0 : Array Value) (hw : ∀ d ∈ tables_1, d.before a0 Z = true) (ws : List Jvm.Cond) (a1 : Addr) (a2 : Addr) (h0 : Heap) (n0 : Nat) (Z0 : n0 ≤ h0.size) (k1 k2 : ClassId) (V_a1 : Arv Z h0 a1 k1 .byte (5 : Int32) [(.int (102 : Int32)), (.int (97 : Int32)), (.int (108 : Int32)), (.int (115 : Int32)), (.int (101 : Int32))] (.int (0 : Int32))) (V_a2 : Arv Z h0 a2 k2 .byte (5 : Int32) [(.int (102 : Int32)), (.int (97 : Int32)), (.int (108 : Int32)), (.int (115 : Int32)), (.int (101 : Int32))] (.int (0 : Int32))) :
    MetFree l (⟨"java/lang/StringLatin1", "equals", "([B[B)Z"⟩ : MethodName) (head1 (Jvm.Cond.code (⟨"java/lang/StringLatin1", "equals", "([B[B)Z"⟩ : MethodName) jdk_43_method_13_code 3 (some .boolean) :: ws) ({ frames := 0, cells := 0, slots := 0, locals := 0 } : Room)) (fun a U => a = #[(.ref a1), (.ref a2)] ∧ Z.Warmed39 U.vm ∧ U.heap = h0) (fun _ _ _ _ _ => True) (fun _ U o U' => ∃ v L, o = .returned v ∧ QI 1 h0 n0 v U'.heap L ∧ FrameEnd U o U' L ({ frames := 0, cells := 0, slots := 0, locals := 0 } : Room).cells ({ frames := 0, cells := 0, slots := 0, locals := 0 } : Room).slots) := by
  refine MetFree.of_bodySF (plainFor_of_name pn_28) hisR ?_
  intro p e s m args below meth c s₁ Bd hml0 hP hK
  obtain ⟨rfl, hZ, hh⟩ := hP
  have hx := Bd.exec
  have hby := Bd.bytes
  have hlk : meth.locks = false := BodyLoose.notSynchronized Bd
  have hml : c.maxLocals = 3 := hml0
  have hown : s.vm.findClass "java/lang/StringLatin1" = some m.cls := findClass_of_methodNamed Bd.named
  have hnm := (name_of_methodNamed Bd.named Bd.method).1
  have X0 : Stand p l e ({ frames := 0, cells := 0, slots := 0, locals := 0 } : Room) s m #[(.ref a1), (.ref a2)] below meth c s₁ [] 0 0 := Stand.of_body Bd
  have e0 : s₁.heap = h0 := by rw [← hh, Bd.state]; rfl
  have N0 := Fr.nil n0
  have Zz := Z0
  have Kp : Keep h0 h0 [] := Keep.refl _ _
  show OwnEnds p e below s (QI 1 h0 n0) ({ frames := 0, cells := 0, slots := 0, locals := 0 } : Room).cells ({ frames := 0, cells := 0, slots := 0, locals := 0 } : Room).slots s₁ (entryFrame m #[(.ref a1), (.ref a2)] 3)
  refine own_step (T' := s₁) (f' := (mkF m 0 #[.val (.ref a1), .val (.ref a2), .unset] [])) (fun t k => castTop (ef_rm28_0 m a1 a2) k) ?_
  refine own_step (T' := s₁) (f' := (mkF m 1 #[.val (.ref a1), .val (.ref a2), .unset] [(.ref a1)])) (fun t k => XS.aloadN X0.here hx rfl (hb hby d28_0) rfl rfl k) ?_
  obtain ⟨cl1, Ar1, q1, S1, M1, H1, G1⟩ := id V_a1
  refine own_step (T' := s₁) (f' := (mkF m 2 #[.val (.ref a1), .val (.ref a2), .unset] [(.int (5 : Int32))])) (fun t k => X0.arraylength hx (by rw [e0]; exact Ar1.1) (State.isArrayOf_alike hZ.alike Ar1.2.1) (g := (mkF m 1 #[.val (.ref a1), .val (.ref a2), .unset] [(.ref a1)])) rfl rfl (hb hby d28_1) _ (by rw [len_of S1 M1]; exact k)) ?_
  refine own_step (T' := s₁) (f' := (mkF m 3 #[.val (.ref a1), .val (.ref a2), .unset] [(.ref a2), (.int (5 : Int32))])) (fun t k => XS.aloadN X0.here hx rfl (hb hby d28_2) rfl rfl k) ?_
  obtain ⟨cl2, Ar2, q2, S2, M2, H2, G2⟩ := id V_a2
  refine own_step (T' := s₁) (f' := (mkF m 4 #[.val (.ref a1), .val (.ref a2), .unset] [(.int (5 : Int32)), (.int (5 : Int32))])) (fun t k => X0.arraylength hx (by rw [e0]; exact Ar2.1) (State.isArrayOf_alike hZ.alike Ar2.2.1) (g := (mkF m 3 #[.val (.ref a1), .val (.ref a2), .unset] [(.ref a2), (.int (5 : Int32))])) rfl rfl (hb hby d28_3) _ (by rw [len_of S2 M2]; exact k)) ?_
  refine own_step (T' := s₁) (f' := (mkF m 7 #[.val (.ref a1), .val (.ref a2), .unset] [])) (fun t k => XS.icmpNo X0.here hx rfl (hb hby d28_4) rfl (teq (by decide : (5 : Int32) = (5 : Int32))).2 k) ?_
  refine own_step (T' := s₁) (f' := (mkF m 8 #[.val (.ref a1), .val (.ref a2), .unset] [(.int (0 : Int32))])) (fun t k => XS.iconst X0.here hx rfl (hb hby d28_7) k) ?_
  refine own_step (T' := s₁) (f' := (mkF m 9 #[.val (.ref a1), .val (.ref a2), .val (.int (0 : Int32))] [])) (fun t k => XS.istoreN X0.here hx rfl (hb hby d28_8) rfl (l' := #[.val (.ref a1), .val (.ref a2), .val (.int (0 : Int32))]) rfl k) ?_
  refine own_step (T' := s₁) (f' := (mkF m 10 #[.val (.ref a1), .val (.ref a2), .val (.int (0 : Int32))] [(.int (0 : Int32))])) (fun t k => XS.iloadN X0.here hx rfl (hb hby d28_9) rfl k) ?_
  refine own_step (T' := s₁) (f' := (mkF m 11 #[.val (.ref a1), .val (.ref a2), .val (.int (0 : Int32))] [(.ref a1), (.int (0 : Int32))])) (fun t k => XS.aloadN X0.here hx rfl (hb hby d28_10) rfl rfl k) ?_
  obtain ⟨cl3, Ar3, q3, S3, M3, H3, G3⟩ := id V_a1
  refine own_step (T' := s₁) (f' := (mkF m 12 #[.val (.ref a1), .val (.ref a2), .val (.int (0 : Int32))] [(.int (5 : Int32)), (.int (0 : Int32))])) (fun t k => X0.arraylength hx (by rw [e0]; exact Ar3.1) (State.isArrayOf_alike hZ.alike Ar3.2.1) (g := (mkF m 11 #[.val (.ref a1), .val (.ref a2), .val (.int (0 : Int32))] [(.ref a1), (.int (0 : Int32))])) rfl rfl (hb hby d28_11) _ (by rw [len_of S3 M3]; exact k)) ?_
  refine own_step (T' := s₁) (f' := (mkF m 15 #[.val (.ref a1), .val (.ref a2), .val (.int (0 : Int32))] [])) (fun t k => XS.icmpNo X0.here hx rfl (hb hby d28_12) rfl (tlt (by decide : (0 : Int32) < (5 : Int32))).2.1 k) ?_
  refine own_step (T' := s₁) (f' := (mkF m 16 #[.val (.ref a1), .val (.ref a2), .val (.int (0 : Int32))] [(.ref a1)])) (fun t k => XS.aloadN X0.here hx rfl (hb hby d28_15) rfl rfl k) ?_
  refine own_step (T' := s₁) (f' := (mkF m 17 #[.val (.ref a1), .val (.ref a2), .val (.int (0 : Int32))] [(.int (0 : Int32)), (.ref a1)])) (fun t k => XS.iloadN X0.here hx rfl (hb hby d28_16) rfl k) ?_
  obtain ⟨cl4, Ar4, q4, S4, M4, H4, G4⟩ := id V_a1
  have hin4 : ¬ ((0 : Int32) < 0 ∨ cl4.slots.size ≤ ((0 : Int32)).toNatClampNeg) := inb_of S4 ⟨by decide, by decide⟩
  have hat4 : cl4.slots[((0 : Int32)).toNatClampNeg]? = some (.int (102 : Int32)) := own_at hin4 H4 0 rfl rfl
  refine own_step (T' := s₁) (f' := (mkF m 18 #[.val (.ref a1), .val (.ref a2), .val (.int (0 : Int32))] [(.int (102 : Int32))])) (fun t k => X0.baloadBytes hx (j := (0 : Int32)) (v := (.int (102 : Int32))) (by rw [e0]; exact Ar4.1) (State.isArrayOf_alike hZ.alike Ar4.2.1) Ar4.2.2 hin4 hat4 (g := (mkF m 17 #[.val (.ref a1), .val (.ref a2), .val (.int (0 : Int32))] [(.int (0 : Int32)), (.ref a1)])) rfl rfl (hb hby d28_17) _ k) ?_
  refine own_step (T' := s₁) (f' := (mkF m 19 #[.val (.ref a1), .val (.ref a2), .val (.int (0 : Int32))] [(.ref a2), (.int (102 : Int32))])) (fun t k => XS.aloadN X0.here hx rfl (hb hby d28_18) rfl rfl k) ?_
  refine own_step (T' := s₁) (f' := (mkF m 20 #[.val (.ref a1), .val (.ref a2), .val (.int (0 : Int32))] [(.int (0 : Int32)), (.ref a2), (.int (102 : Int32))])) (fun t k => XS.iloadN X0.here hx rfl (hb hby d28_19) rfl k) ?_
  obtain ⟨cl5, Ar5, q5, S5, M5, H5, G5⟩ := id V_a2
  have hin5 : ¬ ((0 : Int32) < 0 ∨ cl5.slots.size ≤ ((0 : Int32)).toNatClampNeg) := inb_of S5 ⟨by decide, by decide⟩
  have hat5 : cl5.slots[((0 : Int32)).toNatClampNeg]? = some (.int (102 : Int32)) := own_at hin5 H5 0 rfl rfl
  refine own_step (T' := s₁) (f' := (mkF m 21 #[.val (.ref a1), .val (.ref a2), .val (.int (0 : Int32))] [(.int (102 : Int32)), (.int (102 : Int32))])) (fun t k => X0.baloadBytes hx (j := (0 : Int32)) (v := (.int (102 : Int32))) (by rw [e0]; exact Ar5.1) (State.isArrayOf_alike hZ.alike Ar5.2.1) Ar5.2.2 hin5 hat5 (g := (mkF m 20 #[.val (.ref a1), .val (.ref a2), .val (.int (0 : Int32))] [(.int (0 : Int32)), (.ref a2), (.int (102 : Int32))])) rfl rfl (hb hby d28_20) _ k) ?_
  refine own_step (T' := s₁) (f' := (mkF m 26 #[.val (.ref a1), .val (.ref a2), .val (.int (0 : Int32))] [])) (fun t k => XS.icmpYes X0.here hx rfl (pc0 := 21) (pc' := 26) rfl (hb hby d28_21) rfl (teq (by decide : (102 : Int32) = (102 : Int32))).1 (by decide) (by decide) k) ?_
  refine own_step (T' := s₁) (f' := (mkF m 29 #[.val (.ref a1), .val (.ref a2), .val (.int (1 : Int32))] [])) (fun t k => XS.iinc X0.here hx rfl (hb hby d28_26) rfl (l' := #[.val (.ref a1), .val (.ref a2), .val (.int (1 : Int32))]) rfl k) ?_
  refine own_step (T' := s₁) (f' := (mkF m 9 #[.val (.ref a1), .val (.ref a2), .val (.int (1 : Int32))] [])) (fun t k => XS.goto X0.here hx rfl (pc0 := 29) (pc' := 9) rfl (hb hby d28_29) (by decide) (by decide) k) ?_
  refine own_step (T' := s₁) (f' := (mkF m 10 #[.val (.ref a1), .val (.ref a2), .val (.int (1 : Int32))] [(.int (1 : Int32))])) (fun t k => XS.iloadN X0.here hx rfl (hb hby d28_9) rfl k) ?_
  refine own_step (T' := s₁) (f' := (mkF m 11 #[.val (.ref a1), .val (.ref a2), .val (.int (1 : Int32))] [(.ref a1), (.int (1 : Int32))])) (fun t k => XS.aloadN X0.here hx rfl (hb hby d28_10) rfl rfl k) ?_
  obtain ⟨cl6, Ar6, q6, S6, M6, H6, G6⟩ := id V_a1
  refine own_step (T' := s₁) (f' := (mkF m 12 #[.val (.ref a1), .val (.ref a2), .val (.int (1 : Int32))] [(.int (5 : Int32)), (.int (1 : Int32))])) (fun t k => X0.arraylength hx (by rw [e0]; exact Ar6.1) (State.isArrayOf_alike hZ.alike Ar6.2.1) (g := (mkF m 11 #[.val (.ref a1), .val (.ref a2), .val (.int (1 : Int32))] [(.ref a1), (.int (1 : Int32))])) rfl rfl (hb hby d28_11) _ (by rw [len_of S6 M6]; exact k)) ?_
  refine own_step (T' := s₁) (f' := (mkF m 15 #[.val (.ref a1), .val (.ref a2), .val (.int (1 : Int32))] [])) (fun t k => XS.icmpNo X0.here hx rfl (hb hby d28_12) rfl (tlt (by decide : (1 : Int32) < (5 : Int32))).2.1 k) ?_
  refine own_step (T' := s₁) (f' := (mkF m 16 #[.val (.ref a1), .val (.ref a2), .val (.int (1 : Int32))] [(.ref a1)])) (fun t k => XS.aloadN X0.here hx rfl (hb hby d28_15) rfl rfl k) ?_
  refine own_step (T' := s₁) (f' := (mkF m 17 #[.val (.ref a1), .val (.ref a2), .val (.int (1 : Int32))] [(.int (1 : Int32)), (.ref a1)])) (fun t k => XS.iloadN X0.here hx rfl (hb hby d28_16) rfl k) ?_
  obtain ⟨cl7, Ar7, q7, S7, M7, H7, G7⟩ := id V_a1
  have hin7 : ¬ ((1 : Int32) < 0 ∨ cl7.slots.size ≤ ((1 : Int32)).toNatClampNeg) := inb_of S7 ⟨by decide, by decide⟩
  have hat7 : cl7.slots[((1 : Int32)).toNatClampNeg]? = some (.int (97 : Int32)) := own_at hin7 H7 1 rfl rfl
  refine own_step (T' := s₁) (f' := (mkF m 18 #[.val (.ref a1), .val (.ref a2), .val (.int (1 : Int32))] [(.int (97 : Int32))])) (fun t k => X0.baloadBytes hx (j := (1 : Int32)) (v := (.int (97 : Int32))) (by rw [e0]; exact Ar7.1) (State.isArrayOf_alike hZ.alike Ar7.2.1) Ar7.2.2 hin7 hat7 (g := (mkF m 17 #[.val (.ref a1), .val (.ref a2), .val (.int (1 : Int32))] [(.int (1 : Int32)), (.ref a1)])) rfl rfl (hb hby d28_17) _ k) ?_
  refine own_step (T' := s₁) (f' := (mkF m 19 #[.val (.ref a1), .val (.ref a2), .val (.int (1 : Int32))] [(.ref a2), (.int (97 : Int32))])) (fun t k => XS.aloadN X0.here hx rfl (hb hby d28_18) rfl rfl k) ?_
  refine own_step (T' := s₁) (f' := (mkF m 20 #[.val (.ref a1), .val (.ref a2), .val (.int (1 : Int32))] [(.int (1 : Int32)), (.ref a2), (.int (97 : Int32))])) (fun t k => XS.iloadN X0.here hx rfl (hb hby d28_19) rfl k) ?_
  obtain ⟨cl8, Ar8, q8, S8, M8, H8, G8⟩ := id V_a2
  have hin8 : ¬ ((1 : Int32) < 0 ∨ cl8.slots.size ≤ ((1 : Int32)).toNatClampNeg) := inb_of S8 ⟨by decide, by decide⟩
  have hat8 : cl8.slots[((1 : Int32)).toNatClampNeg]? = some (.int (97 : Int32)) := own_at hin8 H8 1 rfl rfl
  refine own_step (T' := s₁) (f' := (mkF m 21 #[.val (.ref a1), .val (.ref a2), .val (.int (1 : Int32))] [(.int (97 : Int32)), (.int (97 : Int32))])) (fun t k => X0.baloadBytes hx (j := (1 : Int32)) (v := (.int (97 : Int32))) (by rw [e0]; exact Ar8.1) (State.isArrayOf_alike hZ.alike Ar8.2.1) Ar8.2.2 hin8 hat8 (g := (mkF m 20 #[.val (.ref a1), .val (.ref a2), .val (.int (1 : Int32))] [(.int (1 : Int32)), (.ref a2), (.int (97 : Int32))])) rfl rfl (hb hby d28_20) _ k) ?_
  refine own_step (T' := s₁) (f' := (mkF m 26 #[.val (.ref a1), .val (.ref a2), .val (.int (1 : Int32))] [])) (fun t k => XS.icmpYes X0.here hx rfl (pc0 := 21) (pc' := 26) rfl (hb hby d28_21) rfl (teq (by decide : (97 : Int32) = (97 : Int32))).1 (by decide) (by decide) k) ?_
  refine own_step (T' := s₁) (f' := (mkF m 29 #[.val (.ref a1), .val (.ref a2), .val (.int (2 : Int32))] [])) (fun t k => XS.iinc X0.here hx rfl (hb hby d28_26) rfl (l' := #[.val (.ref a1), .val (.ref a2), .val (.int (2 : Int32))]) rfl k) ?_
  refine own_step (T' := s₁) (f' := (mkF m 9 #[.val (.ref a1), .val (.ref a2), .val (.int (2 : Int32))] [])) (fun t k => XS.goto X0.here hx rfl (pc0 := 29) (pc' := 9) rfl (hb hby d28_29) (by decide) (by decide) k) ?_
  refine own_step (T' := s₁) (f' := (mkF m 10 #[.val (.ref a1), .val (.ref a2), .val (.int (2 : Int32))] [(.int (2 : Int32))])) (fun t k => XS.iloadN X0.here hx rfl (hb hby d28_9) rfl k) ?_
  refine own_step (T' := s₁) (f' := (mkF m 11 #[.val (.ref a1), .val (.ref a2), .val (.int (2 : Int32))] [(.ref a1), (.int (2 : Int32))])) (fun t k => XS.aloadN X0.here hx rfl (hb hby d28_10) rfl rfl k) ?_
  obtain ⟨cl9, Ar9, q9, S9, M9, H9, G9⟩ := id V_a1
  refine own_step (T' := s₁) (f' := (mkF m 12 #[.val (.ref a1), .val (.ref a2), .val (.int (2 : Int32))] [(.int (5 : Int32)), (.int (2 : Int32))])) (fun t k => X0.arraylength hx (by rw [e0]; exact Ar9.1) (State.isArrayOf_alike hZ.alike Ar9.2.1) (g := (mkF m 11 #[.val (.ref a1), .val (.ref a2), .val (.int (2 : Int32))] [(.ref a1), (.int (2 : Int32))])) rfl rfl (hb hby d28_11) _ (by rw [len_of S9 M9]; exact k)) ?_
  refine own_step (T' := s₁) (f' := (mkF m 15 #[.val (.ref a1), .val (.ref a2), .val (.int (2 : Int32))] [])) (fun t k => XS.icmpNo X0.here hx rfl (hb hby d28_12) rfl (tlt (by decide : (2 : Int32) < (5 : Int32))).2.1 k) ?_
  refine own_step (T' := s₁) (f' := (mkF m 16 #[.val (.ref a1), .val (.ref a2), .val (.int (2 : Int32))] [(.ref a1)])) (fun t k => XS.aloadN X0.here hx rfl (hb hby d28_15) rfl rfl k) ?_
  refine own_step (T' := s₁) (f' := (mkF m 17 #[.val (.ref a1), .val (.ref a2), .val (.int (2 : Int32))] [(.int (2 : Int32)), (.ref a1)])) (fun t k => XS.iloadN X0.here hx rfl (hb hby d28_16) rfl k) ?_
  obtain ⟨cl10, Ar10, q10, S10, M10, H10, G10⟩ := id V_a1
  have hin10 : ¬ ((2 : Int32) < 0 ∨ cl10.slots.size ≤ ((2 : Int32)).toNatClampNeg) := inb_of S10 ⟨by decide, by decide⟩
  have hat10 : cl10.slots[((2 : Int32)).toNatClampNeg]? = some (.int (108 : Int32)) := own_at hin10 H10 2 rfl rfl
  refine own_step (T' := s₁) (f' := (mkF m 18 #[.val (.ref a1), .val (.ref a2), .val (.int (2 : Int32))] [(.int (108 : Int32))])) (fun t k => X0.baloadBytes hx (j := (2 : Int32)) (v := (.int (108 : Int32))) (by rw [e0]; exact Ar10.1) (State.isArrayOf_alike hZ.alike Ar10.2.1) Ar10.2.2 hin10 hat10 (g := (mkF m 17 #[.val (.ref a1), .val (.ref a2), .val (.int (2 : Int32))] [(.int (2 : Int32)), (.ref a1)])) rfl rfl (hb hby d28_17) _ k) ?_
  refine own_step (T' := s₁) (f' := (mkF m 19 #[.val (.ref a1), .val (.ref a2), .val (.int (2 : Int32))] [(.ref a2), (.int (108 : Int32))])) (fun t k => XS.aloadN X0.here hx rfl (hb hby d28_18) rfl rfl k) ?_
  refine own_step (T' := s₁) (f' := (mkF m 20 #[.val (.ref a1), .val (.ref a2), .val (.int (2 : Int32))] [(.int (2 : Int32)), (.ref a2), (.int (108 : Int32))])) (fun t k => XS.iloadN X0.here hx rfl (hb hby d28_19) rfl k) ?_
  obtain ⟨cl11, Ar11, q11, S11, M11, H11, G11⟩ := id V_a2
  have hin11 : ¬ ((2 : Int32) < 0 ∨ cl11.slots.size ≤ ((2 : Int32)).toNatClampNeg) := inb_of S11 ⟨by decide, by decide⟩
  have hat11 : cl11.slots[((2 : Int32)).toNatClampNeg]? = some (.int (108 : Int32)) := own_at hin11 H11 2 rfl rfl
  refine own_step (T' := s₁) (f' := (mkF m 21 #[.val (.ref a1), .val (.ref a2), .val (.int (2 : Int32))] [(.int (108 : Int32)), (.int (108 : Int32))])) (fun t k => X0.baloadBytes hx (j := (2 : Int32)) (v := (.int (108 : Int32))) (by rw [e0]; exact Ar11.1) (State.isArrayOf_alike hZ.alike Ar11.2.1) Ar11.2.2 hin11 hat11 (g := (mkF m 20 #[.val (.ref a1), .val (.ref a2), .val (.int (2 : Int32))] [(.int (2 : Int32)), (.ref a2), (.int (108 : Int32))])) rfl rfl (hb hby d28_20) _ k) ?_
  refine own_step (T' := s₁) (f' := (mkF m 26 #[.val (.ref a1), .val (.ref a2), .val (.int (2 : Int32))] [])) (fun t k => XS.icmpYes X0.here hx rfl (pc0 := 21) (pc' := 26) rfl (hb hby d28_21) rfl (teq (by decide : (108 : Int32) = (108 : Int32))).1 (by decide) (by decide) k) ?_
  refine own_step (T' := s₁) (f' := (mkF m 29 #[.val (.ref a1), .val (.ref a2), .val (.int (3 : Int32))] [])) (fun t k => XS.iinc X0.here hx rfl (hb hby d28_26) rfl (l' := #[.val (.ref a1), .val (.ref a2), .val (.int (3 : Int32))]) rfl k) ?_
  refine own_step (T' := s₁) (f' := (mkF m 9 #[.val (.ref a1), .val (.ref a2), .val (.int (3 : Int32))] [])) (fun t k => XS.goto X0.here hx rfl (pc0 := 29) (pc' := 9) rfl (hb hby d28_29) (by decide) (by decide) k) ?_
  refine own_step (T' := s₁) (f' := (mkF m 10 #[.val (.ref a1), .val (.ref a2), .val (.int (3 : Int32))] [(.int (3 : Int32))])) (fun t k => XS.iloadN X0.here hx rfl (hb hby d28_9) rfl k) ?_
  refine own_step (T' := s₁) (f' := (mkF m 11 #[.val (.ref a1), .val (.ref a2), .val (.int (3 : Int32))] [(.ref a1), (.int (3 : Int32))])) (fun t k => XS.aloadN X0.here hx rfl (hb hby d28_10) rfl rfl k) ?_
  obtain ⟨cl12, Ar12, q12, S12, M12, H12, G12⟩ := id V_a1
  refine own_step (T' := s₁) (f' := (mkF m 12 #[.val (.ref a1), .val (.ref a2), .val (.int (3 : Int32))] [(.int (5 : Int32)), (.int (3 : Int32))])) (fun t k => X0.arraylength hx (by rw [e0]; exact Ar12.1) (State.isArrayOf_alike hZ.alike Ar12.2.1) (g := (mkF m 11 #[.val (.ref a1), .val (.ref a2), .val (.int (3 : Int32))] [(.ref a1), (.int (3 : Int32))])) rfl rfl (hb hby d28_11) _ (by rw [len_of S12 M12]; exact k)) ?_
  refine own_step (T' := s₁) (f' := (mkF m 15 #[.val (.ref a1), .val (.ref a2), .val (.int (3 : Int32))] [])) (fun t k => XS.icmpNo X0.here hx rfl (hb hby d28_12) rfl (tlt (by decide : (3 : Int32) < (5 : Int32))).2.1 k) ?_
  refine own_step (T' := s₁) (f' := (mkF m 16 #[.val (.ref a1), .val (.ref a2), .val (.int (3 : Int32))] [(.ref a1)])) (fun t k => XS.aloadN X0.here hx rfl (hb hby d28_15) rfl rfl k) ?_
  refine own_step (T' := s₁) (f' := (mkF m 17 #[.val (.ref a1), .val (.ref a2), .val (.int (3 : Int32))] [(.int (3 : Int32)), (.ref a1)])) (fun t k => XS.iloadN X0.here hx rfl (hb hby d28_16) rfl k) ?_
  obtain ⟨cl13, Ar13, q13, S13, M13, H13, G13⟩ := id V_a1
  have hin13 : ¬ ((3 : Int32) < 0 ∨ cl13.slots.size ≤ ((3 : Int32)).toNatClampNeg) := inb_of S13 ⟨by decide, by decide⟩
  have hat13 : cl13.slots[((3 : Int32)).toNatClampNeg]? = some (.int (115 : Int32)) := own_at hin13 H13 3 rfl rfl
  refine own_step (T' := s₁) (f' := (mkF m 18 #[.val (.ref a1), .val (.ref a2), .val (.int (3 : Int32))] [(.int (115 : Int32))])) (fun t k => X0.baloadBytes hx (j := (3 : Int32)) (v := (.int (115 : Int32))) (by rw [e0]; exact Ar13.1) (State.isArrayOf_alike hZ.alike Ar13.2.1) Ar13.2.2 hin13 hat13 (g := (mkF m 17 #[.val (.ref a1), .val (.ref a2), .val (.int (3 : Int32))] [(.int (3 : Int32)), (.ref a1)])) rfl rfl (hb hby d28_17) _ k) ?_
  refine own_step (T' := s₁) (f' := (mkF m 19 #[.val (.ref a1), .val (.ref a2), .val (.int (3 : Int32))] [(.ref a2), (.int (115 : Int32))])) (fun t k => XS.aloadN X0.here hx rfl (hb hby d28_18) rfl rfl k) ?_
  refine own_step (T' := s₁) (f' := (mkF m 20 #[.val (.ref a1), .val (.ref a2), .val (.int (3 : Int32))] [(.int (3 : Int32)), (.ref a2), (.int (115 : Int32))])) (fun t k => XS.iloadN X0.here hx rfl (hb hby d28_19) rfl k) ?_
  obtain ⟨cl14, Ar14, q14, S14, M14, H14, G14⟩ := id V_a2
  have hin14 : ¬ ((3 : Int32) < 0 ∨ cl14.slots.size ≤ ((3 : Int32)).toNatClampNeg) := inb_of S14 ⟨by decide, by decide⟩
  have hat14 : cl14.slots[((3 : Int32)).toNatClampNeg]? = some (.int (115 : Int32)) := own_at hin14 H14 3 rfl rfl
  refine own_step (T' := s₁) (f' := (mkF m 21 #[.val (.ref a1), .val (.ref a2), .val (.int (3 : Int32))] [(.int (115 : Int32)), (.int (115 : Int32))])) (fun t k => X0.baloadBytes hx (j := (3 : Int32)) (v := (.int (115 : Int32))) (by rw [e0]; exact Ar14.1) (State.isArrayOf_alike hZ.alike Ar14.2.1) Ar14.2.2 hin14 hat14 (g := (mkF m 20 #[.val (.ref a1), .val (.ref a2), .val (.int (3 : Int32))] [(.int (3 : Int32)), (.ref a2), (.int (115 : Int32))])) rfl rfl (hb hby d28_20) _ k) ?_
  refine own_step (T' := s₁) (f' := (mkF m 26 #[.val (.ref a1), .val (.ref a2), .val (.int (3 : Int32))] [])) (fun t k => XS.icmpYes X0.here hx rfl (pc0 := 21) (pc' := 26) rfl (hb hby d28_21) rfl (teq (by decide : (115 : Int32) = (115 : Int32))).1 (by decide) (by decide) k) ?_
  refine own_step (T' := s₁) (f' := (mkF m 29 #[.val (.ref a1), .val (.ref a2), .val (.int (4 : Int32))] [])) (fun t k => XS.iinc X0.here hx rfl (hb hby d28_26) rfl (l' := #[.val (.ref a1), .val (.ref a2), .val (.int (4 : Int32))]) rfl k) ?_
  refine own_step (T' := s₁) (f' := (mkF m 9 #[.val (.ref a1), .val (.ref a2), .val (.int (4 : Int32))] [])) (fun t k => XS.goto X0.here hx rfl (pc0 := 29) (pc' := 9) rfl (hb hby d28_29) (by decide) (by decide) k) ?_
  refine own_step (T' := s₁) (f' := (mkF m 10 #[.val (.ref a1), .val (.ref a2), .val (.int (4 : Int32))] [(.int (4 : Int32))])) (fun t k => XS.iloadN X0.here hx rfl (hb hby d28_9) rfl k) ?_
  refine own_step (T' := s₁) (f' := (mkF m 11 #[.val (.ref a1), .val (.ref a2), .val (.int (4 : Int32))] [(.ref a1), (.int (4 : Int32))])) (fun t k => XS.aloadN X0.here hx rfl (hb hby d28_10) rfl rfl k) ?_
  obtain ⟨cl15, Ar15, q15, S15, M15, H15, G15⟩ := id V_a1
  refine own_step (T' := s₁) (f' := (mkF m 12 #[.val (.ref a1), .val (.ref a2), .val (.int (4 : Int32))] [(.int (5 : Int32)), (.int (4 : Int32))])) (fun t k => X0.arraylength hx (by rw [e0]; exact Ar15.1) (State.isArrayOf_alike hZ.alike Ar15.2.1) (g := (mkF m 11 #[.val (.ref a1), .val (.ref a2), .val (.int (4 : Int32))] [(.ref a1), (.int (4 : Int32))])) rfl rfl (hb hby d28_11) _ (by rw [len_of S15 M15]; exact k)) ?_
  refine own_step (T' := s₁) (f' := (mkF m 15 #[.val (.ref a1), .val (.ref a2), .val (.int (4 : Int32))] [])) (fun t k => XS.icmpNo X0.here hx rfl (hb hby d28_12) rfl (tlt (by decide : (4 : Int32) < (5 : Int32))).2.1 k) ?_
  refine own_step (T' := s₁) (f' := (mkF m 16 #[.val (.ref a1), .val (.ref a2), .val (.int (4 : Int32))] [(.ref a1)])) (fun t k => XS.aloadN X0.here hx rfl (hb hby d28_15) rfl rfl k) ?_
  refine own_step (T' := s₁) (f' := (mkF m 17 #[.val (.ref a1), .val (.ref a2), .val (.int (4 : Int32))] [(.int (4 : Int32)), (.ref a1)])) (fun t k => XS.iloadN X0.here hx rfl (hb hby d28_16) rfl k) ?_
  obtain ⟨cl16, Ar16, q16, S16, M16, H16, G16⟩ := id V_a1
  have hin16 : ¬ ((4 : Int32) < 0 ∨ cl16.slots.size ≤ ((4 : Int32)).toNatClampNeg) := inb_of S16 ⟨by decide, by decide⟩
  have hat16 : cl16.slots[((4 : Int32)).toNatClampNeg]? = some (.int (101 : Int32)) := own_at hin16 H16 4 rfl rfl
  refine own_step (T' := s₁) (f' := (mkF m 18 #[.val (.ref a1), .val (.ref a2), .val (.int (4 : Int32))] [(.int (101 : Int32))])) (fun t k => X0.baloadBytes hx (j := (4 : Int32)) (v := (.int (101 : Int32))) (by rw [e0]; exact Ar16.1) (State.isArrayOf_alike hZ.alike Ar16.2.1) Ar16.2.2 hin16 hat16 (g := (mkF m 17 #[.val (.ref a1), .val (.ref a2), .val (.int (4 : Int32))] [(.int (4 : Int32)), (.ref a1)])) rfl rfl (hb hby d28_17) _ k) ?_
  refine own_step (T' := s₁) (f' := (mkF m 19 #[.val (.ref a1), .val (.ref a2), .val (.int (4 : Int32))] [(.ref a2), (.int (101 : Int32))])) (fun t k => XS.aloadN X0.here hx rfl (hb hby d28_18) rfl rfl k) ?_
  refine own_step (T' := s₁) (f' := (mkF m 20 #[.val (.ref a1), .val (.ref a2), .val (.int (4 : Int32))] [(.int (4 : Int32)), (.ref a2), (.int (101 : Int32))])) (fun t k => XS.iloadN X0.here hx rfl (hb hby d28_19) rfl k) ?_
  obtain ⟨cl17, Ar17, q17, S17, M17, H17, G17⟩ := id V_a2
  have hin17 : ¬ ((4 : Int32) < 0 ∨ cl17.slots.size ≤ ((4 : Int32)).toNatClampNeg) := inb_of S17 ⟨by decide, by decide⟩
  have hat17 : cl17.slots[((4 : Int32)).toNatClampNeg]? = some (.int (101 : Int32)) := own_at hin17 H17 4 rfl rfl
  refine own_step (T' := s₁) (f' := (mkF m 21 #[.val (.ref a1), .val (.ref a2), .val (.int (4 : Int32))] [(.int (101 : Int32)), (.int (101 : Int32))])) (fun t k => X0.baloadBytes hx (j := (4 : Int32)) (v := (.int (101 : Int32))) (by rw [e0]; exact Ar17.1) (State.isArrayOf_alike hZ.alike Ar17.2.1) Ar17.2.2 hin17 hat17 (g := (mkF m 20 #[.val (.ref a1), .val (.ref a2), .val (.int (4 : Int32))] [(.int (4 : Int32)), (.ref a2), (.int (101 : Int32))])) rfl rfl (hb hby d28_20) _ k) ?_
  refine own_step (T' := s₁) (f' := (mkF m 26 #[.val (.ref a1), .val (.ref a2), .val (.int (4 : Int32))] [])) (fun t k => XS.icmpYes X0.here hx rfl (pc0 := 21) (pc' := 26) rfl (hb hby d28_21) rfl (teq (by decide : (101 : Int32) = (101 : Int32))).1 (by decide) (by decide) k) ?_
  refine own_step (T' := s₁) (f' := (mkF m 29 #[.val (.ref a1), .val (.ref a2), .val (.int (5 : Int32))] [])) (fun t k => XS.iinc X0.here hx rfl (hb hby d28_26) rfl (l' := #[.val (.ref a1), .val (.ref a2), .val (.int (5 : Int32))]) rfl k) ?_
  refine own_step (T' := s₁) (f' := (mkF m 9 #[.val (.ref a1), .val (.ref a2), .val (.int (5 : Int32))] [])) (fun t k => XS.goto X0.here hx rfl (pc0 := 29) (pc' := 9) rfl (hb hby d28_29) (by decide) (by decide) k) ?_
  refine own_step (T' := s₁) (f' := (mkF m 10 #[.val (.ref a1), .val (.ref a2), .val (.int (5 : Int32))] [(.int (5 : Int32))])) (fun t k => XS.iloadN X0.here hx rfl (hb hby d28_9) rfl k) ?_
  refine own_step (T' := s₁) (f' := (mkF m 11 #[.val (.ref a1), .val (.ref a2), .val (.int (5 : Int32))] [(.ref a1), (.int (5 : Int32))])) (fun t k => XS.aloadN X0.here hx rfl (hb hby d28_10) rfl rfl k) ?_
  obtain ⟨cl18, Ar18, q18, S18, M18, H18, G18⟩ := id V_a1
  refine own_step (T' := s₁) (f' := (mkF m 12 #[.val (.ref a1), .val (.ref a2), .val (.int (5 : Int32))] [(.int (5 : Int32)), (.int (5 : Int32))])) (fun t k => X0.arraylength hx (by rw [e0]; exact Ar18.1) (State.isArrayOf_alike hZ.alike Ar18.2.1) (g := (mkF m 11 #[.val (.ref a1), .val (.ref a2), .val (.int (5 : Int32))] [(.ref a1), (.int (5 : Int32))])) rfl rfl (hb hby d28_11) _ (by rw [len_of S18 M18]; exact k)) ?_
  refine own_step (T' := s₁) (f' := (mkF m 32 #[.val (.ref a1), .val (.ref a2), .val (.int (5 : Int32))] [])) (fun t k => XS.icmpYes X0.here hx rfl (pc0 := 12) (pc' := 32) rfl (hb hby d28_12) rfl (flt (by decide : ¬ ((5 : Int32) < (5 : Int32)))).2.1 (by decide) (by decide) k) ?_
  refine own_step (T' := s₁) (f' := (mkF m 33 #[.val (.ref a1), .val (.ref a2), .val (.int (5 : Int32))] [(.int (1 : Int32))])) (fun t k => XS.iconst X0.here hx rfl (hb hby d28_32) k) ?_
  exact own_retN X0 hx hlk (t := .boolean) Bd.returns (by simp) (hb hby d28_33) (by decide) (by decide) ⟨rfl, N0, e0⟩

theorem ef_rm27_0 (m : MethodId) (x0 : Addr) (x1 : Addr) : entryFrame m #[(.ref x0), (.ref x1)] 3 = mkF m 0 #[.val (.ref x0), .val (.ref x1), .unset] [] := by first | (simp [entryFrame, mkF, argsToLocals, Value.category]; done) | rfl
set_option maxRecDepth 65536 in
set_option maxHeartbeats 40000000 in
theorem rm27_0 (l : Launch) (Z : State) (a0 : Array Value) (hw : ∀ d ∈ tables_1, d.before a0 Z = true) (ws : List Jvm.Cond) (a1 : Addr) (a2 : Addr) (h0 : Heap) (n0 : Nat) (Z0 : n0 ≤ h0.size) (b1 b2 : Addr) (k1 k2 : ClassId) (O1 : OwnStr Z h0 a1 b1 k1 5 [(.int (102 : Int32)), (.int (97 : Int32)), (.int (108 : Int32)), (.int (115 : Int32)), (.int (101 : Int32))]) (O2 : OwnStr Z h0 a2 b2 k2 5 [(.int (102 : Int32)), (.int (97 : Int32)), (.int (108 : Int32)), (.int (115 : Int32)), (.int (101 : Int32))]) (cs : Int32) (S_CS : Sta Z h0 "java/lang/String" "COMPACT_STRINGS" "Z" (.int cs)) (hcs : ¬ cs = (0 : Int32)) :
    MetFree l (⟨"java/lang/String", "equals", "(Ljava/lang/Object;)Z"⟩ : MethodName) (head1 (Jvm.Cond.code (⟨"java/lang/String", "equals", "(Ljava/lang/Object;)Z"⟩ : MethodName) jdk_42_method_66_code 3 (some .boolean) :: ws) ({ frames := 1, cells := 0, slots := 0, locals := 14 } : Room)) (fun a U => a = #[(.ref a1), (.ref a2)] ∧ Z.Warmed39 U.vm ∧ U.heap = h0) (fun _ _ _ _ _ => True) (fun _ U o U' => ∃ v L, o = .returned v ∧ QI 1 h0 n0 v U'.heap L ∧ FrameEnd U o U' L ({ frames := 1, cells := 0, slots := 0, locals := 14 } : Room).cells ({ frames := 1, cells := 0, slots := 0, locals := 14 } : Room).slots) := by
  refine MetFree.of_bodySF (plainFor_of_name pn_27) hisR ?_
  intro p e s m args below meth c s₁ Bd hml0 hP hK
  obtain ⟨rfl, hZ, hh⟩ := hP
  have hx := Bd.exec
  have hby := Bd.bytes
  have hlk : meth.locks = false := BodyLoose.notSynchronized Bd
  have hml : c.maxLocals = 3 := hml0
  have hown : s.vm.findClass "java/lang/String" = some m.cls := findClass_of_methodNamed Bd.named
  have hnm := (name_of_methodNamed Bd.named Bd.method).1
  have X0 : Stand p l e ({ frames := 1, cells := 0, slots := 0, locals := 14 } : Room) s m #[(.ref a1), (.ref a2)] below meth c s₁ [] 0 0 := Stand.of_body Bd
  have e0 : s₁.heap = h0 := by rw [← hh, Bd.state]; rfl
  have N0 := Fr.nil n0
  show OwnEnds p e below s (QI 1 h0 n0) ({ frames := 1, cells := 0, slots := 0, locals := 14 } : Room).cells ({ frames := 1, cells := 0, slots := 0, locals := 14 } : Room).slots s₁ (entryFrame m #[(.ref a1), (.ref a2)] 3)
  refine own_step (T' := s₁) (f' := (mkF m 0 #[.val (.ref a1), .val (.ref a2), .unset] [])) (fun t k => castTop (ef_rm27_0 m a1 a2) k) ?_
  refine own_step (T' := s₁) (f' := (mkF m 1 #[.val (.ref a1), .val (.ref a2), .unset] [(.ref a1)])) (fun t k => XS.aloadN X0.here hx rfl (hb hby d27_0) rfl rfl k) ?_
  refine own_step (T' := s₁) (f' := (mkF m 2 #[.val (.ref a1), .val (.ref a2), .unset] [(.ref a2), (.ref a1)])) (fun t k => XS.aloadN X0.here hx rfl (hb hby d27_1) rfl rfl k) ?_
  by_cases hc2_1 : a1 = a2
  · skip
    refine own_step (T' := s₁) (f' := (mkF m 5 #[.val (.ref a1), .val (.ref a2), .unset] [])) (fun t k => Jvm.RoadKit.acmp (g := (mkF m 2 #[.val (.ref a1), .val (.ref a2), .unset] [(.ref a2), (.ref a1)])) X0 hx rfl rfl rfl (pc0 := 2) (pc' := 5) (same := true) rfl (hb hby d27_2) rfl (decide_eq_true (congrArg Value.ref hc2_1)) (by decide) (by decide) k) ?_
    refine own_step (T' := s₁) (f' := (mkF m 6 #[.val (.ref a1), .val (.ref a2), .unset] [(.int (1 : Int32))])) (fun t k => XS.iconst X0.here hx rfl (hb hby d27_5) k) ?_
    exact own_retN X0 hx hlk (t := .boolean) Bd.returns (by simp) (hb hby d27_6) (by decide) (by decide) ⟨rfl, N0, e0⟩
  · skip
    refine own_step (T' := s₁) (f' := (mkF m 7 #[.val (.ref a1), .val (.ref a2), .unset] [])) (fun t k => Jvm.RoadKit.acmp (g := (mkF m 2 #[.val (.ref a1), .val (.ref a2), .unset] [(.ref a2), (.ref a1)])) X0 hx rfl rfl rfl (pc0 := 2) (pc' := 7) (same := false) rfl (hb hby d27_2) rfl (decide_eq_false fun q => hc2_1 (Value.ref.inj q)) (by decide) (by decide) k) ?_
    refine own_step (T' := s₁) (f' := (mkF m 8 #[.val (.ref a1), .val (.ref a2), .unset] [(.ref a2)])) (fun t k => XS.aloadN X0.here hx rfl (hb hby d27_7) rfl rfl k) ?_
    obtain ⟨T2, X2, e2, st2⟩ := instY X0 hx hZ hown (hw _ (List.mem_of_getElem? (i := 174) rfl)) e0 (Ins.self O2.1) (g := (mkF m 8 #[.val (.ref a1), .val (.ref a2), .unset] [(.ref a2)])) rfl rfl (hb hby d27_8)
    refine own_step (T' := T2) (f' := (mkF m 11 #[.val (.ref a1), .val (.ref a2), .unset] [(.int (1 : Int32))])) (fun t k => st2 t k) ?_
    refine own_step (T' := T2) (f' := (mkF m 14 #[.val (.ref a1), .val (.ref a2), .unset] [])) (fun t k => XS.ifNo X2.here hx rfl (hb hby d27_11) rfl ((if0 _ _).trans (feq (by decide : ¬ ((1 : Int32) = (0 : Int32)))).1) k) ?_
    refine own_step (T' := T2) (f' := (mkF m 15 #[.val (.ref a1), .val (.ref a2), .unset] [(.ref a2)])) (fun t k => XS.aloadN X2.here hx rfl (hb hby d27_14) rfl rfl k) ?_
    obtain ⟨T3, X3, e3, st3⟩ := castY X2 hx hZ hown (hw _ (List.mem_of_getElem? (i := 174) rfl)) e2 (Ins.self O2.1) (g := (mkF m 15 #[.val (.ref a1), .val (.ref a2), .unset] [(.ref a2)])) rfl rfl (hb hby d27_15)
    refine own_step (T' := T3) (f' := (mkF m 18 #[.val (.ref a1), .val (.ref a2), .unset] [(.ref a2)])) (fun t k => st3 t k) ?_
    refine own_step (T' := T3) (f' := (mkF m 19 #[.val (.ref a1), .val (.ref a2), .val (.ref a2)] [])) (fun t k => XS.astoreN X3.here hx rfl (hb hby d27_18) rfl rfl (l' := #[.val (.ref a1), .val (.ref a2), .val (.ref a2)]) rfl k) ?_
    obtain ⟨T4, X4, e4, st4⟩ := getS2 X3 hx hZ hown (host := "") (Or.inl (hw _ (List.mem_of_getElem? (i := 175) rfl))) Via.refl e3 S_CS (g := (mkF m 19 #[.val (.ref a1), .val (.ref a2), .val (.ref a2)] [])) rfl (hb hby d27_19)
    refine own_step (T' := T4) (f' := (mkF m 22 #[.val (.ref a1), .val (.ref a2), .val (.ref a2)] [(.int cs)])) (fun t k => st4 t k) ?_
    refine own_step (T' := T4) (f' := (mkF m 25 #[.val (.ref a1), .val (.ref a2), .val (.ref a2)] [])) (fun t k => XS.ifNo X4.here hx rfl (hb hby d27_22) rfl ((if0 _ _).trans (feq hcs).1) k) ?_
    refine own_step (T' := T4) (f' := (mkF m 26 #[.val (.ref a1), .val (.ref a2), .val (.ref a2)] [(.ref a1)])) (fun t k => XS.aloadN X4.here hx rfl (hb hby d27_25) rfl rfl k) ?_
    obtain ⟨T5, X5, e5, st5⟩ := getF X4 hx hZ hown (host := "") (Or.inl (hw _ (List.mem_of_getElem? (i := 144) rfl))) Via.refl e4 O1.2.1 (g := (mkF m 26 #[.val (.ref a1), .val (.ref a2), .val (.ref a2)] [(.ref a1)])) rfl rfl (hb hby d27_26)
    refine own_step (T' := T5) (f' := (mkF m 29 #[.val (.ref a1), .val (.ref a2), .val (.ref a2)] [(.int (0 : Int32))])) (fun t k => st5 t k) ?_
    refine own_step (T' := T5) (f' := (mkF m 30 #[.val (.ref a1), .val (.ref a2), .val (.ref a2)] [(.ref a2), (.int (0 : Int32))])) (fun t k => XS.aloadN X5.here hx rfl (hb hby d27_29) rfl rfl k) ?_
    obtain ⟨T6, X6, e6, st6⟩ := getF X5 hx hZ hown (host := "") (Or.inl (hw _ (List.mem_of_getElem? (i := 144) rfl))) Via.refl e5 O2.2.1 (g := (mkF m 30 #[.val (.ref a1), .val (.ref a2), .val (.ref a2)] [(.ref a2), (.int (0 : Int32))])) rfl rfl (hb hby d27_30)
    refine own_step (T' := T6) (f' := (mkF m 33 #[.val (.ref a1), .val (.ref a2), .val (.ref a2)] [(.int (0 : Int32)), (.int (0 : Int32))])) (fun t k => st6 t k) ?_
    refine own_step (T' := T6) (f' := (mkF m 36 #[.val (.ref a1), .val (.ref a2), .val (.ref a2)] [])) (fun t k => XS.icmpNo X6.here hx rfl (hb hby d27_33) rfl (teq (by decide : (0 : Int32) = (0 : Int32))).2 k) ?_
    refine own_step (T' := T6) (f' := (mkF m 37 #[.val (.ref a1), .val (.ref a2), .val (.ref a2)] [(.ref a1)])) (fun t k => XS.aloadN X6.here hx rfl (hb hby d27_36) rfl rfl k) ?_
    obtain ⟨T7, X7, e7, st7⟩ := getF X6 hx hZ hown (host := "") (Or.inl (hw _ (List.mem_of_getElem? (i := 164) rfl))) Via.refl e6 O1.2.2.1 (g := (mkF m 37 #[.val (.ref a1), .val (.ref a2), .val (.ref a2)] [(.ref a1)])) rfl rfl (hb hby d27_37)
    refine own_step (T' := T7) (f' := (mkF m 40 #[.val (.ref a1), .val (.ref a2), .val (.ref a2)] [(.ref b1)])) (fun t k => st7 t k) ?_
    refine own_step (T' := T7) (f' := (mkF m 41 #[.val (.ref a1), .val (.ref a2), .val (.ref a2)] [(.ref a2), (.ref b1)])) (fun t k => XS.aloadN X7.here hx rfl (hb hby d27_40) rfl rfl k) ?_
    obtain ⟨T8, X8, e8, st8⟩ := getF X7 hx hZ hown (host := "") (Or.inl (hw _ (List.mem_of_getElem? (i := 164) rfl))) Via.refl e7 O2.2.2.1 (g := (mkF m 41 #[.val (.ref a1), .val (.ref a2), .val (.ref a2)] [(.ref a2), (.ref b1)])) rfl rfl (hb hby d27_41)
    refine own_step (T' := T8) (f' := (mkF m 44 #[.val (.ref a1), .val (.ref a2), .val (.ref a2)] [(.ref b2), (.ref b1)])) (fun t k => st8 t k) ?_
    obtain ⟨_, _, ⟨T9, L9, k9, n9⟩, -, X9, ⟨Lc9, hQ9, l9, y9, z9⟩, st9⟩ := Jvm.LawKit.callS X8 hx (y := (⟨"java/lang/StringLatin1", "equals", "([B[B)Z"⟩ : MethodName)) hown (mvT hZ (hw _ (List.mem_of_getElem? (i := 176) rfl))) (mvT hZ (hw _ (List.mem_of_getElem? (i := 177) rfl))) (mvT hZ (hw _ (List.mem_of_getElem? (i := 178) rfl))) (mvT hZ (hw _ (List.mem_of_getElem? (i := 179) rfl))) (by decide) (backOf (W := 0) (rm28_0 l Z a0 hw [] b1 b2 h0 n0 Z0 k1 k2 O1.2.2.2 O2.2.2.2) hZ (hw _ (List.mem_of_getElem? (i := 179) rfl)) (hw _ (List.mem_of_getElem? (i := 178) rfl)) (by decide) (by decide)) (g := (mkF m 44 #[.val (.ref a1), .val (.ref a2), .val (.ref a2)] [(.ref b2), (.ref b1)])) rfl (by rw [hml]; rfl) (argsL := [(.ref b1), (.ref b2)]) (rest := []) (lenOf pd_27_0 rfl) rfl (by show 2 * 0 + _ ≤ _; exact Nat.le_of_eq rfl) (hb hby d27_44) (fun _ _ => ⟨rfl, e8, (by decide : 0 + 0 ≤ _), (by decide : 0 + 0 ≤ _)⟩)
    dsimp only [Pt.U, Pt.locs, Pt.cells, Pt.slots] at X9 l9 y9 z9 st9 hQ9
    subst l9 y9 z9
    obtain ⟨rfl, N9q, E9⟩ := hQ9
    have N9 := Fr.app N0 N9q
    refine own_step (T' := T9) (f' := (mkF m 47 #[.val (.ref a1), .val (.ref a2), .val (.ref a2)] [(.int (1 : Int32))])) (fun t k => st9 t k) ?_
    refine own_step (T' := T9) (f' := (mkF m 50 #[.val (.ref a1), .val (.ref a2), .val (.ref a2)] [])) (fun t k => XS.ifNo X9.here hx rfl (hb hby d27_47) rfl ((if0 _ _).trans (feq (by decide : ¬ ((1 : Int32) = (0 : Int32)))).1) k) ?_
    refine own_step (T' := T9) (f' := (mkF m 51 #[.val (.ref a1), .val (.ref a2), .val (.ref a2)] [(.int (1 : Int32))])) (fun t k => XS.iconst X9.here hx rfl (hb hby d27_50) k) ?_
    refine own_step (T' := T9) (f' := (mkF m 55 #[.val (.ref a1), .val (.ref a2), .val (.ref a2)] [(.int (1 : Int32))])) (fun t k => XS.goto X9.here hx rfl (pc0 := 51) (pc' := 55) rfl (hb hby d27_51) (by decide) (by decide) k) ?_
    exact own_retN X9 hx hlk (t := .boolean) Bd.returns (by simp) (hb hby d27_55) (by decide) (by decide) ⟨rfl, N9, E9⟩

theorem pn_0 : plainName "com/example/umriss/umriss/runtime/BooleanValueOfPinLaw" = true := by first | (simp [plainName, overriddenIn]; done) | decide +kernel
theorem pd_0_0 : parseMethodDescriptor "(Z)Lcom/example/umriss/umriss/runtime/BooleanValue;" = some ⟨[.boolean], some (.object "com/example/umriss/umriss/runtime/BooleanValue")⟩ := by decide +kernel
theorem pd_0_1 : parseMethodDescriptor "()Z" = some ⟨[], some .boolean⟩ := by decide +kernel
theorem pd_0_2 : parseMethodDescriptor "()Lcom/example/umriss/umriss/runtime/Value$Kind;" = some ⟨[], some (.object "com/example/umriss/umriss/runtime/Value$Kind")⟩ := by decide +kernel
theorem pd_0_3 : parseMethodDescriptor "(Lcom/example/umriss/umriss/runtime/Value;)I" = some ⟨[(.object "com/example/umriss/umriss/runtime/Value")], some .int⟩ := by decide +kernel
theorem pd_0_4 : parseMethodDescriptor "()Ljava/lang/String;" = some ⟨[], some (.object "java/lang/String")⟩ := by decide +kernel
theorem pd_0_5 : parseMethodDescriptor "(Ljava/lang/Object;)Z" = some ⟨[(.object "java/lang/Object")], some .boolean⟩ := by decide +kernel
theorem ef_rm0 (m : MethodId) (x0 : Int32) (x1 : Int32) : entryFrame m #[(.int x0), (.int x1)] maxLocals = mkF m 0 #[.val (.int x0), .val (.int x1), .unset, .unset, .unset, .unset, .unset, .unset, .unset, .unset] [] := by first | (simp [entryFrame, mkF, argsToLocals, Value.category, maxLocals]; done) | rfl
def Q0 (n0 : Nat) (v : Option Value) (h : Heap) (L : List Loc) : Prop := v = some (.int 1) ∧ Fr n0 L
set_option maxRecDepth 65536 in
set_option maxHeartbeats 40000000 in
theorem rm0 (l : Launch) (Z : State) (a0 : Array Value) (hw : ∀ d ∈ tables_1, d.before a0 Z = true) (ws : List Jvm.Cond) (p1 : Int32) (p2 : Int32) (h0 : Heap) (n0 : Nat) (Z0 : n0 ≤ h0.size) (aT aF : Addr) (S_T : Sta Z h0 "com/example/umriss/umriss/runtime/BooleanValue" "TRUE" "Lcom/example/umriss/umriss/runtime/BooleanValue;" (.ref aT)) (S_F : Sta Z h0 "com/example/umriss/umriss/runtime/BooleanValue" "FALSE" "Lcom/example/umriss/umriss/runtime/BooleanValue;" (.ref aF)) (aK : Addr) (S_K : Sta Z h0 "com/example/umriss/umriss/runtime/Value$Kind" "BOOLEAN" "Lcom/example/umriss/umriss/runtime/Value$Kind;" (.ref aK)) (cs : Int32) (S_CS : Sta Z h0 "java/lang/String" "COMPACT_STRINGS" "Z" (.int cs)) (hcs : ¬ cs = (0 : Int32)) (E_aT : Exa Z h0 aT "com/example/umriss/umriss/runtime/BooleanValue") (E_aF : Exa Z h0 aF "com/example/umriss/umriss/runtime/BooleanValue") (E_aK : Exa Z h0 aK "com/example/umriss/umriss/runtime/Value$Kind") (F_aT : Fld Z h0 aT "com/example/umriss/umriss/runtime/BooleanValue" "value" "Z" (.int (1 : Int32))) (F_aF : Fld Z h0 aF "com/example/umriss/umriss/runtime/BooleanValue" "value" "Z" (.int (0 : Int32))) (F_o : Fld Z h0 aK "java/lang/Enum" "ordinal" "I" (.int (1 : Int32))) (mr : Addr) (hM : ∃ (c : ClassId) (k : Class), Z.vm.findClass "com/example/umriss/umriss/runtime/Value$Kind" = some c ∧ Z.vm.classes[c]? = some k ∧ k.mirror = some mr) (hn0 : n0 = Z.heap.size) (hl35 : Jvm.Lit.constHeld Z "com/example/umriss/umriss/runtime/BooleanValueOfPinLaw" 35) (hl37 : Jvm.Lit.constHeld Z "com/example/umriss/umriss/runtime/BooleanValueOfPinLaw" 37) (hcw : Jvm.Lit.compactW.before a0 Z = true) :
    MetFree l x (head1 (Jvm.Cond.code x code maxLocals ret :: ws) room_1) (fun a U => a = #[(.int p1), (.int p2)] ∧ U = Z ∧ U.heap = h0) (fun _ _ _ _ _ => True) (fun _ U o U' => ∃ v L, o = .returned v ∧ Q0 n0 v U'.heap L ∧ ReturnedEndW U o U' L room_1.cells room_1.slots) := by
  refine MetFree.of_bodySF (plainFor_of_name pn_0) hisR ?_
  intro p e s m args below meth c s₁ Bd hml0 hP hK
  obtain ⟨rfl, hUZ, hh⟩ := hP
  have hZ : Z.Warmed39 s.vm := by rw [hUZ]; exact State.Warmed39.refl Z
  have hx := Bd.exec
  have hby := Bd.bytes
  have hlk : meth.locks = false := BodyLoose.notSynchronized Bd
  have hml : c.maxLocals = 10 := hml0
  have hown : s.vm.findClass "com/example/umriss/umriss/runtime/BooleanValueOfPinLaw" = some m.cls := findClass_of_methodNamed Bd.named
  have hnm := (name_of_methodNamed Bd.named Bd.method).1
  have X0 : Stand p l e room_1 s m #[(.int p1), (.int p2)] below meth c s₁ [] 0 0 := Stand.of_body Bd
  have e0 : s₁.heap = h0 := by rw [← hh, Bd.state]; rfl
  have N0 := Fr.nil n0
  have Zz := Z0
  have Kp : Keep h0 h0 [] := Keep.refl _ _
  show OwnEndsW p e below s (Q0 n0) room_1.cells room_1.slots s₁ (entryFrame m #[(.int p1), (.int p2)] maxLocals)
  refine ownW_step (T' := s₁) (f' := (mkF m 0 #[.val (.int p1), .val (.int p2), .unset, .unset, .unset, .unset, .unset, .unset, .unset, .unset] [])) (fun t k => castTop (ef_rm0 m p1 p2) k) ?_
  refine ownW_step (T' := s₁) (f' := (mkF m 1 #[.val (.int p1), .val (.int p2), .unset, .unset, .unset, .unset, .unset, .unset, .unset, .unset] [(.int p1)])) (fun t k => XS.iloadN X0.here hx rfl (hb hby at_0) rfl k) ?_
  refine ownW_step (T' := s₁) (f' := (mkF m 2 #[.val (.int p1), .val (.int p2), .unset, .unset, .unset, .unset, .unset, .unset, .unset, .unset] [(.int (1 : Int32)), (.int p1)])) (fun t k => XS.iconst X0.here hx rfl (hb hby at_1) k) ?_
  refine ownW_step (T' := s₁) (f' := (mkF m 3 #[.val (.int p1), .val (.int p2), .unset, .unset, .unset, .unset, .unset, .unset, .unset, .unset] [(.int (p1 &&& (1 : Int32)))])) (fun t k => XS.iand X0.here hx rfl (hb hby at_2) rfl k) ?_
  by_cases hc3_1 : (p1 &&& (1 : Int32)) = (0 : Int32)
  · skip
    refine ownW_step (T' := s₁) (f' := (mkF m 10 #[.val (.int p1), .val (.int p2), .unset, .unset, .unset, .unset, .unset, .unset, .unset, .unset] [])) (fun t k => XS.ifYes X0.here hx rfl (pc0 := 3) (pc' := 10) rfl (hb hby at_3) rfl ((if0 _ _).trans (teq hc3_1).1) (by decide) (by decide) k) ?_
    refine ownW_step (T' := s₁) (f' := (mkF m 11 #[.val (.int p1), .val (.int p2), .unset, .unset, .unset, .unset, .unset, .unset, .unset, .unset] [(.int (0 : Int32))])) (fun t k => XS.iconst X0.here hx rfl (hb hby at_10) k) ?_
    refine ownW_step (T' := s₁) (f' := (mkF m 12 #[.val (.int p1), .val (.int p2), .val (.int (0 : Int32)), .unset, .unset, .unset, .unset, .unset, .unset, .unset] [])) (fun t k => XS.istoreN X0.here hx rfl (hb hby at_11) rfl (l' := #[.val (.int p1), .val (.int p2), .val (.int (0 : Int32)), .unset, .unset, .unset, .unset, .unset, .unset, .unset]) rfl k) ?_
    refine ownW_step (T' := s₁) (f' := (mkF m 13 #[.val (.int p1), .val (.int p2), .val (.int (0 : Int32)), .unset, .unset, .unset, .unset, .unset, .unset, .unset] [(.int p2)])) (fun t k => XS.iloadN X0.here hx rfl (hb hby at_12) rfl k) ?_
    refine ownW_step (T' := s₁) (f' := (mkF m 14 #[.val (.int p1), .val (.int p2), .val (.int (0 : Int32)), .unset, .unset, .unset, .unset, .unset, .unset, .unset] [(.int (1 : Int32)), (.int p2)])) (fun t k => XS.iconst X0.here hx rfl (hb hby at_13) k) ?_
    refine ownW_step (T' := s₁) (f' := (mkF m 15 #[.val (.int p1), .val (.int p2), .val (.int (0 : Int32)), .unset, .unset, .unset, .unset, .unset, .unset, .unset] [(.int (p2 &&& (1 : Int32)))])) (fun t k => XS.iand X0.here hx rfl (hb hby at_14) rfl k) ?_
    by_cases hc15_2 : (p2 &&& (1 : Int32)) = (0 : Int32)
    · skip
      refine ownW_step (T' := s₁) (f' := (mkF m 22 #[.val (.int p1), .val (.int p2), .val (.int (0 : Int32)), .unset, .unset, .unset, .unset, .unset, .unset, .unset] [])) (fun t k => XS.ifYes X0.here hx rfl (pc0 := 15) (pc' := 22) rfl (hb hby at_15) rfl ((if0 _ _).trans (teq hc15_2).1) (by decide) (by decide) k) ?_
      refine ownW_step (T' := s₁) (f' := (mkF m 23 #[.val (.int p1), .val (.int p2), .val (.int (0 : Int32)), .unset, .unset, .unset, .unset, .unset, .unset, .unset] [(.int (0 : Int32))])) (fun t k => XS.iconst X0.here hx rfl (hb hby at_22) k) ?_
      refine ownW_step (T' := s₁) (f' := (mkF m 24 #[.val (.int p1), .val (.int p2), .val (.int (0 : Int32)), .val (.int (0 : Int32)), .unset, .unset, .unset, .unset, .unset, .unset] [])) (fun t k => XS.istoreN X0.here hx rfl (hb hby at_23) rfl (l' := #[.val (.int p1), .val (.int p2), .val (.int (0 : Int32)), .val (.int (0 : Int32)), .unset, .unset, .unset, .unset, .unset, .unset]) rfl k) ?_
      refine ownW_step (T' := s₁) (f' := (mkF m 25 #[.val (.int p1), .val (.int p2), .val (.int (0 : Int32)), .val (.int (0 : Int32)), .unset, .unset, .unset, .unset, .unset, .unset] [(.int (0 : Int32))])) (fun t k => XS.iloadN X0.here hx rfl (hb hby at_24) rfl k) ?_
      obtain ⟨_, _, ⟨T3, L3, k3, n3⟩, -, X3, ⟨Lc3, hQ3, l3, y3, z3⟩, st3⟩ := Jvm.LawKit.callS X0 hx (y := (⟨"com/example/umriss/umriss/runtime/BooleanValue", "of", "(Z)Lcom/example/umriss/umriss/runtime/BooleanValue;"⟩ : MethodName)) hown (mvT hZ (hw _ (List.mem_of_getElem? (i := 0) rfl))) (mvT hZ (hw _ (List.mem_of_getElem? (i := 1) rfl))) (mvT hZ (hw _ (List.mem_of_getElem? (i := 2) rfl))) (mvT hZ (hw _ (List.mem_of_getElem? (i := 3) rfl))) (by decide) (backOf (W := 0) (rm1_0 l Z a0 hw [] h0 n0 Zz aT aF S_T S_F) hZ (hw _ (List.mem_of_getElem? (i := 3) rfl)) (hw _ (List.mem_of_getElem? (i := 2) rfl)) (by decide) (by decide)) (g := (mkF m 25 #[.val (.int p1), .val (.int p2), .val (.int (0 : Int32)), .val (.int (0 : Int32)), .unset, .unset, .unset, .unset, .unset, .unset] [(.int (0 : Int32))])) rfl (by rw [hml]; rfl) (argsL := [(.int (0 : Int32))]) (rest := []) (lenOf pd_0_0 rfl) rfl (by show 2 * 0 + _ ≤ _; exact Nat.le_of_eq rfl) (hb hby at_25) (fun _ _ => ⟨rfl, e0, (by decide : 0 + 0 ≤ _), (by decide : 0 + 0 ≤ _)⟩)
      dsimp only [Pt.U, Pt.locs, Pt.cells, Pt.slots] at X3 l3 y3 z3 st3 hQ3
      subst l3 y3 z3
      obtain ⟨rfl, N3q, E3⟩ := hQ3
      have N3 := Fr.app N0 N3q
      refine ownW_step (T' := T3) (f' := (mkF m 28 #[.val (.int p1), .val (.int p2), .val (.int (0 : Int32)), .val (.int (0 : Int32)), .unset, .unset, .unset, .unset, .unset, .unset] [(.ref aF)])) (fun t k => st3 t k) ?_
      refine ownW_step (T' := T3) (f' := (mkF m 30 #[.val (.int p1), .val (.int p2), .val (.int (0 : Int32)), .val (.int (0 : Int32)), .val (.ref aF), .unset, .unset, .unset, .unset, .unset] [])) (fun t k => XS.astore X3.here hx rfl (hb hby at_28) rfl rfl (l' := #[.val (.int p1), .val (.int p2), .val (.int (0 : Int32)), .val (.int (0 : Int32)), .val (.ref aF), .unset, .unset, .unset, .unset, .unset]) rfl k) ?_
      refine ownW_step (T' := T3) (f' := (mkF m 31 #[.val (.int p1), .val (.int p2), .val (.int (0 : Int32)), .val (.int (0 : Int32)), .val (.ref aF), .unset, .unset, .unset, .unset, .unset] [(.int (0 : Int32))])) (fun t k => XS.iloadN X3.here hx rfl (hb hby at_30) rfl k) ?_
      obtain ⟨_, _, ⟨T4, L4, k4, n4⟩, -, X4, ⟨Lc4, hQ4, l4, y4, z4⟩, st4⟩ := Jvm.LawKit.callS X3 hx (y := (⟨"com/example/umriss/umriss/runtime/BooleanValue", "of", "(Z)Lcom/example/umriss/umriss/runtime/BooleanValue;"⟩ : MethodName)) hown (mvT hZ (hw _ (List.mem_of_getElem? (i := 0) rfl))) (mvT hZ (hw _ (List.mem_of_getElem? (i := 1) rfl))) (mvT hZ (hw _ (List.mem_of_getElem? (i := 2) rfl))) (mvT hZ (hw _ (List.mem_of_getElem? (i := 3) rfl))) (by decide) (backOf (W := 0) (rm1_0 l Z a0 hw [] h0 n0 Zz aT aF S_T S_F) hZ (hw _ (List.mem_of_getElem? (i := 3) rfl)) (hw _ (List.mem_of_getElem? (i := 2) rfl)) (by decide) (by decide)) (g := (mkF m 31 #[.val (.int p1), .val (.int p2), .val (.int (0 : Int32)), .val (.int (0 : Int32)), .val (.ref aF), .unset, .unset, .unset, .unset, .unset] [(.int (0 : Int32))])) rfl (by rw [hml]; rfl) (argsL := [(.int (0 : Int32))]) (rest := []) (lenOf pd_0_0 rfl) rfl (by show 2 * 0 + _ ≤ _; exact Nat.le_of_eq rfl) (hb hby at_31) (fun _ _ => ⟨rfl, E3, (by decide : 0 + 0 ≤ _), (by decide : 0 + 0 ≤ _)⟩)
      dsimp only [Pt.U, Pt.locs, Pt.cells, Pt.slots] at X4 l4 y4 z4 st4 hQ4
      subst l4 y4 z4
      obtain ⟨rfl, N4q, E4⟩ := hQ4
      have N4 := Fr.app N3 N4q
      refine ownW_step (T' := T4) (f' := (mkF m 34 #[.val (.int p1), .val (.int p2), .val (.int (0 : Int32)), .val (.int (0 : Int32)), .val (.ref aF), .unset, .unset, .unset, .unset, .unset] [(.ref aF)])) (fun t k => st4 t k) ?_
      refine ownW_step (T' := T4) (f' := (mkF m 36 #[.val (.int p1), .val (.int p2), .val (.int (0 : Int32)), .val (.int (0 : Int32)), .val (.ref aF), .val (.ref aF), .unset, .unset, .unset, .unset] [])) (fun t k => XS.astore X4.here hx rfl (hb hby at_34) rfl rfl (l' := #[.val (.int p1), .val (.int p2), .val (.int (0 : Int32)), .val (.int (0 : Int32)), .val (.ref aF), .val (.ref aF), .unset, .unset, .unset, .unset]) rfl k) ?_
      refine ownW_step (T' := T4) (f' := (mkF m 38 #[.val (.int p1), .val (.int p2), .val (.int (0 : Int32)), .val (.int (0 : Int32)), .val (.ref aF), .val (.ref aF), .unset, .unset, .unset, .unset] [(.ref aF)])) (fun t k => XS.aload X4.here hx rfl (hb hby at_36) rfl rfl k) ?_
      refine ownW_step (T' := T4) (f' := (mkF m 41 #[.val (.int p1), .val (.int p2), .val (.int (0 : Int32)), .val (.int (0 : Int32)), .val (.ref aF), .val (.ref aF), .unset, .unset, .unset, .unset] [])) (fun t k => XS.ifnullNo X4.here hx rfl (hb hby at_38) rfl k) ?_
      refine ownW_step (T' := T4) (f' := (mkF m 43 #[.val (.int p1), .val (.int p2), .val (.int (0 : Int32)), .val (.int (0 : Int32)), .val (.ref aF), .val (.ref aF), .unset, .unset, .unset, .unset] [(.ref aF)])) (fun t k => XS.aload X4.here hx rfl (hb hby at_41) rfl rfl k) ?_
      refine ownW_step (T' := T4) (f' := (mkF m 48 #[.val (.int p1), .val (.int p2), .val (.int (0 : Int32)), .val (.int (0 : Int32)), .val (.ref aF), .val (.ref aF), .unset, .unset, .unset, .unset] [])) (fun t k => XS.ifnonnullYes X4.here hx rfl (pc0 := 43) (pc' := 48) rfl (hb hby at_43) rfl (by decide) (by decide) k) ?_
      refine ownW_step (T' := T4) (f' := (mkF m 50 #[.val (.int p1), .val (.int p2), .val (.int (0 : Int32)), .val (.int (0 : Int32)), .val (.ref aF), .val (.ref aF), .unset, .unset, .unset, .unset] [(.ref aF)])) (fun t k => XS.aload X4.here hx rfl (hb hby at_48) rfl rfl k) ?_
      obtain ⟨cq5, kq5, q5a, q5b, q5c⟩ := isOf hZ E4 E_aF
      obtain ⟨_, _, ⟨T5, L5, k5, n5⟩, -, X5, ⟨Lc5, hQ5, l5, y5, z5⟩, st5⟩ := X4.virtualBack hx (y := (⟨"com/example/umriss/umriss/runtime/BooleanValue", "value", "()Z"⟩ : MethodName)) (z := (⟨"com/example/umriss/umriss/runtime/BooleanValue", "value", "()Z"⟩ : MethodName)) hown (mvT hZ (hw _ (List.mem_of_getElem? (i := 8) rfl))) (mvT hZ (hw _ (List.mem_of_getElem? (i := 9) rfl))) (notFace_of_selects (args := #[]) (mvT hZ (hw _ (List.mem_of_getElem? (i := 11) rfl)))) (mvT hZ (hw _ (List.mem_of_getElem? (i := 11) rfl))) (mvT hZ (hw _ (List.mem_of_getElem? (i := 10) rfl))) (by decide) (backOf (W := 0) (rm2_0 l Z a0 hw [] aF h0 n0 Zz F_aF) hZ (hw _ (List.mem_of_getElem? (i := 12) rfl)) (hw _ (List.mem_of_getElem? (i := 2) rfl)) (by decide) (by decide)) q5a q5c (g := (mkF m 50 #[.val (.int p1), .val (.int p2), .val (.int (0 : Int32)), .val (.int (0 : Int32)), .val (.ref aF), .val (.ref aF), .unset, .unset, .unset, .unset] [(.ref aF)])) rfl (by rw [hml]; rfl) (Steps.refl _) (argsL := []) (rest := []) (lenOf pd_0_1 rfl) rfl (by show 2 * 0 + _ ≤ _; exact Nat.le_of_eq rfl) (hb hby at_50) (fun _ _ => ⟨rfl, E4, (by decide : 0 + 0 ≤ _), (by decide : 0 + 0 ≤ _)⟩)
      dsimp only [Pt.U, Pt.locs, Pt.cells, Pt.slots] at X5 l5 y5 z5 st5 hQ5
      subst l5 y5 z5
      obtain ⟨rfl, N5q, E5⟩ := hQ5
      have N5 := Fr.app N4 N5q
      refine ownW_step (T' := T5) (f' := (mkF m 53 #[.val (.int p1), .val (.int p2), .val (.int (0 : Int32)), .val (.int (0 : Int32)), .val (.ref aF), .val (.ref aF), .unset, .unset, .unset, .unset] [(.int (0 : Int32))])) (fun t k => st5.trans k) ?_
      refine ownW_step (T' := T5) (f' := (mkF m 54 #[.val (.int p1), .val (.int p2), .val (.int (0 : Int32)), .val (.int (0 : Int32)), .val (.ref aF), .val (.ref aF), .unset, .unset, .unset, .unset] [(.int (0 : Int32)), (.int (0 : Int32))])) (fun t k => XS.iloadN X5.here hx rfl (hb hby at_53) rfl k) ?_
      refine ownW_step (T' := T5) (f' := (mkF m 57 #[.val (.int p1), .val (.int p2), .val (.int (0 : Int32)), .val (.int (0 : Int32)), .val (.ref aF), .val (.ref aF), .unset, .unset, .unset, .unset] [])) (fun t k => XS.icmpNo X5.here hx rfl (hb hby at_54) rfl (teq (by decide : (0 : Int32) = (0 : Int32))).2 k) ?_
      refine ownW_step (T' := T5) (f' := (mkF m 59 #[.val (.int p1), .val (.int p2), .val (.int (0 : Int32)), .val (.int (0 : Int32)), .val (.ref aF), .val (.ref aF), .unset, .unset, .unset, .unset] [(.ref aF)])) (fun t k => XS.aload X5.here hx rfl (hb hby at_57) rfl rfl k) ?_
      obtain ⟨cq6, kq6, q6a, q6b, q6c⟩ := isOf hZ E5 E_aF
      obtain ⟨_, _, ⟨T6, L6, k6, n6⟩, -, X6, ⟨Lc6, hQ6, l6, y6, z6⟩, st6⟩ := X5.virtualBack hx (y := (⟨"com/example/umriss/umriss/runtime/BooleanValue", "value", "()Z"⟩ : MethodName)) (z := (⟨"com/example/umriss/umriss/runtime/BooleanValue", "value", "()Z"⟩ : MethodName)) hown (mvT hZ (hw _ (List.mem_of_getElem? (i := 8) rfl))) (mvT hZ (hw _ (List.mem_of_getElem? (i := 9) rfl))) (notFace_of_selects (args := #[]) (mvT hZ (hw _ (List.mem_of_getElem? (i := 11) rfl)))) (mvT hZ (hw _ (List.mem_of_getElem? (i := 11) rfl))) (mvT hZ (hw _ (List.mem_of_getElem? (i := 10) rfl))) (by decide) (backOf (W := 0) (rm2_0 l Z a0 hw [] aF h0 n0 Zz F_aF) hZ (hw _ (List.mem_of_getElem? (i := 12) rfl)) (hw _ (List.mem_of_getElem? (i := 2) rfl)) (by decide) (by decide)) q6a q6c (g := (mkF m 59 #[.val (.int p1), .val (.int p2), .val (.int (0 : Int32)), .val (.int (0 : Int32)), .val (.ref aF), .val (.ref aF), .unset, .unset, .unset, .unset] [(.ref aF)])) rfl (by rw [hml]; rfl) (Steps.refl _) (argsL := []) (rest := []) (lenOf pd_0_1 rfl) rfl (by show 2 * 0 + _ ≤ _; exact Nat.le_of_eq rfl) (hb hby at_59) (fun _ _ => ⟨rfl, E5, (by decide : 0 + 0 ≤ _), (by decide : 0 + 0 ≤ _)⟩)
      dsimp only [Pt.U, Pt.locs, Pt.cells, Pt.slots] at X6 l6 y6 z6 st6 hQ6
      subst l6 y6 z6
      obtain ⟨rfl, N6q, E6⟩ := hQ6
      have N6 := Fr.app N5 N6q
      refine ownW_step (T' := T6) (f' := (mkF m 62 #[.val (.int p1), .val (.int p2), .val (.int (0 : Int32)), .val (.int (0 : Int32)), .val (.ref aF), .val (.ref aF), .unset, .unset, .unset, .unset] [(.int (0 : Int32))])) (fun t k => st6.trans k) ?_
      refine ownW_step (T' := T6) (f' := (mkF m 63 #[.val (.int p1), .val (.int p2), .val (.int (0 : Int32)), .val (.int (0 : Int32)), .val (.ref aF), .val (.ref aF), .unset, .unset, .unset, .unset] [(.int (0 : Int32)), (.int (0 : Int32))])) (fun t k => XS.iloadN X6.here hx rfl (hb hby at_62) rfl k) ?_
      refine ownW_step (T' := T6) (f' := (mkF m 66 #[.val (.int p1), .val (.int p2), .val (.int (0 : Int32)), .val (.int (0 : Int32)), .val (.ref aF), .val (.ref aF), .unset, .unset, .unset, .unset] [])) (fun t k => XS.icmpNo X6.here hx rfl (hb hby at_63) rfl (teq (by decide : (0 : Int32) = (0 : Int32))).2 k) ?_
      refine ownW_step (T' := T6) (f' := (mkF m 67 #[.val (.int p1), .val (.int p2), .val (.int (0 : Int32)), .val (.int (0 : Int32)), .val (.ref aF), .val (.ref aF), .unset, .unset, .unset, .unset] [(.int (1 : Int32))])) (fun t k => XS.iconst X6.here hx rfl (hb hby at_66) k) ?_
      refine ownW_step (T' := T6) (f' := (mkF m 71 #[.val (.int p1), .val (.int p2), .val (.int (0 : Int32)), .val (.int (0 : Int32)), .val (.ref aF), .val (.ref aF), .unset, .unset, .unset, .unset] [(.int (1 : Int32))])) (fun t k => XS.goto X6.here hx rfl (pc0 := 67) (pc' := 71) rfl (hb hby at_67) (by decide) (by decide) k) ?_
      refine ownW_step (T' := T6) (f' := (mkF m 73 #[.val (.int p1), .val (.int p2), .val (.int (0 : Int32)), .val (.int (0 : Int32)), .val (.ref aF), .val (.ref aF), .val (.int (1 : Int32)), .unset, .unset, .unset] [])) (fun t k => XS.istore X6.here hx rfl (hb hby at_71) rfl (l' := #[.val (.int p1), .val (.int p2), .val (.int (0 : Int32)), .val (.int (0 : Int32)), .val (.ref aF), .val (.ref aF), .val (.int (1 : Int32)), .unset, .unset, .unset]) rfl k) ?_
      refine ownW_step (T' := T6) (f' := (mkF m 75 #[.val (.int p1), .val (.int p2), .val (.int (0 : Int32)), .val (.int (0 : Int32)), .val (.ref aF), .val (.ref aF), .val (.int (1 : Int32)), .unset, .unset, .unset] [(.int (1 : Int32))])) (fun t k => XS.iload X6.here hx rfl (hb hby at_73) rfl k) ?_
      refine ownW_step (T' := T6) (f' := (mkF m 78 #[.val (.int p1), .val (.int p2), .val (.int (0 : Int32)), .val (.int (0 : Int32)), .val (.ref aF), .val (.ref aF), .val (.int (1 : Int32)), .unset, .unset, .unset] [])) (fun t k => XS.ifNo X6.here hx rfl (hb hby at_75) rfl ((if0 _ _).trans (feq (by decide : ¬ ((1 : Int32) = (0 : Int32)))).1) k) ?_
      refine ownW_step (T' := T6) (f' := (mkF m 80 #[.val (.int p1), .val (.int p2), .val (.int (0 : Int32)), .val (.int (0 : Int32)), .val (.ref aF), .val (.ref aF), .val (.int (1 : Int32)), .unset, .unset, .unset] [(.ref aF)])) (fun t k => XS.aload X6.here hx rfl (hb hby at_78) rfl rfl k) ?_
      obtain ⟨cq7, kq7, q7a, q7b, q7c⟩ := isOf hZ E6 E_aF
      obtain ⟨_, _, ⟨T7, L7, k7, n7⟩, -, X7, ⟨Lc7, hQ7, l7, y7, z7⟩, st7⟩ := X6.virtualBack hx (y := (⟨"com/example/umriss/umriss/runtime/BooleanValue", "kind", "()Lcom/example/umriss/umriss/runtime/Value$Kind;"⟩ : MethodName)) (z := (⟨"com/example/umriss/umriss/runtime/BooleanValue", "kind", "()Lcom/example/umriss/umriss/runtime/Value$Kind;"⟩ : MethodName)) hown (mvT hZ (hw _ (List.mem_of_getElem? (i := 15) rfl))) (mvT hZ (hw _ (List.mem_of_getElem? (i := 16) rfl))) (notFace_of_selects (args := #[]) (mvT hZ (hw _ (List.mem_of_getElem? (i := 18) rfl)))) (mvT hZ (hw _ (List.mem_of_getElem? (i := 18) rfl))) (mvT hZ (hw _ (List.mem_of_getElem? (i := 17) rfl))) (by decide) (backOf (W := 0) (rm3 l Z a0 hw [] aF h0 n0 Zz aK S_K) hZ (hw _ (List.mem_of_getElem? (i := 19) rfl)) (hw _ (List.mem_of_getElem? (i := 2) rfl)) (by decide) (by decide)) q7a q7c (g := (mkF m 80 #[.val (.int p1), .val (.int p2), .val (.int (0 : Int32)), .val (.int (0 : Int32)), .val (.ref aF), .val (.ref aF), .val (.int (1 : Int32)), .unset, .unset, .unset] [(.ref aF)])) rfl (by rw [hml]; rfl) (Steps.refl _) (argsL := []) (rest := []) (lenOf pd_0_2 rfl) rfl (by show 2 * 0 + _ ≤ _; exact Nat.le_of_eq rfl) (hb hby at_80) (fun _ _ => ⟨rfl, E6, (by decide : 0 + 0 ≤ _), (by decide : 0 + 0 ≤ _)⟩)
      dsimp only [Pt.U, Pt.locs, Pt.cells, Pt.slots] at X7 l7 y7 z7 st7 hQ7
      subst l7 y7 z7
      obtain ⟨rfl, N7q, E7⟩ := hQ7
      have N7 := Fr.app N6 N7q
      refine ownW_step (T' := T7) (f' := (mkF m 83 #[.val (.int p1), .val (.int p2), .val (.int (0 : Int32)), .val (.int (0 : Int32)), .val (.ref aF), .val (.ref aF), .val (.int (1 : Int32)), .unset, .unset, .unset] [(.ref aK)])) (fun t k => st7.trans k) ?_
      obtain ⟨T8, X8, e8, st8⟩ := getS2 X7 hx hZ hown (host := "") (Or.inl (hw _ (List.mem_of_getElem? (i := 23) rfl))) Via.refl E7 S_K (g := (mkF m 83 #[.val (.int p1), .val (.int p2), .val (.int (0 : Int32)), .val (.int (0 : Int32)), .val (.ref aF), .val (.ref aF), .val (.int (1 : Int32)), .unset, .unset, .unset] [(.ref aK)])) rfl (hb hby at_83)
      refine ownW_step (T' := T8) (f' := (mkF m 86 #[.val (.int p1), .val (.int p2), .val (.int (0 : Int32)), .val (.int (0 : Int32)), .val (.ref aF), .val (.ref aF), .val (.int (1 : Int32)), .unset, .unset, .unset] [(.ref aK), (.ref aK)])) (fun t k => st8 t k) ?_
      refine ownW_step (T' := T8) (f' := (mkF m 89 #[.val (.int p1), .val (.int p2), .val (.int (0 : Int32)), .val (.int (0 : Int32)), .val (.ref aF), .val (.ref aF), .val (.int (1 : Int32)), .unset, .unset, .unset] [])) (fun t k => Jvm.RoadKit.acmp (g := (mkF m 86 #[.val (.int p1), .val (.int p2), .val (.int (0 : Int32)), .val (.int (0 : Int32)), .val (.ref aF), .val (.ref aF), .val (.int (1 : Int32)), .unset, .unset, .unset] [(.ref aK), (.ref aK)])) X8 hx rfl rfl rfl (pc0 := 86) (pc' := 89) (same := true) rfl (hb hby at_86) rfl (decide_eq_true rfl) (by decide) (by decide) k) ?_
      refine ownW_step (T' := T8) (f' := (mkF m 90 #[.val (.int p1), .val (.int p2), .val (.int (0 : Int32)), .val (.int (0 : Int32)), .val (.ref aF), .val (.ref aF), .val (.int (1 : Int32)), .unset, .unset, .unset] [(.int (1 : Int32))])) (fun t k => XS.iconst X8.here hx rfl (hb hby at_89) k) ?_
      refine ownW_step (T' := T8) (f' := (mkF m 94 #[.val (.int p1), .val (.int p2), .val (.int (0 : Int32)), .val (.int (0 : Int32)), .val (.ref aF), .val (.ref aF), .val (.int (1 : Int32)), .unset, .unset, .unset] [(.int (1 : Int32))])) (fun t k => XS.goto X8.here hx rfl (pc0 := 90) (pc' := 94) rfl (hb hby at_90) (by decide) (by decide) k) ?_
      refine ownW_step (T' := T8) (f' := (mkF m 96 #[.val (.int p1), .val (.int p2), .val (.int (0 : Int32)), .val (.int (0 : Int32)), .val (.ref aF), .val (.ref aF), .val (.int (1 : Int32)), .unset, .unset, .unset] [])) (fun t k => XS.istore X8.here hx rfl (hb hby at_94) rfl (l' := #[.val (.int p1), .val (.int p2), .val (.int (0 : Int32)), .val (.int (0 : Int32)), .val (.ref aF), .val (.ref aF), .val (.int (1 : Int32)), .unset, .unset, .unset]) rfl k) ?_
      refine ownW_step (T' := T8) (f' := (mkF m 98 #[.val (.int p1), .val (.int p2), .val (.int (0 : Int32)), .val (.int (0 : Int32)), .val (.ref aF), .val (.ref aF), .val (.int (1 : Int32)), .unset, .unset, .unset] [(.ref aF)])) (fun t k => XS.aload X8.here hx rfl (hb hby at_96) rfl rfl k) ?_
      refine ownW_step (T' := T8) (f' := (mkF m 100 #[.val (.int p1), .val (.int p2), .val (.int (0 : Int32)), .val (.int (0 : Int32)), .val (.ref aF), .val (.ref aF), .val (.int (1 : Int32)), .unset, .unset, .unset] [(.ref aF), (.ref aF)])) (fun t k => XS.aload X8.here hx rfl (hb hby at_98) rfl rfl k) ?_
      obtain ⟨cq9, kq9, q9a, q9b, q9c⟩ := isOf hZ e8 E_aF
      obtain ⟨_, _, ⟨T9, L9, k9, n9⟩, -, X9, ⟨Lc9, hQ9, l9, y9, z9⟩, st9⟩ := X8.virtualBackUp hx (x := (⟨"com/example/umriss/umriss/runtime/BooleanValue", "compareTo", "(Lcom/example/umriss/umriss/runtime/Value;)I"⟩ : MethodName)) (y := (⟨"com/example/umriss/umriss/runtime/Value", "compareTo", "(Lcom/example/umriss/umriss/runtime/Value;)I"⟩ : MethodName)) (owner := "com/example/umriss/umriss/runtime/Value") hown (mvT hZ (hw _ (List.mem_of_getElem? (i := 24) rfl))) (mvT hZ (hw _ (List.mem_of_getElem? (i := 25) rfl))) (mvT hZ (hw _ (List.mem_of_getElem? (i := 26) rfl))) (by decide) (mvT hZ (hw _ (List.mem_of_getElem? (i := 28) rfl))) (mvT hZ (hw _ (List.mem_of_getElem? (i := 27) rfl))) (backOf (W := 0) (rm4 l Z a0 hw [] aF aF h0 n0 Zz (0 : Int32) (0 : Int32) F_aF E_aF F_aF E_aF aK S_K E_aK F_o mr hM) hZ (hw _ (List.mem_of_getElem? (i := 30) rfl)) (hw _ (List.mem_of_getElem? (i := 29) rfl)) (by decide) (by decide)) q9a q9c (g := (mkF m 100 #[.val (.int p1), .val (.int p2), .val (.int (0 : Int32)), .val (.int (0 : Int32)), .val (.ref aF), .val (.ref aF), .val (.int (1 : Int32)), .unset, .unset, .unset] [(.ref aF), (.ref aF)])) rfl (by rw [hml]; rfl) (Steps.refl _) (argsL := [(.ref aF)]) (rest := []) (lenOf pd_0_3 rfl) rfl (by show 2 * 0 + _ ≤ _; exact Nat.le_of_eq rfl) (hb hby at_100) (fun _ _ => ⟨rfl, e8, (by decide : 0 + 0 ≤ _), (by decide : 0 + 0 ≤ _)⟩)
      dsimp only [Pt.U, Pt.locs, Pt.cells, Pt.slots] at X9 l9 y9 z9 st9 hQ9
      subst l9 y9 z9
      obtain ⟨rfl, N9q, E9⟩ := hQ9
      have N9 := Fr.app N7 N9q
      refine ownW_step (T' := T9) (f' := (mkF m 103 #[.val (.int p1), .val (.int p2), .val (.int (0 : Int32)), .val (.int (0 : Int32)), .val (.ref aF), .val (.ref aF), .val (.int (1 : Int32)), .unset, .unset, .unset] [(.int (own_bcmp (0 : Int32) (0 : Int32)))])) (fun t k => st9.trans k) ?_
      refine ownW_step (T' := T9) (f' := (mkF m 105 #[.val (.int p1), .val (.int p2), .val (.int (0 : Int32)), .val (.int (0 : Int32)), .val (.ref aF), .val (.ref aF), .val (.int (1 : Int32)), .val (.int (own_bcmp (0 : Int32) (0 : Int32))), .unset, .unset] [])) (fun t k => XS.istore X9.here hx rfl (hb hby at_103) rfl (l' := #[.val (.int p1), .val (.int p2), .val (.int (0 : Int32)), .val (.int (0 : Int32)), .val (.ref aF), .val (.ref aF), .val (.int (1 : Int32)), .val (.int (own_bcmp (0 : Int32) (0 : Int32))), .unset, .unset]) rfl k) ?_
      refine ownW_step (T' := T9) (f' := (mkF m 106 #[.val (.int p1), .val (.int p2), .val (.int (0 : Int32)), .val (.int (0 : Int32)), .val (.ref aF), .val (.ref aF), .val (.int (1 : Int32)), .val (.int (own_bcmp (0 : Int32) (0 : Int32))), .unset, .unset] [(.int (0 : Int32))])) (fun t k => XS.iloadN X9.here hx rfl (hb hby at_105) rfl k) ?_
      refine ownW_step (T' := T9) (f' := (mkF m 107 #[.val (.int p1), .val (.int p2), .val (.int (0 : Int32)), .val (.int (0 : Int32)), .val (.ref aF), .val (.ref aF), .val (.int (1 : Int32)), .val (.int (own_bcmp (0 : Int32) (0 : Int32))), .unset, .unset] [(.int (0 : Int32)), (.int (0 : Int32))])) (fun t k => XS.iloadN X9.here hx rfl (hb hby at_106) rfl k) ?_
      refine ownW_step (T' := T9) (f' := (mkF m 110 #[.val (.int p1), .val (.int p2), .val (.int (0 : Int32)), .val (.int (0 : Int32)), .val (.ref aF), .val (.ref aF), .val (.int (1 : Int32)), .val (.int (own_bcmp (0 : Int32) (0 : Int32))), .unset, .unset] [])) (fun t k => XS.icmpNo X9.here hx rfl (hb hby at_107) rfl (teq (by decide : (0 : Int32) = (0 : Int32))).2 k) ?_
      refine ownW_step (T' := T9) (f' := (mkF m 112 #[.val (.int p1), .val (.int p2), .val (.int (0 : Int32)), .val (.int (0 : Int32)), .val (.ref aF), .val (.ref aF), .val (.int (1 : Int32)), .val (.int (own_bcmp (0 : Int32) (0 : Int32))), .unset, .unset] [(.int (own_bcmp (0 : Int32) (0 : Int32)))])) (fun t k => XS.iload X9.here hx rfl (hb hby at_110) rfl k) ?_
      refine ownW_step (T' := T9) (f' := (mkF m 115 #[.val (.int p1), .val (.int p2), .val (.int (0 : Int32)), .val (.int (0 : Int32)), .val (.ref aF), .val (.ref aF), .val (.int (1 : Int32)), .val (.int (own_bcmp (0 : Int32) (0 : Int32))), .unset, .unset] [])) (fun t k => XS.ifNo X9.here hx rfl (hb hby at_112) rfl ((if0 _ _).trans (teq (by decide : (own_bcmp (0 : Int32) (0 : Int32)) = (0 : Int32))).2) k) ?_
      refine ownW_step (T' := T9) (f' := (mkF m 116 #[.val (.int p1), .val (.int p2), .val (.int (0 : Int32)), .val (.int (0 : Int32)), .val (.ref aF), .val (.ref aF), .val (.int (1 : Int32)), .val (.int (own_bcmp (0 : Int32) (0 : Int32))), .unset, .unset] [(.int (1 : Int32))])) (fun t k => XS.iconst X9.here hx rfl (hb hby at_115) k) ?_
      refine ownW_step (T' := T9) (f' := (mkF m 120 #[.val (.int p1), .val (.int p2), .val (.int (0 : Int32)), .val (.int (0 : Int32)), .val (.ref aF), .val (.ref aF), .val (.int (1 : Int32)), .val (.int (own_bcmp (0 : Int32) (0 : Int32))), .unset, .unset] [(.int (1 : Int32))])) (fun t k => XS.goto X9.here hx rfl (pc0 := 116) (pc' := 120) rfl (hb hby at_116) (by decide) (by decide) k) ?_
      refine ownW_step (T' := T9) (f' := (mkF m 122 #[.val (.int p1), .val (.int p2), .val (.int (0 : Int32)), .val (.int (0 : Int32)), .val (.ref aF), .val (.ref aF), .val (.int (1 : Int32)), .val (.int (own_bcmp (0 : Int32) (0 : Int32))), .val (.int (1 : Int32)), .unset] [])) (fun t k => XS.istore X9.here hx rfl (hb hby at_120) rfl (l' := #[.val (.int p1), .val (.int p2), .val (.int (0 : Int32)), .val (.int (0 : Int32)), .val (.ref aF), .val (.ref aF), .val (.int (1 : Int32)), .val (.int (own_bcmp (0 : Int32) (0 : Int32))), .val (.int (1 : Int32)), .unset]) rfl k) ?_
      refine ownW_step (T' := T9) (f' := (mkF m 156 #[.val (.int p1), .val (.int p2), .val (.int (0 : Int32)), .val (.int (0 : Int32)), .val (.ref aF), .val (.ref aF), .val (.int (1 : Int32)), .val (.int (own_bcmp (0 : Int32) (0 : Int32))), .val (.int (1 : Int32)), .unset] [])) (fun t k => XS.goto X9.here hx rfl (pc0 := 122) (pc' := 156) rfl (hb hby at_122) (by decide) (by decide) k) ?_
      refine ownW_step (T' := T9) (f' := (mkF m 158 #[.val (.int p1), .val (.int p2), .val (.int (0 : Int32)), .val (.int (0 : Int32)), .val (.ref aF), .val (.ref aF), .val (.int (1 : Int32)), .val (.int (own_bcmp (0 : Int32) (0 : Int32))), .val (.int (1 : Int32)), .unset] [(.int (1 : Int32))])) (fun t k => XS.iload X9.here hx rfl (hb hby at_156) rfl k) ?_
      refine ownW_step (T' := T9) (f' := (mkF m 161 #[.val (.int p1), .val (.int p2), .val (.int (0 : Int32)), .val (.int (0 : Int32)), .val (.ref aF), .val (.ref aF), .val (.int (1 : Int32)), .val (.int (own_bcmp (0 : Int32) (0 : Int32))), .val (.int (1 : Int32)), .unset] [])) (fun t k => XS.ifNo X9.here hx rfl (hb hby at_158) rfl ((if0 _ _).trans (feq (by decide : ¬ ((1 : Int32) = (0 : Int32)))).1) k) ?_
      refine ownW_step (T' := T9) (f' := (mkF m 163 #[.val (.int p1), .val (.int p2), .val (.int (0 : Int32)), .val (.int (0 : Int32)), .val (.ref aF), .val (.ref aF), .val (.int (1 : Int32)), .val (.int (own_bcmp (0 : Int32) (0 : Int32))), .val (.int (1 : Int32)), .unset] [(.int (1 : Int32))])) (fun t k => XS.iload X9.here hx rfl (hb hby at_161) rfl k) ?_
      refine ownW_step (T' := T9) (f' := (mkF m 166 #[.val (.int p1), .val (.int p2), .val (.int (0 : Int32)), .val (.int (0 : Int32)), .val (.ref aF), .val (.ref aF), .val (.int (1 : Int32)), .val (.int (own_bcmp (0 : Int32) (0 : Int32))), .val (.int (1 : Int32)), .unset] [])) (fun t k => XS.ifNo X9.here hx rfl (hb hby at_163) rfl ((if0 _ _).trans (feq (by decide : ¬ ((1 : Int32) = (0 : Int32)))).1) k) ?_
      refine ownW_step (T' := T9) (f' := (mkF m 167 #[.val (.int p1), .val (.int p2), .val (.int (0 : Int32)), .val (.int (0 : Int32)), .val (.ref aF), .val (.ref aF), .val (.int (1 : Int32)), .val (.int (own_bcmp (0 : Int32) (0 : Int32))), .val (.int (1 : Int32)), .unset] [(.int (1 : Int32))])) (fun t k => XS.iconst X9.here hx rfl (hb hby at_166) k) ?_
      refine ownW_step (T' := T9) (f' := (mkF m 171 #[.val (.int p1), .val (.int p2), .val (.int (0 : Int32)), .val (.int (0 : Int32)), .val (.ref aF), .val (.ref aF), .val (.int (1 : Int32)), .val (.int (own_bcmp (0 : Int32) (0 : Int32))), .val (.int (1 : Int32)), .unset] [(.int (1 : Int32))])) (fun t k => XS.goto X9.here hx rfl (pc0 := 167) (pc' := 171) rfl (hb hby at_167) (by decide) (by decide) k) ?_
      refine ownW_step (T' := T9) (f' := (mkF m 173 #[.val (.int p1), .val (.int p2), .val (.int (0 : Int32)), .val (.int (0 : Int32)), .val (.ref aF), .val (.ref aF), .val (.int (1 : Int32)), .val (.int (own_bcmp (0 : Int32) (0 : Int32))), .val (.int (1 : Int32)), .unset] [])) (fun t k => XS.istore X9.here hx rfl (hb hby at_171) rfl (l' := #[.val (.int p1), .val (.int p2), .val (.int (0 : Int32)), .val (.int (0 : Int32)), .val (.ref aF), .val (.ref aF), .val (.int (1 : Int32)), .val (.int (own_bcmp (0 : Int32) (0 : Int32))), .val (.int (1 : Int32)), .unset]) rfl k) ?_
      refine ownW_step (T' := T9) (f' := (mkF m 175 #[.val (.int p1), .val (.int p2), .val (.int (0 : Int32)), .val (.int (0 : Int32)), .val (.ref aF), .val (.ref aF), .val (.int (1 : Int32)), .val (.int (own_bcmp (0 : Int32) (0 : Int32))), .val (.int (1 : Int32)), .unset] [(.ref aF)])) (fun t k => XS.aload X9.here hx rfl (hb hby at_173) rfl rfl k) ?_
      obtain ⟨cq10, kq10, q10a, q10b, q10c⟩ := isOf hZ E9 E_aF
      obtain ⟨_, _, ⟨T10, L10, k10, n10⟩, -, X10, ⟨Lc10, hQ10, l10, y10, z10⟩, st10⟩ := X9.virtualBackUp hx (x := (⟨"com/example/umriss/umriss/runtime/BooleanValue", "toString", "()Ljava/lang/String;"⟩ : MethodName)) (y := (⟨"com/example/umriss/umriss/runtime/Value", "toString", "()Ljava/lang/String;"⟩ : MethodName)) (owner := "com/example/umriss/umriss/runtime/Value") hown (mvT hZ (hw _ (List.mem_of_getElem? (i := 60) rfl))) (mvT hZ (hw _ (List.mem_of_getElem? (i := 61) rfl))) (mvT hZ (hw _ (List.mem_of_getElem? (i := 62) rfl))) (by decide) (mvT hZ (hw _ (List.mem_of_getElem? (i := 64) rfl))) (mvT hZ (hw _ (List.mem_of_getElem? (i := 63) rfl))) (backOf (W := 0) (rm8_0 l Z a0 hw [] aF h0 n0 Zz F_aF E_aF cs S_CS hcs) hZ (hw _ (List.mem_of_getElem? (i := 65) rfl)) (hw _ (List.mem_of_getElem? (i := 29) rfl)) (by decide) (by decide)) q10a q10c (g := (mkF m 175 #[.val (.int p1), .val (.int p2), .val (.int (0 : Int32)), .val (.int (0 : Int32)), .val (.ref aF), .val (.ref aF), .val (.int (1 : Int32)), .val (.int (own_bcmp (0 : Int32) (0 : Int32))), .val (.int (1 : Int32)), .unset] [(.ref aF)])) rfl (by rw [hml]; rfl) (Steps.refl _) (argsL := []) (rest := []) (lenOf pd_0_4 rfl) rfl (by show 2 * 0 + _ ≤ _; exact Nat.le_of_eq rfl) (hb hby at_175) (fun _ _ => ⟨rfl, E9, (by decide : 0 + 4 ≤ _), (by decide : 0 + 29 ≤ _)⟩)
      dsimp only [Pt.U, Pt.locs, Pt.cells, Pt.slots] at X10 l10 y10 z10 st10 hQ10
      subst l10 y10 z10
      obtain ⟨rr10, rb10, rk10, rfl, N10q, K10, Er10, Fc10, Fv10, Vr10⟩ := hQ10
      have N10 := Fr.app N9 N10q
      replace S_T := own_sta_keep S_T K10 all0
      replace S_F := own_sta_keep S_F K10 all0
      replace S_K := own_sta_keep S_K K10 all0
      replace S_CS := own_sta_keep S_CS K10 all0
      replace E_aT := E_aT.keep K10
      replace E_aF := E_aF.keep K10
      replace E_aK := E_aK.keep K10
      replace F_aT := F_aT.keep K10 nin0
      replace F_aF := F_aF.keep K10 nin0
      replace F_o := F_o.keep K10 nin0
      replace Zz := Nat.le_trans Zz K10.1
      replace Kp := Kp.trans K10 all0
      refine ownW_step (T' := T10) (f' := (mkF m 178 #[.val (.int p1), .val (.int p2), .val (.int (0 : Int32)), .val (.int (0 : Int32)), .val (.ref aF), .val (.ref aF), .val (.int (1 : Int32)), .val (.int (own_bcmp (0 : Int32) (0 : Int32))), .val (.int (1 : Int32)), .unset] [(.ref rr10)])) (fun t k => st10.trans k) ?_
      refine ownW_step (T' := T10) (f' := (mkF m 180 #[.val (.int p1), .val (.int p2), .val (.int (0 : Int32)), .val (.int (0 : Int32)), .val (.ref aF), .val (.ref aF), .val (.int (1 : Int32)), .val (.int (own_bcmp (0 : Int32) (0 : Int32))), .val (.int (1 : Int32)), .val (.ref rr10)] [])) (fun t k => XS.astore X10.here hx rfl (hb hby at_178) rfl rfl (l' := #[.val (.int p1), .val (.int p2), .val (.int (0 : Int32)), .val (.int (0 : Int32)), .val (.ref aF), .val (.ref aF), .val (.int (1 : Int32)), .val (.int (own_bcmp (0 : Int32) (0 : Int32))), .val (.int (1 : Int32)), .val (.ref rr10)]) rfl k) ?_
      refine ownW_step (T' := T10) (f' := (mkF m 182 #[.val (.int p1), .val (.int p2), .val (.int (0 : Int32)), .val (.int (0 : Int32)), .val (.ref aF), .val (.ref aF), .val (.int (1 : Int32)), .val (.int (own_bcmp (0 : Int32) (0 : Int32))), .val (.int (1 : Int32)), .val (.ref rr10)] [(.int (1 : Int32))])) (fun t k => XS.iload X10.here hx rfl (hb hby at_180) rfl k) ?_
      refine ownW_step (T' := T10) (f' := (mkF m 185 #[.val (.int p1), .val (.int p2), .val (.int (0 : Int32)), .val (.int (0 : Int32)), .val (.ref aF), .val (.ref aF), .val (.int (1 : Int32)), .val (.int (own_bcmp (0 : Int32) (0 : Int32))), .val (.int (1 : Int32)), .val (.ref rr10)] [])) (fun t k => XS.ifNo X10.here hx rfl (hb hby at_182) rfl ((if0 _ _).trans (feq (by decide : ¬ ((1 : Int32) = (0 : Int32)))).1) k) ?_
      refine ownW_step (T' := T10) (f' := (mkF m 187 #[.val (.int p1), .val (.int p2), .val (.int (0 : Int32)), .val (.int (0 : Int32)), .val (.ref aF), .val (.ref aF), .val (.int (1 : Int32)), .val (.int (own_bcmp (0 : Int32) (0 : Int32))), .val (.int (1 : Int32)), .val (.ref rr10)] [(.ref rr10)])) (fun t k => XS.aload X10.here hx rfl (hb hby at_185) rfl rfl k) ?_
      refine ownW_step (T' := T10) (f' := (mkF m 188 #[.val (.int p1), .val (.int p2), .val (.int (0 : Int32)), .val (.int (0 : Int32)), .val (.ref aF), .val (.ref aF), .val (.int (1 : Int32)), .val (.int (own_bcmp (0 : Int32) (0 : Int32))), .val (.int (1 : Int32)), .val (.ref rr10)] [(.int (0 : Int32)), (.ref rr10)])) (fun t k => XS.iloadN X10.here hx rfl (hb hby at_187) rfl k) ?_
      refine ownW_step (T' := T10) (f' := (mkF m 196 #[.val (.int p1), .val (.int p2), .val (.int (0 : Int32)), .val (.int (0 : Int32)), .val (.ref aF), .val (.ref aF), .val (.int (1 : Int32)), .val (.int (own_bcmp (0 : Int32) (0 : Int32))), .val (.int (1 : Int32)), .val (.ref rr10)] [(.ref rr10)])) (fun t k => XS.ifYes X10.here hx rfl (pc0 := 188) (pc' := 196) rfl (hb hby at_188) rfl ((if0 _ _).trans (teq (by decide : (0 : Int32) = (0 : Int32))).1) (by decide) (by decide) k) ?_
      obtain ⟨la11, T11, h11, k111, lb11, lk11, X11, e11, E11, hS11, hk11, hZ2, hown2, LE11, LC11, LV11, LA11, -, -, IB11, st11⟩ := ldcSV (s := s) (vm0 := s.vm) (Z := Z) (a0 := a0) X10 hx hZ hown (hw _ (List.mem_of_getElem? (i := 166) rfl)) (fun d hd => by simp only [Bundle.stringAtoms, Bundle.sN, List.mem_cons, List.not_mem_nil, or_false] at hd; rcases hd with rfl | rfl | rfl | rfl | rfl | rfl | rfl <;> first | exact (hw _ (List.mem_of_getElem? (i := 82) rfl)) | exact (hw _ (List.mem_of_getElem? (i := 121) rfl)) | exact (hw _ (List.mem_of_getElem? (i := 83) rfl)) | exact (hw _ (List.mem_of_getElem? (i := 165) rfl)) | exact (hw _ (List.mem_of_getElem? (i := 145) rfl)) | exact (hw _ (List.mem_of_getElem? (i := 167) rfl)) | exact (hw _ (List.mem_of_getElem? (i := 168) rfl))) rfl ((State.WarmedH.refl s).since T10.heap.size) (Nat.le_refl _) (by rw [hUZ, ← hn0]; exact N10) (fun _ _ q => by rw [hUZ]; exact q) (by rw [hUZ]; exact IB.start) (by simp) hl37 hcw (vs := [(.int (102 : Int32)), (.int (97 : Int32)), (.int (108 : Int32)), (.int (115 : Int32)), (.int (101 : Int32))]) (z := (5 : Int32)) ⟨by decide, rfl⟩ (by decide) rfl (g := (mkF m 196 #[.val (.int p1), .val (.int p2), .val (.int (0 : Int32)), .val (.int (0 : Int32)), .val (.ref aF), .val (.ref aF), .val (.int (1 : Int32)), .val (.int (own_bcmp (0 : Int32) (0 : Int32))), .val (.int (1 : Int32)), .val (.ref rr10)] [(.ref rr10)])) rfl (hb hby at_196) (n := 20) (by decide) (by decide) (by decide) (by decide)
      replace S_T := S_T.ext E11
      replace S_F := S_F.ext E11
      replace S_K := S_K.ext E11
      replace S_CS := S_CS.ext E11
      replace E_aT := E_aT.ext E11
      replace E_aF := E_aF.ext E11
      replace E_aK := E_aK.ext E11
      replace F_aT := F_aT.ext E11
      replace F_aF := F_aF.ext E11
      replace F_o := F_o.ext E11
      replace Er10 := Er10.ext E11
      replace Fc10 := Fc10.ext E11
      replace Fv10 := Fv10.ext E11
      replace Vr10 := Vr10.ext E11
      replace Zz := Nat.le_trans Zz E11.1
      replace Kp := Kp.ext E11
      refine ownW_step (T' := T11) (f' := (mkF m 198 #[.val (.int p1), .val (.int p2), .val (.int (0 : Int32)), .val (.int (0 : Int32)), .val (.ref aF), .val (.ref aF), .val (.int (1 : Int32)), .val (.int (own_bcmp (0 : Int32) (0 : Int32))), .val (.int (1 : Int32)), .val (.ref rr10)] [(.ref la11), (.ref rr10)])) (fun t k => st11 t k) ?_
      obtain ⟨cq12, kq12, q12a, q12b, q12c⟩ := isOf hZ2 e11 Er10
      obtain ⟨_, _, ⟨T12, L12, k12, n12⟩, -, X12, ⟨Lc12, hQ12, l12, y12, z12⟩, st12⟩ := X11.virtualBack hx (y := (⟨"java/lang/String", "equals", "(Ljava/lang/Object;)Z"⟩ : MethodName)) (z := (⟨"java/lang/String", "equals", "(Ljava/lang/Object;)Z"⟩ : MethodName)) hown2 (mvT hZ2 (hw _ (List.mem_of_getElem? (i := 169) rfl))) (mvT hZ2 (hw _ (List.mem_of_getElem? (i := 170) rfl))) (notFace_of_selects (args := #[]) (mvT hZ2 (hw _ (List.mem_of_getElem? (i := 172) rfl)))) (mvT hZ2 (hw _ (List.mem_of_getElem? (i := 172) rfl))) (mvT hZ2 (hw _ (List.mem_of_getElem? (i := 171) rfl))) (by decide) (backOf (W := 0) (rm27_0 l Z a0 hw [] rr10 la11 h11 n0 Zz rb10 lb11 rk10 lk11 ⟨Er10, Fc10, Fv10, Vr10⟩ ⟨LE11, LC11, LV11, LA11⟩ cs S_CS hcs) hZ2 (hw _ (List.mem_of_getElem? (i := 173) rfl)) (hw _ (List.mem_of_getElem? (i := 82) rfl)) (by decide) (by decide)) q12a q12c (g := (mkF m 198 #[.val (.int p1), .val (.int p2), .val (.int (0 : Int32)), .val (.int (0 : Int32)), .val (.ref aF), .val (.ref aF), .val (.int (1 : Int32)), .val (.int (own_bcmp (0 : Int32) (0 : Int32))), .val (.int (1 : Int32)), .val (.ref rr10)] [(.ref la11), (.ref rr10)])) rfl (by rw [hml]; rfl) (Steps.refl _) (argsL := [(.ref la11)]) (rest := []) (lenOf pd_0_5 rfl) rfl (by show 2 * 0 + _ ≤ _; exact Nat.le_of_eq rfl) (hb hby at_198) (fun _ _ => ⟨rfl, e11, (by decide : 6 + 0 ≤ _), (by decide : 53 + 0 ≤ _)⟩)
      dsimp only [Pt.U, Pt.locs, Pt.cells, Pt.slots] at X12 l12 y12 z12 st12 hQ12
      subst l12 y12 z12
      obtain ⟨rfl, N12q, E12⟩ := hQ12
      have N12 := Fr.app N10 N12q
      refine ownW_step (T' := T12) (f' := (mkF m 201 #[.val (.int p1), .val (.int p2), .val (.int (0 : Int32)), .val (.int (0 : Int32)), .val (.ref aF), .val (.ref aF), .val (.int (1 : Int32)), .val (.int (own_bcmp (0 : Int32) (0 : Int32))), .val (.int (1 : Int32)), .val (.ref rr10)] [(.int (1 : Int32))])) (fun t k => st12.trans k) ?_
      refine ownW_step (T' := T12) (f' := (mkF m 204 #[.val (.int p1), .val (.int p2), .val (.int (0 : Int32)), .val (.int (0 : Int32)), .val (.ref aF), .val (.ref aF), .val (.int (1 : Int32)), .val (.int (own_bcmp (0 : Int32) (0 : Int32))), .val (.int (1 : Int32)), .val (.ref rr10)] [])) (fun t k => XS.ifNo X12.here hx rfl (hb hby at_201) rfl ((if0 _ _).trans (feq (by decide : ¬ ((1 : Int32) = (0 : Int32)))).1) k) ?_
      refine ownW_step (T' := T12) (f' := (mkF m 205 #[.val (.int p1), .val (.int p2), .val (.int (0 : Int32)), .val (.int (0 : Int32)), .val (.ref aF), .val (.ref aF), .val (.int (1 : Int32)), .val (.int (own_bcmp (0 : Int32) (0 : Int32))), .val (.int (1 : Int32)), .val (.ref rr10)] [(.int (1 : Int32))])) (fun t k => XS.iconst X12.here hx rfl (hb hby at_204) k) ?_
      refine ownW_step (T' := T12) (f' := (mkF m 209 #[.val (.int p1), .val (.int p2), .val (.int (0 : Int32)), .val (.int (0 : Int32)), .val (.ref aF), .val (.ref aF), .val (.int (1 : Int32)), .val (.int (own_bcmp (0 : Int32) (0 : Int32))), .val (.int (1 : Int32)), .val (.ref rr10)] [(.int (1 : Int32))])) (fun t k => XS.goto X12.here hx rfl (pc0 := 205) (pc' := 209) rfl (hb hby at_205) (by decide) (by decide) k) ?_
      refine ownW_step (T' := T12) (f' := (mkF m 211 #[.val (.int p1), .val (.int p2), .val (.int (0 : Int32)), .val (.int (0 : Int32)), .val (.ref aF), .val (.ref aF), .val (.int (1 : Int32)), .val (.int (own_bcmp (0 : Int32) (0 : Int32))), .val (.int (1 : Int32)), .val (.ref rr10)] [])) (fun t k => XS.istore X12.here hx rfl (hb hby at_209) rfl (l' := #[.val (.int p1), .val (.int p2), .val (.int (0 : Int32)), .val (.int (0 : Int32)), .val (.ref aF), .val (.ref aF), .val (.int (1 : Int32)), .val (.int (own_bcmp (0 : Int32) (0 : Int32))), .val (.int (1 : Int32)), .val (.ref rr10)]) rfl k) ?_
      refine ownW_step (T' := T12) (f' := (mkF m 213 #[.val (.int p1), .val (.int p2), .val (.int (0 : Int32)), .val (.int (0 : Int32)), .val (.ref aF), .val (.ref aF), .val (.int (1 : Int32)), .val (.int (own_bcmp (0 : Int32) (0 : Int32))), .val (.int (1 : Int32)), .val (.ref rr10)] [(.int (1 : Int32))])) (fun t k => XS.iload X12.here hx rfl (hb hby at_211) rfl k) ?_
      exact ownW_retN X12 hS11 (by rw [E12]; exact hk11) hx hlk (t := .boolean) Bd.returns (by simp) (hb hby at_213) (by decide) (by decide) ⟨rfl, N12⟩
    · skip
      refine ownW_step (T' := s₁) (f' := (mkF m 18 #[.val (.int p1), .val (.int p2), .val (.int (0 : Int32)), .unset, .unset, .unset, .unset, .unset, .unset, .unset] [])) (fun t k => XS.ifNo X0.here hx rfl (hb hby at_15) rfl ((if0 _ _).trans (feq hc15_2).1) k) ?_
      refine ownW_step (T' := s₁) (f' := (mkF m 19 #[.val (.int p1), .val (.int p2), .val (.int (0 : Int32)), .unset, .unset, .unset, .unset, .unset, .unset, .unset] [(.int (1 : Int32))])) (fun t k => XS.iconst X0.here hx rfl (hb hby at_18) k) ?_
      refine ownW_step (T' := s₁) (f' := (mkF m 23 #[.val (.int p1), .val (.int p2), .val (.int (0 : Int32)), .unset, .unset, .unset, .unset, .unset, .unset, .unset] [(.int (1 : Int32))])) (fun t k => XS.goto X0.here hx rfl (pc0 := 19) (pc' := 23) rfl (hb hby at_19) (by decide) (by decide) k) ?_
      refine ownW_step (T' := s₁) (f' := (mkF m 24 #[.val (.int p1), .val (.int p2), .val (.int (0 : Int32)), .val (.int (1 : Int32)), .unset, .unset, .unset, .unset, .unset, .unset] [])) (fun t k => XS.istoreN X0.here hx rfl (hb hby at_23) rfl (l' := #[.val (.int p1), .val (.int p2), .val (.int (0 : Int32)), .val (.int (1 : Int32)), .unset, .unset, .unset, .unset, .unset, .unset]) rfl k) ?_
      refine ownW_step (T' := s₁) (f' := (mkF m 25 #[.val (.int p1), .val (.int p2), .val (.int (0 : Int32)), .val (.int (1 : Int32)), .unset, .unset, .unset, .unset, .unset, .unset] [(.int (0 : Int32))])) (fun t k => XS.iloadN X0.here hx rfl (hb hby at_24) rfl k) ?_
      obtain ⟨_, _, ⟨T13, L13, k13, n13⟩, -, X13, ⟨Lc13, hQ13, l13, y13, z13⟩, st13⟩ := Jvm.LawKit.callS X0 hx (y := (⟨"com/example/umriss/umriss/runtime/BooleanValue", "of", "(Z)Lcom/example/umriss/umriss/runtime/BooleanValue;"⟩ : MethodName)) hown (mvT hZ (hw _ (List.mem_of_getElem? (i := 0) rfl))) (mvT hZ (hw _ (List.mem_of_getElem? (i := 1) rfl))) (mvT hZ (hw _ (List.mem_of_getElem? (i := 2) rfl))) (mvT hZ (hw _ (List.mem_of_getElem? (i := 3) rfl))) (by decide) (backOf (W := 0) (rm1_0 l Z a0 hw [] h0 n0 Zz aT aF S_T S_F) hZ (hw _ (List.mem_of_getElem? (i := 3) rfl)) (hw _ (List.mem_of_getElem? (i := 2) rfl)) (by decide) (by decide)) (g := (mkF m 25 #[.val (.int p1), .val (.int p2), .val (.int (0 : Int32)), .val (.int (1 : Int32)), .unset, .unset, .unset, .unset, .unset, .unset] [(.int (0 : Int32))])) rfl (by rw [hml]; rfl) (argsL := [(.int (0 : Int32))]) (rest := []) (lenOf pd_0_0 rfl) rfl (by show 2 * 0 + _ ≤ _; exact Nat.le_of_eq rfl) (hb hby at_25) (fun _ _ => ⟨rfl, e0, (by decide : 0 + 0 ≤ _), (by decide : 0 + 0 ≤ _)⟩)
      dsimp only [Pt.U, Pt.locs, Pt.cells, Pt.slots] at X13 l13 y13 z13 st13 hQ13
      subst l13 y13 z13
      obtain ⟨rfl, N13q, E13⟩ := hQ13
      have N13 := Fr.app N0 N13q
      refine ownW_step (T' := T13) (f' := (mkF m 28 #[.val (.int p1), .val (.int p2), .val (.int (0 : Int32)), .val (.int (1 : Int32)), .unset, .unset, .unset, .unset, .unset, .unset] [(.ref aF)])) (fun t k => st13 t k) ?_
      refine ownW_step (T' := T13) (f' := (mkF m 30 #[.val (.int p1), .val (.int p2), .val (.int (0 : Int32)), .val (.int (1 : Int32)), .val (.ref aF), .unset, .unset, .unset, .unset, .unset] [])) (fun t k => XS.astore X13.here hx rfl (hb hby at_28) rfl rfl (l' := #[.val (.int p1), .val (.int p2), .val (.int (0 : Int32)), .val (.int (1 : Int32)), .val (.ref aF), .unset, .unset, .unset, .unset, .unset]) rfl k) ?_
      refine ownW_step (T' := T13) (f' := (mkF m 31 #[.val (.int p1), .val (.int p2), .val (.int (0 : Int32)), .val (.int (1 : Int32)), .val (.ref aF), .unset, .unset, .unset, .unset, .unset] [(.int (1 : Int32))])) (fun t k => XS.iloadN X13.here hx rfl (hb hby at_30) rfl k) ?_
      obtain ⟨_, _, ⟨T14, L14, k14, n14⟩, -, X14, ⟨Lc14, hQ14, l14, y14, z14⟩, st14⟩ := Jvm.LawKit.callS X13 hx (y := (⟨"com/example/umriss/umriss/runtime/BooleanValue", "of", "(Z)Lcom/example/umriss/umriss/runtime/BooleanValue;"⟩ : MethodName)) hown (mvT hZ (hw _ (List.mem_of_getElem? (i := 0) rfl))) (mvT hZ (hw _ (List.mem_of_getElem? (i := 1) rfl))) (mvT hZ (hw _ (List.mem_of_getElem? (i := 2) rfl))) (mvT hZ (hw _ (List.mem_of_getElem? (i := 3) rfl))) (by decide) (backOf (W := 0) (rm1_1 l Z a0 hw [] h0 n0 Zz aT aF S_T S_F) hZ (hw _ (List.mem_of_getElem? (i := 3) rfl)) (hw _ (List.mem_of_getElem? (i := 2) rfl)) (by decide) (by decide)) (g := (mkF m 31 #[.val (.int p1), .val (.int p2), .val (.int (0 : Int32)), .val (.int (1 : Int32)), .val (.ref aF), .unset, .unset, .unset, .unset, .unset] [(.int (1 : Int32))])) rfl (by rw [hml]; rfl) (argsL := [(.int (1 : Int32))]) (rest := []) (lenOf pd_0_0 rfl) rfl (by show 2 * 0 + _ ≤ _; exact Nat.le_of_eq rfl) (hb hby at_31) (fun _ _ => ⟨rfl, E13, (by decide : 0 + 0 ≤ _), (by decide : 0 + 0 ≤ _)⟩)
      dsimp only [Pt.U, Pt.locs, Pt.cells, Pt.slots] at X14 l14 y14 z14 st14 hQ14
      subst l14 y14 z14
      obtain ⟨rfl, N14q, E14⟩ := hQ14
      have N14 := Fr.app N13 N14q
      refine ownW_step (T' := T14) (f' := (mkF m 34 #[.val (.int p1), .val (.int p2), .val (.int (0 : Int32)), .val (.int (1 : Int32)), .val (.ref aF), .unset, .unset, .unset, .unset, .unset] [(.ref aT)])) (fun t k => st14 t k) ?_
      refine ownW_step (T' := T14) (f' := (mkF m 36 #[.val (.int p1), .val (.int p2), .val (.int (0 : Int32)), .val (.int (1 : Int32)), .val (.ref aF), .val (.ref aT), .unset, .unset, .unset, .unset] [])) (fun t k => XS.astore X14.here hx rfl (hb hby at_34) rfl rfl (l' := #[.val (.int p1), .val (.int p2), .val (.int (0 : Int32)), .val (.int (1 : Int32)), .val (.ref aF), .val (.ref aT), .unset, .unset, .unset, .unset]) rfl k) ?_
      refine ownW_step (T' := T14) (f' := (mkF m 38 #[.val (.int p1), .val (.int p2), .val (.int (0 : Int32)), .val (.int (1 : Int32)), .val (.ref aF), .val (.ref aT), .unset, .unset, .unset, .unset] [(.ref aF)])) (fun t k => XS.aload X14.here hx rfl (hb hby at_36) rfl rfl k) ?_
      refine ownW_step (T' := T14) (f' := (mkF m 41 #[.val (.int p1), .val (.int p2), .val (.int (0 : Int32)), .val (.int (1 : Int32)), .val (.ref aF), .val (.ref aT), .unset, .unset, .unset, .unset] [])) (fun t k => XS.ifnullNo X14.here hx rfl (hb hby at_38) rfl k) ?_
      refine ownW_step (T' := T14) (f' := (mkF m 43 #[.val (.int p1), .val (.int p2), .val (.int (0 : Int32)), .val (.int (1 : Int32)), .val (.ref aF), .val (.ref aT), .unset, .unset, .unset, .unset] [(.ref aT)])) (fun t k => XS.aload X14.here hx rfl (hb hby at_41) rfl rfl k) ?_
      refine ownW_step (T' := T14) (f' := (mkF m 48 #[.val (.int p1), .val (.int p2), .val (.int (0 : Int32)), .val (.int (1 : Int32)), .val (.ref aF), .val (.ref aT), .unset, .unset, .unset, .unset] [])) (fun t k => XS.ifnonnullYes X14.here hx rfl (pc0 := 43) (pc' := 48) rfl (hb hby at_43) rfl (by decide) (by decide) k) ?_
      refine ownW_step (T' := T14) (f' := (mkF m 50 #[.val (.int p1), .val (.int p2), .val (.int (0 : Int32)), .val (.int (1 : Int32)), .val (.ref aF), .val (.ref aT), .unset, .unset, .unset, .unset] [(.ref aF)])) (fun t k => XS.aload X14.here hx rfl (hb hby at_48) rfl rfl k) ?_
      obtain ⟨cq15, kq15, q15a, q15b, q15c⟩ := isOf hZ E14 E_aF
      obtain ⟨_, _, ⟨T15, L15, k15, n15⟩, -, X15, ⟨Lc15, hQ15, l15, y15, z15⟩, st15⟩ := X14.virtualBack hx (y := (⟨"com/example/umriss/umriss/runtime/BooleanValue", "value", "()Z"⟩ : MethodName)) (z := (⟨"com/example/umriss/umriss/runtime/BooleanValue", "value", "()Z"⟩ : MethodName)) hown (mvT hZ (hw _ (List.mem_of_getElem? (i := 8) rfl))) (mvT hZ (hw _ (List.mem_of_getElem? (i := 9) rfl))) (notFace_of_selects (args := #[]) (mvT hZ (hw _ (List.mem_of_getElem? (i := 11) rfl)))) (mvT hZ (hw _ (List.mem_of_getElem? (i := 11) rfl))) (mvT hZ (hw _ (List.mem_of_getElem? (i := 10) rfl))) (by decide) (backOf (W := 0) (rm2_0 l Z a0 hw [] aF h0 n0 Zz F_aF) hZ (hw _ (List.mem_of_getElem? (i := 12) rfl)) (hw _ (List.mem_of_getElem? (i := 2) rfl)) (by decide) (by decide)) q15a q15c (g := (mkF m 50 #[.val (.int p1), .val (.int p2), .val (.int (0 : Int32)), .val (.int (1 : Int32)), .val (.ref aF), .val (.ref aT), .unset, .unset, .unset, .unset] [(.ref aF)])) rfl (by rw [hml]; rfl) (Steps.refl _) (argsL := []) (rest := []) (lenOf pd_0_1 rfl) rfl (by show 2 * 0 + _ ≤ _; exact Nat.le_of_eq rfl) (hb hby at_50) (fun _ _ => ⟨rfl, E14, (by decide : 0 + 0 ≤ _), (by decide : 0 + 0 ≤ _)⟩)
      dsimp only [Pt.U, Pt.locs, Pt.cells, Pt.slots] at X15 l15 y15 z15 st15 hQ15
      subst l15 y15 z15
      obtain ⟨rfl, N15q, E15⟩ := hQ15
      have N15 := Fr.app N14 N15q
      refine ownW_step (T' := T15) (f' := (mkF m 53 #[.val (.int p1), .val (.int p2), .val (.int (0 : Int32)), .val (.int (1 : Int32)), .val (.ref aF), .val (.ref aT), .unset, .unset, .unset, .unset] [(.int (0 : Int32))])) (fun t k => st15.trans k) ?_
      refine ownW_step (T' := T15) (f' := (mkF m 54 #[.val (.int p1), .val (.int p2), .val (.int (0 : Int32)), .val (.int (1 : Int32)), .val (.ref aF), .val (.ref aT), .unset, .unset, .unset, .unset] [(.int (0 : Int32)), (.int (0 : Int32))])) (fun t k => XS.iloadN X15.here hx rfl (hb hby at_53) rfl k) ?_
      refine ownW_step (T' := T15) (f' := (mkF m 57 #[.val (.int p1), .val (.int p2), .val (.int (0 : Int32)), .val (.int (1 : Int32)), .val (.ref aF), .val (.ref aT), .unset, .unset, .unset, .unset] [])) (fun t k => XS.icmpNo X15.here hx rfl (hb hby at_54) rfl (teq (by decide : (0 : Int32) = (0 : Int32))).2 k) ?_
      refine ownW_step (T' := T15) (f' := (mkF m 59 #[.val (.int p1), .val (.int p2), .val (.int (0 : Int32)), .val (.int (1 : Int32)), .val (.ref aF), .val (.ref aT), .unset, .unset, .unset, .unset] [(.ref aT)])) (fun t k => XS.aload X15.here hx rfl (hb hby at_57) rfl rfl k) ?_
      obtain ⟨cq16, kq16, q16a, q16b, q16c⟩ := isOf hZ E15 E_aT
      obtain ⟨_, _, ⟨T16, L16, k16, n16⟩, -, X16, ⟨Lc16, hQ16, l16, y16, z16⟩, st16⟩ := X15.virtualBack hx (y := (⟨"com/example/umriss/umriss/runtime/BooleanValue", "value", "()Z"⟩ : MethodName)) (z := (⟨"com/example/umriss/umriss/runtime/BooleanValue", "value", "()Z"⟩ : MethodName)) hown (mvT hZ (hw _ (List.mem_of_getElem? (i := 8) rfl))) (mvT hZ (hw _ (List.mem_of_getElem? (i := 9) rfl))) (notFace_of_selects (args := #[]) (mvT hZ (hw _ (List.mem_of_getElem? (i := 11) rfl)))) (mvT hZ (hw _ (List.mem_of_getElem? (i := 11) rfl))) (mvT hZ (hw _ (List.mem_of_getElem? (i := 10) rfl))) (by decide) (backOf (W := 0) (rm2_1 l Z a0 hw [] aT h0 n0 Zz F_aT) hZ (hw _ (List.mem_of_getElem? (i := 12) rfl)) (hw _ (List.mem_of_getElem? (i := 2) rfl)) (by decide) (by decide)) q16a q16c (g := (mkF m 59 #[.val (.int p1), .val (.int p2), .val (.int (0 : Int32)), .val (.int (1 : Int32)), .val (.ref aF), .val (.ref aT), .unset, .unset, .unset, .unset] [(.ref aT)])) rfl (by rw [hml]; rfl) (Steps.refl _) (argsL := []) (rest := []) (lenOf pd_0_1 rfl) rfl (by show 2 * 0 + _ ≤ _; exact Nat.le_of_eq rfl) (hb hby at_59) (fun _ _ => ⟨rfl, E15, (by decide : 0 + 0 ≤ _), (by decide : 0 + 0 ≤ _)⟩)
      dsimp only [Pt.U, Pt.locs, Pt.cells, Pt.slots] at X16 l16 y16 z16 st16 hQ16
      subst l16 y16 z16
      obtain ⟨rfl, N16q, E16⟩ := hQ16
      have N16 := Fr.app N15 N16q
      refine ownW_step (T' := T16) (f' := (mkF m 62 #[.val (.int p1), .val (.int p2), .val (.int (0 : Int32)), .val (.int (1 : Int32)), .val (.ref aF), .val (.ref aT), .unset, .unset, .unset, .unset] [(.int (1 : Int32))])) (fun t k => st16.trans k) ?_
      refine ownW_step (T' := T16) (f' := (mkF m 63 #[.val (.int p1), .val (.int p2), .val (.int (0 : Int32)), .val (.int (1 : Int32)), .val (.ref aF), .val (.ref aT), .unset, .unset, .unset, .unset] [(.int (1 : Int32)), (.int (1 : Int32))])) (fun t k => XS.iloadN X16.here hx rfl (hb hby at_62) rfl k) ?_
      refine ownW_step (T' := T16) (f' := (mkF m 66 #[.val (.int p1), .val (.int p2), .val (.int (0 : Int32)), .val (.int (1 : Int32)), .val (.ref aF), .val (.ref aT), .unset, .unset, .unset, .unset] [])) (fun t k => XS.icmpNo X16.here hx rfl (hb hby at_63) rfl (teq (by decide : (1 : Int32) = (1 : Int32))).2 k) ?_
      refine ownW_step (T' := T16) (f' := (mkF m 67 #[.val (.int p1), .val (.int p2), .val (.int (0 : Int32)), .val (.int (1 : Int32)), .val (.ref aF), .val (.ref aT), .unset, .unset, .unset, .unset] [(.int (1 : Int32))])) (fun t k => XS.iconst X16.here hx rfl (hb hby at_66) k) ?_
      refine ownW_step (T' := T16) (f' := (mkF m 71 #[.val (.int p1), .val (.int p2), .val (.int (0 : Int32)), .val (.int (1 : Int32)), .val (.ref aF), .val (.ref aT), .unset, .unset, .unset, .unset] [(.int (1 : Int32))])) (fun t k => XS.goto X16.here hx rfl (pc0 := 67) (pc' := 71) rfl (hb hby at_67) (by decide) (by decide) k) ?_
      refine ownW_step (T' := T16) (f' := (mkF m 73 #[.val (.int p1), .val (.int p2), .val (.int (0 : Int32)), .val (.int (1 : Int32)), .val (.ref aF), .val (.ref aT), .val (.int (1 : Int32)), .unset, .unset, .unset] [])) (fun t k => XS.istore X16.here hx rfl (hb hby at_71) rfl (l' := #[.val (.int p1), .val (.int p2), .val (.int (0 : Int32)), .val (.int (1 : Int32)), .val (.ref aF), .val (.ref aT), .val (.int (1 : Int32)), .unset, .unset, .unset]) rfl k) ?_
      refine ownW_step (T' := T16) (f' := (mkF m 75 #[.val (.int p1), .val (.int p2), .val (.int (0 : Int32)), .val (.int (1 : Int32)), .val (.ref aF), .val (.ref aT), .val (.int (1 : Int32)), .unset, .unset, .unset] [(.int (1 : Int32))])) (fun t k => XS.iload X16.here hx rfl (hb hby at_73) rfl k) ?_
      refine ownW_step (T' := T16) (f' := (mkF m 78 #[.val (.int p1), .val (.int p2), .val (.int (0 : Int32)), .val (.int (1 : Int32)), .val (.ref aF), .val (.ref aT), .val (.int (1 : Int32)), .unset, .unset, .unset] [])) (fun t k => XS.ifNo X16.here hx rfl (hb hby at_75) rfl ((if0 _ _).trans (feq (by decide : ¬ ((1 : Int32) = (0 : Int32)))).1) k) ?_
      refine ownW_step (T' := T16) (f' := (mkF m 80 #[.val (.int p1), .val (.int p2), .val (.int (0 : Int32)), .val (.int (1 : Int32)), .val (.ref aF), .val (.ref aT), .val (.int (1 : Int32)), .unset, .unset, .unset] [(.ref aF)])) (fun t k => XS.aload X16.here hx rfl (hb hby at_78) rfl rfl k) ?_
      obtain ⟨cq17, kq17, q17a, q17b, q17c⟩ := isOf hZ E16 E_aF
      obtain ⟨_, _, ⟨T17, L17, k17, n17⟩, -, X17, ⟨Lc17, hQ17, l17, y17, z17⟩, st17⟩ := X16.virtualBack hx (y := (⟨"com/example/umriss/umriss/runtime/BooleanValue", "kind", "()Lcom/example/umriss/umriss/runtime/Value$Kind;"⟩ : MethodName)) (z := (⟨"com/example/umriss/umriss/runtime/BooleanValue", "kind", "()Lcom/example/umriss/umriss/runtime/Value$Kind;"⟩ : MethodName)) hown (mvT hZ (hw _ (List.mem_of_getElem? (i := 15) rfl))) (mvT hZ (hw _ (List.mem_of_getElem? (i := 16) rfl))) (notFace_of_selects (args := #[]) (mvT hZ (hw _ (List.mem_of_getElem? (i := 18) rfl)))) (mvT hZ (hw _ (List.mem_of_getElem? (i := 18) rfl))) (mvT hZ (hw _ (List.mem_of_getElem? (i := 17) rfl))) (by decide) (backOf (W := 0) (rm3 l Z a0 hw [] aF h0 n0 Zz aK S_K) hZ (hw _ (List.mem_of_getElem? (i := 19) rfl)) (hw _ (List.mem_of_getElem? (i := 2) rfl)) (by decide) (by decide)) q17a q17c (g := (mkF m 80 #[.val (.int p1), .val (.int p2), .val (.int (0 : Int32)), .val (.int (1 : Int32)), .val (.ref aF), .val (.ref aT), .val (.int (1 : Int32)), .unset, .unset, .unset] [(.ref aF)])) rfl (by rw [hml]; rfl) (Steps.refl _) (argsL := []) (rest := []) (lenOf pd_0_2 rfl) rfl (by show 2 * 0 + _ ≤ _; exact Nat.le_of_eq rfl) (hb hby at_80) (fun _ _ => ⟨rfl, E16, (by decide : 0 + 0 ≤ _), (by decide : 0 + 0 ≤ _)⟩)
      dsimp only [Pt.U, Pt.locs, Pt.cells, Pt.slots] at X17 l17 y17 z17 st17 hQ17
      subst l17 y17 z17
      obtain ⟨rfl, N17q, E17⟩ := hQ17
      have N17 := Fr.app N16 N17q
      refine ownW_step (T' := T17) (f' := (mkF m 83 #[.val (.int p1), .val (.int p2), .val (.int (0 : Int32)), .val (.int (1 : Int32)), .val (.ref aF), .val (.ref aT), .val (.int (1 : Int32)), .unset, .unset, .unset] [(.ref aK)])) (fun t k => st17.trans k) ?_
      obtain ⟨T18, X18, e18, st18⟩ := getS2 X17 hx hZ hown (host := "") (Or.inl (hw _ (List.mem_of_getElem? (i := 23) rfl))) Via.refl E17 S_K (g := (mkF m 83 #[.val (.int p1), .val (.int p2), .val (.int (0 : Int32)), .val (.int (1 : Int32)), .val (.ref aF), .val (.ref aT), .val (.int (1 : Int32)), .unset, .unset, .unset] [(.ref aK)])) rfl (hb hby at_83)
      refine ownW_step (T' := T18) (f' := (mkF m 86 #[.val (.int p1), .val (.int p2), .val (.int (0 : Int32)), .val (.int (1 : Int32)), .val (.ref aF), .val (.ref aT), .val (.int (1 : Int32)), .unset, .unset, .unset] [(.ref aK), (.ref aK)])) (fun t k => st18 t k) ?_
      refine ownW_step (T' := T18) (f' := (mkF m 89 #[.val (.int p1), .val (.int p2), .val (.int (0 : Int32)), .val (.int (1 : Int32)), .val (.ref aF), .val (.ref aT), .val (.int (1 : Int32)), .unset, .unset, .unset] [])) (fun t k => Jvm.RoadKit.acmp (g := (mkF m 86 #[.val (.int p1), .val (.int p2), .val (.int (0 : Int32)), .val (.int (1 : Int32)), .val (.ref aF), .val (.ref aT), .val (.int (1 : Int32)), .unset, .unset, .unset] [(.ref aK), (.ref aK)])) X18 hx rfl rfl rfl (pc0 := 86) (pc' := 89) (same := true) rfl (hb hby at_86) rfl (decide_eq_true rfl) (by decide) (by decide) k) ?_
      refine ownW_step (T' := T18) (f' := (mkF m 90 #[.val (.int p1), .val (.int p2), .val (.int (0 : Int32)), .val (.int (1 : Int32)), .val (.ref aF), .val (.ref aT), .val (.int (1 : Int32)), .unset, .unset, .unset] [(.int (1 : Int32))])) (fun t k => XS.iconst X18.here hx rfl (hb hby at_89) k) ?_
      refine ownW_step (T' := T18) (f' := (mkF m 94 #[.val (.int p1), .val (.int p2), .val (.int (0 : Int32)), .val (.int (1 : Int32)), .val (.ref aF), .val (.ref aT), .val (.int (1 : Int32)), .unset, .unset, .unset] [(.int (1 : Int32))])) (fun t k => XS.goto X18.here hx rfl (pc0 := 90) (pc' := 94) rfl (hb hby at_90) (by decide) (by decide) k) ?_
      refine ownW_step (T' := T18) (f' := (mkF m 96 #[.val (.int p1), .val (.int p2), .val (.int (0 : Int32)), .val (.int (1 : Int32)), .val (.ref aF), .val (.ref aT), .val (.int (1 : Int32)), .unset, .unset, .unset] [])) (fun t k => XS.istore X18.here hx rfl (hb hby at_94) rfl (l' := #[.val (.int p1), .val (.int p2), .val (.int (0 : Int32)), .val (.int (1 : Int32)), .val (.ref aF), .val (.ref aT), .val (.int (1 : Int32)), .unset, .unset, .unset]) rfl k) ?_
      refine ownW_step (T' := T18) (f' := (mkF m 98 #[.val (.int p1), .val (.int p2), .val (.int (0 : Int32)), .val (.int (1 : Int32)), .val (.ref aF), .val (.ref aT), .val (.int (1 : Int32)), .unset, .unset, .unset] [(.ref aF)])) (fun t k => XS.aload X18.here hx rfl (hb hby at_96) rfl rfl k) ?_
      refine ownW_step (T' := T18) (f' := (mkF m 100 #[.val (.int p1), .val (.int p2), .val (.int (0 : Int32)), .val (.int (1 : Int32)), .val (.ref aF), .val (.ref aT), .val (.int (1 : Int32)), .unset, .unset, .unset] [(.ref aT), (.ref aF)])) (fun t k => XS.aload X18.here hx rfl (hb hby at_98) rfl rfl k) ?_
      obtain ⟨cq19, kq19, q19a, q19b, q19c⟩ := isOf hZ e18 E_aF
      obtain ⟨_, _, ⟨T19, L19, k19, n19⟩, -, X19, ⟨Lc19, hQ19, l19, y19, z19⟩, st19⟩ := X18.virtualBackUp hx (x := (⟨"com/example/umriss/umriss/runtime/BooleanValue", "compareTo", "(Lcom/example/umriss/umriss/runtime/Value;)I"⟩ : MethodName)) (y := (⟨"com/example/umriss/umriss/runtime/Value", "compareTo", "(Lcom/example/umriss/umriss/runtime/Value;)I"⟩ : MethodName)) (owner := "com/example/umriss/umriss/runtime/Value") hown (mvT hZ (hw _ (List.mem_of_getElem? (i := 24) rfl))) (mvT hZ (hw _ (List.mem_of_getElem? (i := 25) rfl))) (mvT hZ (hw _ (List.mem_of_getElem? (i := 26) rfl))) (by decide) (mvT hZ (hw _ (List.mem_of_getElem? (i := 28) rfl))) (mvT hZ (hw _ (List.mem_of_getElem? (i := 27) rfl))) (backOf (W := 0) (rm4 l Z a0 hw [] aF aT h0 n0 Zz (0 : Int32) (1 : Int32) F_aF E_aF F_aT E_aT aK S_K E_aK F_o mr hM) hZ (hw _ (List.mem_of_getElem? (i := 30) rfl)) (hw _ (List.mem_of_getElem? (i := 29) rfl)) (by decide) (by decide)) q19a q19c (g := (mkF m 100 #[.val (.int p1), .val (.int p2), .val (.int (0 : Int32)), .val (.int (1 : Int32)), .val (.ref aF), .val (.ref aT), .val (.int (1 : Int32)), .unset, .unset, .unset] [(.ref aT), (.ref aF)])) rfl (by rw [hml]; rfl) (Steps.refl _) (argsL := [(.ref aT)]) (rest := []) (lenOf pd_0_3 rfl) rfl (by show 2 * 0 + _ ≤ _; exact Nat.le_of_eq rfl) (hb hby at_100) (fun _ _ => ⟨rfl, e18, (by decide : 0 + 0 ≤ _), (by decide : 0 + 0 ≤ _)⟩)
      dsimp only [Pt.U, Pt.locs, Pt.cells, Pt.slots] at X19 l19 y19 z19 st19 hQ19
      subst l19 y19 z19
      obtain ⟨rfl, N19q, E19⟩ := hQ19
      have N19 := Fr.app N17 N19q
      refine ownW_step (T' := T19) (f' := (mkF m 103 #[.val (.int p1), .val (.int p2), .val (.int (0 : Int32)), .val (.int (1 : Int32)), .val (.ref aF), .val (.ref aT), .val (.int (1 : Int32)), .unset, .unset, .unset] [(.int (own_bcmp (0 : Int32) (1 : Int32)))])) (fun t k => st19.trans k) ?_
      refine ownW_step (T' := T19) (f' := (mkF m 105 #[.val (.int p1), .val (.int p2), .val (.int (0 : Int32)), .val (.int (1 : Int32)), .val (.ref aF), .val (.ref aT), .val (.int (1 : Int32)), .val (.int (own_bcmp (0 : Int32) (1 : Int32))), .unset, .unset] [])) (fun t k => XS.istore X19.here hx rfl (hb hby at_103) rfl (l' := #[.val (.int p1), .val (.int p2), .val (.int (0 : Int32)), .val (.int (1 : Int32)), .val (.ref aF), .val (.ref aT), .val (.int (1 : Int32)), .val (.int (own_bcmp (0 : Int32) (1 : Int32))), .unset, .unset]) rfl k) ?_
      refine ownW_step (T' := T19) (f' := (mkF m 106 #[.val (.int p1), .val (.int p2), .val (.int (0 : Int32)), .val (.int (1 : Int32)), .val (.ref aF), .val (.ref aT), .val (.int (1 : Int32)), .val (.int (own_bcmp (0 : Int32) (1 : Int32))), .unset, .unset] [(.int (0 : Int32))])) (fun t k => XS.iloadN X19.here hx rfl (hb hby at_105) rfl k) ?_
      refine ownW_step (T' := T19) (f' := (mkF m 107 #[.val (.int p1), .val (.int p2), .val (.int (0 : Int32)), .val (.int (1 : Int32)), .val (.ref aF), .val (.ref aT), .val (.int (1 : Int32)), .val (.int (own_bcmp (0 : Int32) (1 : Int32))), .unset, .unset] [(.int (1 : Int32)), (.int (0 : Int32))])) (fun t k => XS.iloadN X19.here hx rfl (hb hby at_106) rfl k) ?_
      refine ownW_step (T' := T19) (f' := (mkF m 125 #[.val (.int p1), .val (.int p2), .val (.int (0 : Int32)), .val (.int (1 : Int32)), .val (.ref aF), .val (.ref aT), .val (.int (1 : Int32)), .val (.int (own_bcmp (0 : Int32) (1 : Int32))), .unset, .unset] [])) (fun t k => XS.icmpYes X19.here hx rfl (pc0 := 107) (pc' := 125) rfl (hb hby at_107) rfl (feq (by decide : ¬ ((0 : Int32) = (1 : Int32)))).2 (by decide) (by decide) k) ?_
      refine ownW_step (T' := T19) (f' := (mkF m 126 #[.val (.int p1), .val (.int p2), .val (.int (0 : Int32)), .val (.int (1 : Int32)), .val (.ref aF), .val (.ref aT), .val (.int (1 : Int32)), .val (.int (own_bcmp (0 : Int32) (1 : Int32))), .unset, .unset] [(.int (1 : Int32))])) (fun t k => XS.iloadN X19.here hx rfl (hb hby at_125) rfl k) ?_
      refine ownW_step (T' := T19) (f' := (mkF m 129 #[.val (.int p1), .val (.int p2), .val (.int (0 : Int32)), .val (.int (1 : Int32)), .val (.ref aF), .val (.ref aT), .val (.int (1 : Int32)), .val (.int (own_bcmp (0 : Int32) (1 : Int32))), .unset, .unset] [])) (fun t k => XS.ifNo X19.here hx rfl (hb hby at_126) rfl ((if0 _ _).trans (feq (by decide : ¬ ((1 : Int32) = (0 : Int32)))).1) k) ?_
      refine ownW_step (T' := T19) (f' := (mkF m 131 #[.val (.int p1), .val (.int p2), .val (.int (0 : Int32)), .val (.int (1 : Int32)), .val (.ref aF), .val (.ref aT), .val (.int (1 : Int32)), .val (.int (own_bcmp (0 : Int32) (1 : Int32))), .unset, .unset] [(.int (own_bcmp (0 : Int32) (1 : Int32)))])) (fun t k => XS.iload X19.here hx rfl (hb hby at_129) rfl k) ?_
      refine ownW_step (T' := T19) (f' := (mkF m 134 #[.val (.int p1), .val (.int p2), .val (.int (0 : Int32)), .val (.int (1 : Int32)), .val (.ref aF), .val (.ref aT), .val (.int (1 : Int32)), .val (.int (own_bcmp (0 : Int32) (1 : Int32))), .unset, .unset] [])) (fun t k => XS.ifNo X19.here hx rfl (hb hby at_131) rfl ((if0 _ _).trans (tlt (by decide : (own_bcmp (0 : Int32) (1 : Int32)) < (0 : Int32))).2.1) k) ?_
      refine ownW_step (T' := T19) (f' := (mkF m 135 #[.val (.int p1), .val (.int p2), .val (.int (0 : Int32)), .val (.int (1 : Int32)), .val (.ref aF), .val (.ref aT), .val (.int (1 : Int32)), .val (.int (own_bcmp (0 : Int32) (1 : Int32))), .unset, .unset] [(.int (1 : Int32))])) (fun t k => XS.iconst X19.here hx rfl (hb hby at_134) k) ?_
      refine ownW_step (T' := T19) (f' := (mkF m 139 #[.val (.int p1), .val (.int p2), .val (.int (0 : Int32)), .val (.int (1 : Int32)), .val (.ref aF), .val (.ref aT), .val (.int (1 : Int32)), .val (.int (own_bcmp (0 : Int32) (1 : Int32))), .unset, .unset] [(.int (1 : Int32))])) (fun t k => XS.goto X19.here hx rfl (pc0 := 135) (pc' := 139) rfl (hb hby at_135) (by decide) (by decide) k) ?_
      refine ownW_step (T' := T19) (f' := (mkF m 141 #[.val (.int p1), .val (.int p2), .val (.int (0 : Int32)), .val (.int (1 : Int32)), .val (.ref aF), .val (.ref aT), .val (.int (1 : Int32)), .val (.int (own_bcmp (0 : Int32) (1 : Int32))), .val (.int (1 : Int32)), .unset] [])) (fun t k => XS.istore X19.here hx rfl (hb hby at_139) rfl (l' := #[.val (.int p1), .val (.int p2), .val (.int (0 : Int32)), .val (.int (1 : Int32)), .val (.ref aF), .val (.ref aT), .val (.int (1 : Int32)), .val (.int (own_bcmp (0 : Int32) (1 : Int32))), .val (.int (1 : Int32)), .unset]) rfl k) ?_
      refine ownW_step (T' := T19) (f' := (mkF m 156 #[.val (.int p1), .val (.int p2), .val (.int (0 : Int32)), .val (.int (1 : Int32)), .val (.ref aF), .val (.ref aT), .val (.int (1 : Int32)), .val (.int (own_bcmp (0 : Int32) (1 : Int32))), .val (.int (1 : Int32)), .unset] [])) (fun t k => XS.goto X19.here hx rfl (pc0 := 141) (pc' := 156) rfl (hb hby at_141) (by decide) (by decide) k) ?_
      refine ownW_step (T' := T19) (f' := (mkF m 158 #[.val (.int p1), .val (.int p2), .val (.int (0 : Int32)), .val (.int (1 : Int32)), .val (.ref aF), .val (.ref aT), .val (.int (1 : Int32)), .val (.int (own_bcmp (0 : Int32) (1 : Int32))), .val (.int (1 : Int32)), .unset] [(.int (1 : Int32))])) (fun t k => XS.iload X19.here hx rfl (hb hby at_156) rfl k) ?_
      refine ownW_step (T' := T19) (f' := (mkF m 161 #[.val (.int p1), .val (.int p2), .val (.int (0 : Int32)), .val (.int (1 : Int32)), .val (.ref aF), .val (.ref aT), .val (.int (1 : Int32)), .val (.int (own_bcmp (0 : Int32) (1 : Int32))), .val (.int (1 : Int32)), .unset] [])) (fun t k => XS.ifNo X19.here hx rfl (hb hby at_158) rfl ((if0 _ _).trans (feq (by decide : ¬ ((1 : Int32) = (0 : Int32)))).1) k) ?_
      refine ownW_step (T' := T19) (f' := (mkF m 163 #[.val (.int p1), .val (.int p2), .val (.int (0 : Int32)), .val (.int (1 : Int32)), .val (.ref aF), .val (.ref aT), .val (.int (1 : Int32)), .val (.int (own_bcmp (0 : Int32) (1 : Int32))), .val (.int (1 : Int32)), .unset] [(.int (1 : Int32))])) (fun t k => XS.iload X19.here hx rfl (hb hby at_161) rfl k) ?_
      refine ownW_step (T' := T19) (f' := (mkF m 166 #[.val (.int p1), .val (.int p2), .val (.int (0 : Int32)), .val (.int (1 : Int32)), .val (.ref aF), .val (.ref aT), .val (.int (1 : Int32)), .val (.int (own_bcmp (0 : Int32) (1 : Int32))), .val (.int (1 : Int32)), .unset] [])) (fun t k => XS.ifNo X19.here hx rfl (hb hby at_163) rfl ((if0 _ _).trans (feq (by decide : ¬ ((1 : Int32) = (0 : Int32)))).1) k) ?_
      refine ownW_step (T' := T19) (f' := (mkF m 167 #[.val (.int p1), .val (.int p2), .val (.int (0 : Int32)), .val (.int (1 : Int32)), .val (.ref aF), .val (.ref aT), .val (.int (1 : Int32)), .val (.int (own_bcmp (0 : Int32) (1 : Int32))), .val (.int (1 : Int32)), .unset] [(.int (1 : Int32))])) (fun t k => XS.iconst X19.here hx rfl (hb hby at_166) k) ?_
      refine ownW_step (T' := T19) (f' := (mkF m 171 #[.val (.int p1), .val (.int p2), .val (.int (0 : Int32)), .val (.int (1 : Int32)), .val (.ref aF), .val (.ref aT), .val (.int (1 : Int32)), .val (.int (own_bcmp (0 : Int32) (1 : Int32))), .val (.int (1 : Int32)), .unset] [(.int (1 : Int32))])) (fun t k => XS.goto X19.here hx rfl (pc0 := 167) (pc' := 171) rfl (hb hby at_167) (by decide) (by decide) k) ?_
      refine ownW_step (T' := T19) (f' := (mkF m 173 #[.val (.int p1), .val (.int p2), .val (.int (0 : Int32)), .val (.int (1 : Int32)), .val (.ref aF), .val (.ref aT), .val (.int (1 : Int32)), .val (.int (own_bcmp (0 : Int32) (1 : Int32))), .val (.int (1 : Int32)), .unset] [])) (fun t k => XS.istore X19.here hx rfl (hb hby at_171) rfl (l' := #[.val (.int p1), .val (.int p2), .val (.int (0 : Int32)), .val (.int (1 : Int32)), .val (.ref aF), .val (.ref aT), .val (.int (1 : Int32)), .val (.int (own_bcmp (0 : Int32) (1 : Int32))), .val (.int (1 : Int32)), .unset]) rfl k) ?_
      refine ownW_step (T' := T19) (f' := (mkF m 175 #[.val (.int p1), .val (.int p2), .val (.int (0 : Int32)), .val (.int (1 : Int32)), .val (.ref aF), .val (.ref aT), .val (.int (1 : Int32)), .val (.int (own_bcmp (0 : Int32) (1 : Int32))), .val (.int (1 : Int32)), .unset] [(.ref aF)])) (fun t k => XS.aload X19.here hx rfl (hb hby at_173) rfl rfl k) ?_
      obtain ⟨cq20, kq20, q20a, q20b, q20c⟩ := isOf hZ E19 E_aF
      obtain ⟨_, _, ⟨T20, L20, k20, n20⟩, -, X20, ⟨Lc20, hQ20, l20, y20, z20⟩, st20⟩ := X19.virtualBackUp hx (x := (⟨"com/example/umriss/umriss/runtime/BooleanValue", "toString", "()Ljava/lang/String;"⟩ : MethodName)) (y := (⟨"com/example/umriss/umriss/runtime/Value", "toString", "()Ljava/lang/String;"⟩ : MethodName)) (owner := "com/example/umriss/umriss/runtime/Value") hown (mvT hZ (hw _ (List.mem_of_getElem? (i := 60) rfl))) (mvT hZ (hw _ (List.mem_of_getElem? (i := 61) rfl))) (mvT hZ (hw _ (List.mem_of_getElem? (i := 62) rfl))) (by decide) (mvT hZ (hw _ (List.mem_of_getElem? (i := 64) rfl))) (mvT hZ (hw _ (List.mem_of_getElem? (i := 63) rfl))) (backOf (W := 0) (rm8_0 l Z a0 hw [] aF h0 n0 Zz F_aF E_aF cs S_CS hcs) hZ (hw _ (List.mem_of_getElem? (i := 65) rfl)) (hw _ (List.mem_of_getElem? (i := 29) rfl)) (by decide) (by decide)) q20a q20c (g := (mkF m 175 #[.val (.int p1), .val (.int p2), .val (.int (0 : Int32)), .val (.int (1 : Int32)), .val (.ref aF), .val (.ref aT), .val (.int (1 : Int32)), .val (.int (own_bcmp (0 : Int32) (1 : Int32))), .val (.int (1 : Int32)), .unset] [(.ref aF)])) rfl (by rw [hml]; rfl) (Steps.refl _) (argsL := []) (rest := []) (lenOf pd_0_4 rfl) rfl (by show 2 * 0 + _ ≤ _; exact Nat.le_of_eq rfl) (hb hby at_175) (fun _ _ => ⟨rfl, E19, (by decide : 0 + 4 ≤ _), (by decide : 0 + 29 ≤ _)⟩)
      dsimp only [Pt.U, Pt.locs, Pt.cells, Pt.slots] at X20 l20 y20 z20 st20 hQ20
      subst l20 y20 z20
      obtain ⟨rr20, rb20, rk20, rfl, N20q, K20, Er20, Fc20, Fv20, Vr20⟩ := hQ20
      have N20 := Fr.app N19 N20q
      replace S_T := own_sta_keep S_T K20 all0
      replace S_F := own_sta_keep S_F K20 all0
      replace S_K := own_sta_keep S_K K20 all0
      replace S_CS := own_sta_keep S_CS K20 all0
      replace E_aT := E_aT.keep K20
      replace E_aF := E_aF.keep K20
      replace E_aK := E_aK.keep K20
      replace F_aT := F_aT.keep K20 nin0
      replace F_aF := F_aF.keep K20 nin0
      replace F_o := F_o.keep K20 nin0
      replace Zz := Nat.le_trans Zz K20.1
      replace Kp := Kp.trans K20 all0
      refine ownW_step (T' := T20) (f' := (mkF m 178 #[.val (.int p1), .val (.int p2), .val (.int (0 : Int32)), .val (.int (1 : Int32)), .val (.ref aF), .val (.ref aT), .val (.int (1 : Int32)), .val (.int (own_bcmp (0 : Int32) (1 : Int32))), .val (.int (1 : Int32)), .unset] [(.ref rr20)])) (fun t k => st20.trans k) ?_
      refine ownW_step (T' := T20) (f' := (mkF m 180 #[.val (.int p1), .val (.int p2), .val (.int (0 : Int32)), .val (.int (1 : Int32)), .val (.ref aF), .val (.ref aT), .val (.int (1 : Int32)), .val (.int (own_bcmp (0 : Int32) (1 : Int32))), .val (.int (1 : Int32)), .val (.ref rr20)] [])) (fun t k => XS.astore X20.here hx rfl (hb hby at_178) rfl rfl (l' := #[.val (.int p1), .val (.int p2), .val (.int (0 : Int32)), .val (.int (1 : Int32)), .val (.ref aF), .val (.ref aT), .val (.int (1 : Int32)), .val (.int (own_bcmp (0 : Int32) (1 : Int32))), .val (.int (1 : Int32)), .val (.ref rr20)]) rfl k) ?_
      refine ownW_step (T' := T20) (f' := (mkF m 182 #[.val (.int p1), .val (.int p2), .val (.int (0 : Int32)), .val (.int (1 : Int32)), .val (.ref aF), .val (.ref aT), .val (.int (1 : Int32)), .val (.int (own_bcmp (0 : Int32) (1 : Int32))), .val (.int (1 : Int32)), .val (.ref rr20)] [(.int (1 : Int32))])) (fun t k => XS.iload X20.here hx rfl (hb hby at_180) rfl k) ?_
      refine ownW_step (T' := T20) (f' := (mkF m 185 #[.val (.int p1), .val (.int p2), .val (.int (0 : Int32)), .val (.int (1 : Int32)), .val (.ref aF), .val (.ref aT), .val (.int (1 : Int32)), .val (.int (own_bcmp (0 : Int32) (1 : Int32))), .val (.int (1 : Int32)), .val (.ref rr20)] [])) (fun t k => XS.ifNo X20.here hx rfl (hb hby at_182) rfl ((if0 _ _).trans (feq (by decide : ¬ ((1 : Int32) = (0 : Int32)))).1) k) ?_
      refine ownW_step (T' := T20) (f' := (mkF m 187 #[.val (.int p1), .val (.int p2), .val (.int (0 : Int32)), .val (.int (1 : Int32)), .val (.ref aF), .val (.ref aT), .val (.int (1 : Int32)), .val (.int (own_bcmp (0 : Int32) (1 : Int32))), .val (.int (1 : Int32)), .val (.ref rr20)] [(.ref rr20)])) (fun t k => XS.aload X20.here hx rfl (hb hby at_185) rfl rfl k) ?_
      refine ownW_step (T' := T20) (f' := (mkF m 188 #[.val (.int p1), .val (.int p2), .val (.int (0 : Int32)), .val (.int (1 : Int32)), .val (.ref aF), .val (.ref aT), .val (.int (1 : Int32)), .val (.int (own_bcmp (0 : Int32) (1 : Int32))), .val (.int (1 : Int32)), .val (.ref rr20)] [(.int (0 : Int32)), (.ref rr20)])) (fun t k => XS.iloadN X20.here hx rfl (hb hby at_187) rfl k) ?_
      refine ownW_step (T' := T20) (f' := (mkF m 196 #[.val (.int p1), .val (.int p2), .val (.int (0 : Int32)), .val (.int (1 : Int32)), .val (.ref aF), .val (.ref aT), .val (.int (1 : Int32)), .val (.int (own_bcmp (0 : Int32) (1 : Int32))), .val (.int (1 : Int32)), .val (.ref rr20)] [(.ref rr20)])) (fun t k => XS.ifYes X20.here hx rfl (pc0 := 188) (pc' := 196) rfl (hb hby at_188) rfl ((if0 _ _).trans (teq (by decide : (0 : Int32) = (0 : Int32))).1) (by decide) (by decide) k) ?_
      obtain ⟨la21, T21, h21, k121, lb21, lk21, X21, e21, E21, hS21, hk21, hZ2, hown2, LE21, LC21, LV21, LA21, -, -, IB21, st21⟩ := ldcSV (s := s) (vm0 := s.vm) (Z := Z) (a0 := a0) X20 hx hZ hown (hw _ (List.mem_of_getElem? (i := 166) rfl)) (fun d hd => by simp only [Bundle.stringAtoms, Bundle.sN, List.mem_cons, List.not_mem_nil, or_false] at hd; rcases hd with rfl | rfl | rfl | rfl | rfl | rfl | rfl <;> first | exact (hw _ (List.mem_of_getElem? (i := 82) rfl)) | exact (hw _ (List.mem_of_getElem? (i := 121) rfl)) | exact (hw _ (List.mem_of_getElem? (i := 83) rfl)) | exact (hw _ (List.mem_of_getElem? (i := 165) rfl)) | exact (hw _ (List.mem_of_getElem? (i := 145) rfl)) | exact (hw _ (List.mem_of_getElem? (i := 167) rfl)) | exact (hw _ (List.mem_of_getElem? (i := 168) rfl))) rfl ((State.WarmedH.refl s).since T20.heap.size) (Nat.le_refl _) (by rw [hUZ, ← hn0]; exact N20) (fun _ _ q => by rw [hUZ]; exact q) (by rw [hUZ]; exact IB.start) (by simp) hl37 hcw (vs := [(.int (102 : Int32)), (.int (97 : Int32)), (.int (108 : Int32)), (.int (115 : Int32)), (.int (101 : Int32))]) (z := (5 : Int32)) ⟨by decide, rfl⟩ (by decide) rfl (g := (mkF m 196 #[.val (.int p1), .val (.int p2), .val (.int (0 : Int32)), .val (.int (1 : Int32)), .val (.ref aF), .val (.ref aT), .val (.int (1 : Int32)), .val (.int (own_bcmp (0 : Int32) (1 : Int32))), .val (.int (1 : Int32)), .val (.ref rr20)] [(.ref rr20)])) rfl (hb hby at_196) (n := 20) (by decide) (by decide) (by decide) (by decide)
      replace S_T := S_T.ext E21
      replace S_F := S_F.ext E21
      replace S_K := S_K.ext E21
      replace S_CS := S_CS.ext E21
      replace E_aT := E_aT.ext E21
      replace E_aF := E_aF.ext E21
      replace E_aK := E_aK.ext E21
      replace F_aT := F_aT.ext E21
      replace F_aF := F_aF.ext E21
      replace F_o := F_o.ext E21
      replace Er20 := Er20.ext E21
      replace Fc20 := Fc20.ext E21
      replace Fv20 := Fv20.ext E21
      replace Vr20 := Vr20.ext E21
      replace Zz := Nat.le_trans Zz E21.1
      replace Kp := Kp.ext E21
      refine ownW_step (T' := T21) (f' := (mkF m 198 #[.val (.int p1), .val (.int p2), .val (.int (0 : Int32)), .val (.int (1 : Int32)), .val (.ref aF), .val (.ref aT), .val (.int (1 : Int32)), .val (.int (own_bcmp (0 : Int32) (1 : Int32))), .val (.int (1 : Int32)), .val (.ref rr20)] [(.ref la21), (.ref rr20)])) (fun t k => st21 t k) ?_
      obtain ⟨cq22, kq22, q22a, q22b, q22c⟩ := isOf hZ2 e21 Er20
      obtain ⟨_, _, ⟨T22, L22, k22, n22⟩, -, X22, ⟨Lc22, hQ22, l22, y22, z22⟩, st22⟩ := X21.virtualBack hx (y := (⟨"java/lang/String", "equals", "(Ljava/lang/Object;)Z"⟩ : MethodName)) (z := (⟨"java/lang/String", "equals", "(Ljava/lang/Object;)Z"⟩ : MethodName)) hown2 (mvT hZ2 (hw _ (List.mem_of_getElem? (i := 169) rfl))) (mvT hZ2 (hw _ (List.mem_of_getElem? (i := 170) rfl))) (notFace_of_selects (args := #[]) (mvT hZ2 (hw _ (List.mem_of_getElem? (i := 172) rfl)))) (mvT hZ2 (hw _ (List.mem_of_getElem? (i := 172) rfl))) (mvT hZ2 (hw _ (List.mem_of_getElem? (i := 171) rfl))) (by decide) (backOf (W := 0) (rm27_0 l Z a0 hw [] rr20 la21 h21 n0 Zz rb20 lb21 rk20 lk21 ⟨Er20, Fc20, Fv20, Vr20⟩ ⟨LE21, LC21, LV21, LA21⟩ cs S_CS hcs) hZ2 (hw _ (List.mem_of_getElem? (i := 173) rfl)) (hw _ (List.mem_of_getElem? (i := 82) rfl)) (by decide) (by decide)) q22a q22c (g := (mkF m 198 #[.val (.int p1), .val (.int p2), .val (.int (0 : Int32)), .val (.int (1 : Int32)), .val (.ref aF), .val (.ref aT), .val (.int (1 : Int32)), .val (.int (own_bcmp (0 : Int32) (1 : Int32))), .val (.int (1 : Int32)), .val (.ref rr20)] [(.ref la21), (.ref rr20)])) rfl (by rw [hml]; rfl) (Steps.refl _) (argsL := [(.ref la21)]) (rest := []) (lenOf pd_0_5 rfl) rfl (by show 2 * 0 + _ ≤ _; exact Nat.le_of_eq rfl) (hb hby at_198) (fun _ _ => ⟨rfl, e21, (by decide : 6 + 0 ≤ _), (by decide : 53 + 0 ≤ _)⟩)
      dsimp only [Pt.U, Pt.locs, Pt.cells, Pt.slots] at X22 l22 y22 z22 st22 hQ22
      subst l22 y22 z22
      obtain ⟨rfl, N22q, E22⟩ := hQ22
      have N22 := Fr.app N20 N22q
      refine ownW_step (T' := T22) (f' := (mkF m 201 #[.val (.int p1), .val (.int p2), .val (.int (0 : Int32)), .val (.int (1 : Int32)), .val (.ref aF), .val (.ref aT), .val (.int (1 : Int32)), .val (.int (own_bcmp (0 : Int32) (1 : Int32))), .val (.int (1 : Int32)), .val (.ref rr20)] [(.int (1 : Int32))])) (fun t k => st22.trans k) ?_
      refine ownW_step (T' := T22) (f' := (mkF m 204 #[.val (.int p1), .val (.int p2), .val (.int (0 : Int32)), .val (.int (1 : Int32)), .val (.ref aF), .val (.ref aT), .val (.int (1 : Int32)), .val (.int (own_bcmp (0 : Int32) (1 : Int32))), .val (.int (1 : Int32)), .val (.ref rr20)] [])) (fun t k => XS.ifNo X22.here hx rfl (hb hby at_201) rfl ((if0 _ _).trans (feq (by decide : ¬ ((1 : Int32) = (0 : Int32)))).1) k) ?_
      refine ownW_step (T' := T22) (f' := (mkF m 205 #[.val (.int p1), .val (.int p2), .val (.int (0 : Int32)), .val (.int (1 : Int32)), .val (.ref aF), .val (.ref aT), .val (.int (1 : Int32)), .val (.int (own_bcmp (0 : Int32) (1 : Int32))), .val (.int (1 : Int32)), .val (.ref rr20)] [(.int (1 : Int32))])) (fun t k => XS.iconst X22.here hx rfl (hb hby at_204) k) ?_
      refine ownW_step (T' := T22) (f' := (mkF m 209 #[.val (.int p1), .val (.int p2), .val (.int (0 : Int32)), .val (.int (1 : Int32)), .val (.ref aF), .val (.ref aT), .val (.int (1 : Int32)), .val (.int (own_bcmp (0 : Int32) (1 : Int32))), .val (.int (1 : Int32)), .val (.ref rr20)] [(.int (1 : Int32))])) (fun t k => XS.goto X22.here hx rfl (pc0 := 205) (pc' := 209) rfl (hb hby at_205) (by decide) (by decide) k) ?_
      refine ownW_step (T' := T22) (f' := (mkF m 211 #[.val (.int p1), .val (.int p2), .val (.int (0 : Int32)), .val (.int (1 : Int32)), .val (.ref aF), .val (.ref aT), .val (.int (1 : Int32)), .val (.int (own_bcmp (0 : Int32) (1 : Int32))), .val (.int (1 : Int32)), .val (.ref rr20)] [])) (fun t k => XS.istore X22.here hx rfl (hb hby at_209) rfl (l' := #[.val (.int p1), .val (.int p2), .val (.int (0 : Int32)), .val (.int (1 : Int32)), .val (.ref aF), .val (.ref aT), .val (.int (1 : Int32)), .val (.int (own_bcmp (0 : Int32) (1 : Int32))), .val (.int (1 : Int32)), .val (.ref rr20)]) rfl k) ?_
      refine ownW_step (T' := T22) (f' := (mkF m 213 #[.val (.int p1), .val (.int p2), .val (.int (0 : Int32)), .val (.int (1 : Int32)), .val (.ref aF), .val (.ref aT), .val (.int (1 : Int32)), .val (.int (own_bcmp (0 : Int32) (1 : Int32))), .val (.int (1 : Int32)), .val (.ref rr20)] [(.int (1 : Int32))])) (fun t k => XS.iload X22.here hx rfl (hb hby at_211) rfl k) ?_
      exact ownW_retN X22 hS21 (by rw [E22]; exact hk21) hx hlk (t := .boolean) Bd.returns (by simp) (hb hby at_213) (by decide) (by decide) ⟨rfl, N22⟩
  · skip
    refine ownW_step (T' := s₁) (f' := (mkF m 6 #[.val (.int p1), .val (.int p2), .unset, .unset, .unset, .unset, .unset, .unset, .unset, .unset] [])) (fun t k => XS.ifNo X0.here hx rfl (hb hby at_3) rfl ((if0 _ _).trans (feq hc3_1).1) k) ?_
    refine ownW_step (T' := s₁) (f' := (mkF m 7 #[.val (.int p1), .val (.int p2), .unset, .unset, .unset, .unset, .unset, .unset, .unset, .unset] [(.int (1 : Int32))])) (fun t k => XS.iconst X0.here hx rfl (hb hby at_6) k) ?_
    refine ownW_step (T' := s₁) (f' := (mkF m 11 #[.val (.int p1), .val (.int p2), .unset, .unset, .unset, .unset, .unset, .unset, .unset, .unset] [(.int (1 : Int32))])) (fun t k => XS.goto X0.here hx rfl (pc0 := 7) (pc' := 11) rfl (hb hby at_7) (by decide) (by decide) k) ?_
    refine ownW_step (T' := s₁) (f' := (mkF m 12 #[.val (.int p1), .val (.int p2), .val (.int (1 : Int32)), .unset, .unset, .unset, .unset, .unset, .unset, .unset] [])) (fun t k => XS.istoreN X0.here hx rfl (hb hby at_11) rfl (l' := #[.val (.int p1), .val (.int p2), .val (.int (1 : Int32)), .unset, .unset, .unset, .unset, .unset, .unset, .unset]) rfl k) ?_
    refine ownW_step (T' := s₁) (f' := (mkF m 13 #[.val (.int p1), .val (.int p2), .val (.int (1 : Int32)), .unset, .unset, .unset, .unset, .unset, .unset, .unset] [(.int p2)])) (fun t k => XS.iloadN X0.here hx rfl (hb hby at_12) rfl k) ?_
    refine ownW_step (T' := s₁) (f' := (mkF m 14 #[.val (.int p1), .val (.int p2), .val (.int (1 : Int32)), .unset, .unset, .unset, .unset, .unset, .unset, .unset] [(.int (1 : Int32)), (.int p2)])) (fun t k => XS.iconst X0.here hx rfl (hb hby at_13) k) ?_
    refine ownW_step (T' := s₁) (f' := (mkF m 15 #[.val (.int p1), .val (.int p2), .val (.int (1 : Int32)), .unset, .unset, .unset, .unset, .unset, .unset, .unset] [(.int (p2 &&& (1 : Int32)))])) (fun t k => XS.iand X0.here hx rfl (hb hby at_14) rfl k) ?_
    by_cases hc15_23 : (p2 &&& (1 : Int32)) = (0 : Int32)
    · skip
      refine ownW_step (T' := s₁) (f' := (mkF m 22 #[.val (.int p1), .val (.int p2), .val (.int (1 : Int32)), .unset, .unset, .unset, .unset, .unset, .unset, .unset] [])) (fun t k => XS.ifYes X0.here hx rfl (pc0 := 15) (pc' := 22) rfl (hb hby at_15) rfl ((if0 _ _).trans (teq hc15_23).1) (by decide) (by decide) k) ?_
      refine ownW_step (T' := s₁) (f' := (mkF m 23 #[.val (.int p1), .val (.int p2), .val (.int (1 : Int32)), .unset, .unset, .unset, .unset, .unset, .unset, .unset] [(.int (0 : Int32))])) (fun t k => XS.iconst X0.here hx rfl (hb hby at_22) k) ?_
      refine ownW_step (T' := s₁) (f' := (mkF m 24 #[.val (.int p1), .val (.int p2), .val (.int (1 : Int32)), .val (.int (0 : Int32)), .unset, .unset, .unset, .unset, .unset, .unset] [])) (fun t k => XS.istoreN X0.here hx rfl (hb hby at_23) rfl (l' := #[.val (.int p1), .val (.int p2), .val (.int (1 : Int32)), .val (.int (0 : Int32)), .unset, .unset, .unset, .unset, .unset, .unset]) rfl k) ?_
      refine ownW_step (T' := s₁) (f' := (mkF m 25 #[.val (.int p1), .val (.int p2), .val (.int (1 : Int32)), .val (.int (0 : Int32)), .unset, .unset, .unset, .unset, .unset, .unset] [(.int (1 : Int32))])) (fun t k => XS.iloadN X0.here hx rfl (hb hby at_24) rfl k) ?_
      obtain ⟨_, _, ⟨T24, L24, k24, n24⟩, -, X24, ⟨Lc24, hQ24, l24, y24, z24⟩, st24⟩ := Jvm.LawKit.callS X0 hx (y := (⟨"com/example/umriss/umriss/runtime/BooleanValue", "of", "(Z)Lcom/example/umriss/umriss/runtime/BooleanValue;"⟩ : MethodName)) hown (mvT hZ (hw _ (List.mem_of_getElem? (i := 0) rfl))) (mvT hZ (hw _ (List.mem_of_getElem? (i := 1) rfl))) (mvT hZ (hw _ (List.mem_of_getElem? (i := 2) rfl))) (mvT hZ (hw _ (List.mem_of_getElem? (i := 3) rfl))) (by decide) (backOf (W := 0) (rm1_1 l Z a0 hw [] h0 n0 Zz aT aF S_T S_F) hZ (hw _ (List.mem_of_getElem? (i := 3) rfl)) (hw _ (List.mem_of_getElem? (i := 2) rfl)) (by decide) (by decide)) (g := (mkF m 25 #[.val (.int p1), .val (.int p2), .val (.int (1 : Int32)), .val (.int (0 : Int32)), .unset, .unset, .unset, .unset, .unset, .unset] [(.int (1 : Int32))])) rfl (by rw [hml]; rfl) (argsL := [(.int (1 : Int32))]) (rest := []) (lenOf pd_0_0 rfl) rfl (by show 2 * 0 + _ ≤ _; exact Nat.le_of_eq rfl) (hb hby at_25) (fun _ _ => ⟨rfl, e0, (by decide : 0 + 0 ≤ _), (by decide : 0 + 0 ≤ _)⟩)
      dsimp only [Pt.U, Pt.locs, Pt.cells, Pt.slots] at X24 l24 y24 z24 st24 hQ24
      subst l24 y24 z24
      obtain ⟨rfl, N24q, E24⟩ := hQ24
      have N24 := Fr.app N0 N24q
      refine ownW_step (T' := T24) (f' := (mkF m 28 #[.val (.int p1), .val (.int p2), .val (.int (1 : Int32)), .val (.int (0 : Int32)), .unset, .unset, .unset, .unset, .unset, .unset] [(.ref aT)])) (fun t k => st24 t k) ?_
      refine ownW_step (T' := T24) (f' := (mkF m 30 #[.val (.int p1), .val (.int p2), .val (.int (1 : Int32)), .val (.int (0 : Int32)), .val (.ref aT), .unset, .unset, .unset, .unset, .unset] [])) (fun t k => XS.astore X24.here hx rfl (hb hby at_28) rfl rfl (l' := #[.val (.int p1), .val (.int p2), .val (.int (1 : Int32)), .val (.int (0 : Int32)), .val (.ref aT), .unset, .unset, .unset, .unset, .unset]) rfl k) ?_
      refine ownW_step (T' := T24) (f' := (mkF m 31 #[.val (.int p1), .val (.int p2), .val (.int (1 : Int32)), .val (.int (0 : Int32)), .val (.ref aT), .unset, .unset, .unset, .unset, .unset] [(.int (0 : Int32))])) (fun t k => XS.iloadN X24.here hx rfl (hb hby at_30) rfl k) ?_
      obtain ⟨_, _, ⟨T25, L25, k25, n25⟩, -, X25, ⟨Lc25, hQ25, l25, y25, z25⟩, st25⟩ := Jvm.LawKit.callS X24 hx (y := (⟨"com/example/umriss/umriss/runtime/BooleanValue", "of", "(Z)Lcom/example/umriss/umriss/runtime/BooleanValue;"⟩ : MethodName)) hown (mvT hZ (hw _ (List.mem_of_getElem? (i := 0) rfl))) (mvT hZ (hw _ (List.mem_of_getElem? (i := 1) rfl))) (mvT hZ (hw _ (List.mem_of_getElem? (i := 2) rfl))) (mvT hZ (hw _ (List.mem_of_getElem? (i := 3) rfl))) (by decide) (backOf (W := 0) (rm1_0 l Z a0 hw [] h0 n0 Zz aT aF S_T S_F) hZ (hw _ (List.mem_of_getElem? (i := 3) rfl)) (hw _ (List.mem_of_getElem? (i := 2) rfl)) (by decide) (by decide)) (g := (mkF m 31 #[.val (.int p1), .val (.int p2), .val (.int (1 : Int32)), .val (.int (0 : Int32)), .val (.ref aT), .unset, .unset, .unset, .unset, .unset] [(.int (0 : Int32))])) rfl (by rw [hml]; rfl) (argsL := [(.int (0 : Int32))]) (rest := []) (lenOf pd_0_0 rfl) rfl (by show 2 * 0 + _ ≤ _; exact Nat.le_of_eq rfl) (hb hby at_31) (fun _ _ => ⟨rfl, E24, (by decide : 0 + 0 ≤ _), (by decide : 0 + 0 ≤ _)⟩)
      dsimp only [Pt.U, Pt.locs, Pt.cells, Pt.slots] at X25 l25 y25 z25 st25 hQ25
      subst l25 y25 z25
      obtain ⟨rfl, N25q, E25⟩ := hQ25
      have N25 := Fr.app N24 N25q
      refine ownW_step (T' := T25) (f' := (mkF m 34 #[.val (.int p1), .val (.int p2), .val (.int (1 : Int32)), .val (.int (0 : Int32)), .val (.ref aT), .unset, .unset, .unset, .unset, .unset] [(.ref aF)])) (fun t k => st25 t k) ?_
      refine ownW_step (T' := T25) (f' := (mkF m 36 #[.val (.int p1), .val (.int p2), .val (.int (1 : Int32)), .val (.int (0 : Int32)), .val (.ref aT), .val (.ref aF), .unset, .unset, .unset, .unset] [])) (fun t k => XS.astore X25.here hx rfl (hb hby at_34) rfl rfl (l' := #[.val (.int p1), .val (.int p2), .val (.int (1 : Int32)), .val (.int (0 : Int32)), .val (.ref aT), .val (.ref aF), .unset, .unset, .unset, .unset]) rfl k) ?_
      refine ownW_step (T' := T25) (f' := (mkF m 38 #[.val (.int p1), .val (.int p2), .val (.int (1 : Int32)), .val (.int (0 : Int32)), .val (.ref aT), .val (.ref aF), .unset, .unset, .unset, .unset] [(.ref aT)])) (fun t k => XS.aload X25.here hx rfl (hb hby at_36) rfl rfl k) ?_
      refine ownW_step (T' := T25) (f' := (mkF m 41 #[.val (.int p1), .val (.int p2), .val (.int (1 : Int32)), .val (.int (0 : Int32)), .val (.ref aT), .val (.ref aF), .unset, .unset, .unset, .unset] [])) (fun t k => XS.ifnullNo X25.here hx rfl (hb hby at_38) rfl k) ?_
      refine ownW_step (T' := T25) (f' := (mkF m 43 #[.val (.int p1), .val (.int p2), .val (.int (1 : Int32)), .val (.int (0 : Int32)), .val (.ref aT), .val (.ref aF), .unset, .unset, .unset, .unset] [(.ref aF)])) (fun t k => XS.aload X25.here hx rfl (hb hby at_41) rfl rfl k) ?_
      refine ownW_step (T' := T25) (f' := (mkF m 48 #[.val (.int p1), .val (.int p2), .val (.int (1 : Int32)), .val (.int (0 : Int32)), .val (.ref aT), .val (.ref aF), .unset, .unset, .unset, .unset] [])) (fun t k => XS.ifnonnullYes X25.here hx rfl (pc0 := 43) (pc' := 48) rfl (hb hby at_43) rfl (by decide) (by decide) k) ?_
      refine ownW_step (T' := T25) (f' := (mkF m 50 #[.val (.int p1), .val (.int p2), .val (.int (1 : Int32)), .val (.int (0 : Int32)), .val (.ref aT), .val (.ref aF), .unset, .unset, .unset, .unset] [(.ref aT)])) (fun t k => XS.aload X25.here hx rfl (hb hby at_48) rfl rfl k) ?_
      obtain ⟨cq26, kq26, q26a, q26b, q26c⟩ := isOf hZ E25 E_aT
      obtain ⟨_, _, ⟨T26, L26, k26, n26⟩, -, X26, ⟨Lc26, hQ26, l26, y26, z26⟩, st26⟩ := X25.virtualBack hx (y := (⟨"com/example/umriss/umriss/runtime/BooleanValue", "value", "()Z"⟩ : MethodName)) (z := (⟨"com/example/umriss/umriss/runtime/BooleanValue", "value", "()Z"⟩ : MethodName)) hown (mvT hZ (hw _ (List.mem_of_getElem? (i := 8) rfl))) (mvT hZ (hw _ (List.mem_of_getElem? (i := 9) rfl))) (notFace_of_selects (args := #[]) (mvT hZ (hw _ (List.mem_of_getElem? (i := 11) rfl)))) (mvT hZ (hw _ (List.mem_of_getElem? (i := 11) rfl))) (mvT hZ (hw _ (List.mem_of_getElem? (i := 10) rfl))) (by decide) (backOf (W := 0) (rm2_1 l Z a0 hw [] aT h0 n0 Zz F_aT) hZ (hw _ (List.mem_of_getElem? (i := 12) rfl)) (hw _ (List.mem_of_getElem? (i := 2) rfl)) (by decide) (by decide)) q26a q26c (g := (mkF m 50 #[.val (.int p1), .val (.int p2), .val (.int (1 : Int32)), .val (.int (0 : Int32)), .val (.ref aT), .val (.ref aF), .unset, .unset, .unset, .unset] [(.ref aT)])) rfl (by rw [hml]; rfl) (Steps.refl _) (argsL := []) (rest := []) (lenOf pd_0_1 rfl) rfl (by show 2 * 0 + _ ≤ _; exact Nat.le_of_eq rfl) (hb hby at_50) (fun _ _ => ⟨rfl, E25, (by decide : 0 + 0 ≤ _), (by decide : 0 + 0 ≤ _)⟩)
      dsimp only [Pt.U, Pt.locs, Pt.cells, Pt.slots] at X26 l26 y26 z26 st26 hQ26
      subst l26 y26 z26
      obtain ⟨rfl, N26q, E26⟩ := hQ26
      have N26 := Fr.app N25 N26q
      refine ownW_step (T' := T26) (f' := (mkF m 53 #[.val (.int p1), .val (.int p2), .val (.int (1 : Int32)), .val (.int (0 : Int32)), .val (.ref aT), .val (.ref aF), .unset, .unset, .unset, .unset] [(.int (1 : Int32))])) (fun t k => st26.trans k) ?_
      refine ownW_step (T' := T26) (f' := (mkF m 54 #[.val (.int p1), .val (.int p2), .val (.int (1 : Int32)), .val (.int (0 : Int32)), .val (.ref aT), .val (.ref aF), .unset, .unset, .unset, .unset] [(.int (1 : Int32)), (.int (1 : Int32))])) (fun t k => XS.iloadN X26.here hx rfl (hb hby at_53) rfl k) ?_
      refine ownW_step (T' := T26) (f' := (mkF m 57 #[.val (.int p1), .val (.int p2), .val (.int (1 : Int32)), .val (.int (0 : Int32)), .val (.ref aT), .val (.ref aF), .unset, .unset, .unset, .unset] [])) (fun t k => XS.icmpNo X26.here hx rfl (hb hby at_54) rfl (teq (by decide : (1 : Int32) = (1 : Int32))).2 k) ?_
      refine ownW_step (T' := T26) (f' := (mkF m 59 #[.val (.int p1), .val (.int p2), .val (.int (1 : Int32)), .val (.int (0 : Int32)), .val (.ref aT), .val (.ref aF), .unset, .unset, .unset, .unset] [(.ref aF)])) (fun t k => XS.aload X26.here hx rfl (hb hby at_57) rfl rfl k) ?_
      obtain ⟨cq27, kq27, q27a, q27b, q27c⟩ := isOf hZ E26 E_aF
      obtain ⟨_, _, ⟨T27, L27, k27, n27⟩, -, X27, ⟨Lc27, hQ27, l27, y27, z27⟩, st27⟩ := X26.virtualBack hx (y := (⟨"com/example/umriss/umriss/runtime/BooleanValue", "value", "()Z"⟩ : MethodName)) (z := (⟨"com/example/umriss/umriss/runtime/BooleanValue", "value", "()Z"⟩ : MethodName)) hown (mvT hZ (hw _ (List.mem_of_getElem? (i := 8) rfl))) (mvT hZ (hw _ (List.mem_of_getElem? (i := 9) rfl))) (notFace_of_selects (args := #[]) (mvT hZ (hw _ (List.mem_of_getElem? (i := 11) rfl)))) (mvT hZ (hw _ (List.mem_of_getElem? (i := 11) rfl))) (mvT hZ (hw _ (List.mem_of_getElem? (i := 10) rfl))) (by decide) (backOf (W := 0) (rm2_0 l Z a0 hw [] aF h0 n0 Zz F_aF) hZ (hw _ (List.mem_of_getElem? (i := 12) rfl)) (hw _ (List.mem_of_getElem? (i := 2) rfl)) (by decide) (by decide)) q27a q27c (g := (mkF m 59 #[.val (.int p1), .val (.int p2), .val (.int (1 : Int32)), .val (.int (0 : Int32)), .val (.ref aT), .val (.ref aF), .unset, .unset, .unset, .unset] [(.ref aF)])) rfl (by rw [hml]; rfl) (Steps.refl _) (argsL := []) (rest := []) (lenOf pd_0_1 rfl) rfl (by show 2 * 0 + _ ≤ _; exact Nat.le_of_eq rfl) (hb hby at_59) (fun _ _ => ⟨rfl, E26, (by decide : 0 + 0 ≤ _), (by decide : 0 + 0 ≤ _)⟩)
      dsimp only [Pt.U, Pt.locs, Pt.cells, Pt.slots] at X27 l27 y27 z27 st27 hQ27
      subst l27 y27 z27
      obtain ⟨rfl, N27q, E27⟩ := hQ27
      have N27 := Fr.app N26 N27q
      refine ownW_step (T' := T27) (f' := (mkF m 62 #[.val (.int p1), .val (.int p2), .val (.int (1 : Int32)), .val (.int (0 : Int32)), .val (.ref aT), .val (.ref aF), .unset, .unset, .unset, .unset] [(.int (0 : Int32))])) (fun t k => st27.trans k) ?_
      refine ownW_step (T' := T27) (f' := (mkF m 63 #[.val (.int p1), .val (.int p2), .val (.int (1 : Int32)), .val (.int (0 : Int32)), .val (.ref aT), .val (.ref aF), .unset, .unset, .unset, .unset] [(.int (0 : Int32)), (.int (0 : Int32))])) (fun t k => XS.iloadN X27.here hx rfl (hb hby at_62) rfl k) ?_
      refine ownW_step (T' := T27) (f' := (mkF m 66 #[.val (.int p1), .val (.int p2), .val (.int (1 : Int32)), .val (.int (0 : Int32)), .val (.ref aT), .val (.ref aF), .unset, .unset, .unset, .unset] [])) (fun t k => XS.icmpNo X27.here hx rfl (hb hby at_63) rfl (teq (by decide : (0 : Int32) = (0 : Int32))).2 k) ?_
      refine ownW_step (T' := T27) (f' := (mkF m 67 #[.val (.int p1), .val (.int p2), .val (.int (1 : Int32)), .val (.int (0 : Int32)), .val (.ref aT), .val (.ref aF), .unset, .unset, .unset, .unset] [(.int (1 : Int32))])) (fun t k => XS.iconst X27.here hx rfl (hb hby at_66) k) ?_
      refine ownW_step (T' := T27) (f' := (mkF m 71 #[.val (.int p1), .val (.int p2), .val (.int (1 : Int32)), .val (.int (0 : Int32)), .val (.ref aT), .val (.ref aF), .unset, .unset, .unset, .unset] [(.int (1 : Int32))])) (fun t k => XS.goto X27.here hx rfl (pc0 := 67) (pc' := 71) rfl (hb hby at_67) (by decide) (by decide) k) ?_
      refine ownW_step (T' := T27) (f' := (mkF m 73 #[.val (.int p1), .val (.int p2), .val (.int (1 : Int32)), .val (.int (0 : Int32)), .val (.ref aT), .val (.ref aF), .val (.int (1 : Int32)), .unset, .unset, .unset] [])) (fun t k => XS.istore X27.here hx rfl (hb hby at_71) rfl (l' := #[.val (.int p1), .val (.int p2), .val (.int (1 : Int32)), .val (.int (0 : Int32)), .val (.ref aT), .val (.ref aF), .val (.int (1 : Int32)), .unset, .unset, .unset]) rfl k) ?_
      refine ownW_step (T' := T27) (f' := (mkF m 75 #[.val (.int p1), .val (.int p2), .val (.int (1 : Int32)), .val (.int (0 : Int32)), .val (.ref aT), .val (.ref aF), .val (.int (1 : Int32)), .unset, .unset, .unset] [(.int (1 : Int32))])) (fun t k => XS.iload X27.here hx rfl (hb hby at_73) rfl k) ?_
      refine ownW_step (T' := T27) (f' := (mkF m 78 #[.val (.int p1), .val (.int p2), .val (.int (1 : Int32)), .val (.int (0 : Int32)), .val (.ref aT), .val (.ref aF), .val (.int (1 : Int32)), .unset, .unset, .unset] [])) (fun t k => XS.ifNo X27.here hx rfl (hb hby at_75) rfl ((if0 _ _).trans (feq (by decide : ¬ ((1 : Int32) = (0 : Int32)))).1) k) ?_
      refine ownW_step (T' := T27) (f' := (mkF m 80 #[.val (.int p1), .val (.int p2), .val (.int (1 : Int32)), .val (.int (0 : Int32)), .val (.ref aT), .val (.ref aF), .val (.int (1 : Int32)), .unset, .unset, .unset] [(.ref aT)])) (fun t k => XS.aload X27.here hx rfl (hb hby at_78) rfl rfl k) ?_
      obtain ⟨cq28, kq28, q28a, q28b, q28c⟩ := isOf hZ E27 E_aT
      obtain ⟨_, _, ⟨T28, L28, k28, n28⟩, -, X28, ⟨Lc28, hQ28, l28, y28, z28⟩, st28⟩ := X27.virtualBack hx (y := (⟨"com/example/umriss/umriss/runtime/BooleanValue", "kind", "()Lcom/example/umriss/umriss/runtime/Value$Kind;"⟩ : MethodName)) (z := (⟨"com/example/umriss/umriss/runtime/BooleanValue", "kind", "()Lcom/example/umriss/umriss/runtime/Value$Kind;"⟩ : MethodName)) hown (mvT hZ (hw _ (List.mem_of_getElem? (i := 15) rfl))) (mvT hZ (hw _ (List.mem_of_getElem? (i := 16) rfl))) (notFace_of_selects (args := #[]) (mvT hZ (hw _ (List.mem_of_getElem? (i := 18) rfl)))) (mvT hZ (hw _ (List.mem_of_getElem? (i := 18) rfl))) (mvT hZ (hw _ (List.mem_of_getElem? (i := 17) rfl))) (by decide) (backOf (W := 0) (rm3 l Z a0 hw [] aT h0 n0 Zz aK S_K) hZ (hw _ (List.mem_of_getElem? (i := 19) rfl)) (hw _ (List.mem_of_getElem? (i := 2) rfl)) (by decide) (by decide)) q28a q28c (g := (mkF m 80 #[.val (.int p1), .val (.int p2), .val (.int (1 : Int32)), .val (.int (0 : Int32)), .val (.ref aT), .val (.ref aF), .val (.int (1 : Int32)), .unset, .unset, .unset] [(.ref aT)])) rfl (by rw [hml]; rfl) (Steps.refl _) (argsL := []) (rest := []) (lenOf pd_0_2 rfl) rfl (by show 2 * 0 + _ ≤ _; exact Nat.le_of_eq rfl) (hb hby at_80) (fun _ _ => ⟨rfl, E27, (by decide : 0 + 0 ≤ _), (by decide : 0 + 0 ≤ _)⟩)
      dsimp only [Pt.U, Pt.locs, Pt.cells, Pt.slots] at X28 l28 y28 z28 st28 hQ28
      subst l28 y28 z28
      obtain ⟨rfl, N28q, E28⟩ := hQ28
      have N28 := Fr.app N27 N28q
      refine ownW_step (T' := T28) (f' := (mkF m 83 #[.val (.int p1), .val (.int p2), .val (.int (1 : Int32)), .val (.int (0 : Int32)), .val (.ref aT), .val (.ref aF), .val (.int (1 : Int32)), .unset, .unset, .unset] [(.ref aK)])) (fun t k => st28.trans k) ?_
      obtain ⟨T29, X29, e29, st29⟩ := getS2 X28 hx hZ hown (host := "") (Or.inl (hw _ (List.mem_of_getElem? (i := 23) rfl))) Via.refl E28 S_K (g := (mkF m 83 #[.val (.int p1), .val (.int p2), .val (.int (1 : Int32)), .val (.int (0 : Int32)), .val (.ref aT), .val (.ref aF), .val (.int (1 : Int32)), .unset, .unset, .unset] [(.ref aK)])) rfl (hb hby at_83)
      refine ownW_step (T' := T29) (f' := (mkF m 86 #[.val (.int p1), .val (.int p2), .val (.int (1 : Int32)), .val (.int (0 : Int32)), .val (.ref aT), .val (.ref aF), .val (.int (1 : Int32)), .unset, .unset, .unset] [(.ref aK), (.ref aK)])) (fun t k => st29 t k) ?_
      refine ownW_step (T' := T29) (f' := (mkF m 89 #[.val (.int p1), .val (.int p2), .val (.int (1 : Int32)), .val (.int (0 : Int32)), .val (.ref aT), .val (.ref aF), .val (.int (1 : Int32)), .unset, .unset, .unset] [])) (fun t k => Jvm.RoadKit.acmp (g := (mkF m 86 #[.val (.int p1), .val (.int p2), .val (.int (1 : Int32)), .val (.int (0 : Int32)), .val (.ref aT), .val (.ref aF), .val (.int (1 : Int32)), .unset, .unset, .unset] [(.ref aK), (.ref aK)])) X29 hx rfl rfl rfl (pc0 := 86) (pc' := 89) (same := true) rfl (hb hby at_86) rfl (decide_eq_true rfl) (by decide) (by decide) k) ?_
      refine ownW_step (T' := T29) (f' := (mkF m 90 #[.val (.int p1), .val (.int p2), .val (.int (1 : Int32)), .val (.int (0 : Int32)), .val (.ref aT), .val (.ref aF), .val (.int (1 : Int32)), .unset, .unset, .unset] [(.int (1 : Int32))])) (fun t k => XS.iconst X29.here hx rfl (hb hby at_89) k) ?_
      refine ownW_step (T' := T29) (f' := (mkF m 94 #[.val (.int p1), .val (.int p2), .val (.int (1 : Int32)), .val (.int (0 : Int32)), .val (.ref aT), .val (.ref aF), .val (.int (1 : Int32)), .unset, .unset, .unset] [(.int (1 : Int32))])) (fun t k => XS.goto X29.here hx rfl (pc0 := 90) (pc' := 94) rfl (hb hby at_90) (by decide) (by decide) k) ?_
      refine ownW_step (T' := T29) (f' := (mkF m 96 #[.val (.int p1), .val (.int p2), .val (.int (1 : Int32)), .val (.int (0 : Int32)), .val (.ref aT), .val (.ref aF), .val (.int (1 : Int32)), .unset, .unset, .unset] [])) (fun t k => XS.istore X29.here hx rfl (hb hby at_94) rfl (l' := #[.val (.int p1), .val (.int p2), .val (.int (1 : Int32)), .val (.int (0 : Int32)), .val (.ref aT), .val (.ref aF), .val (.int (1 : Int32)), .unset, .unset, .unset]) rfl k) ?_
      refine ownW_step (T' := T29) (f' := (mkF m 98 #[.val (.int p1), .val (.int p2), .val (.int (1 : Int32)), .val (.int (0 : Int32)), .val (.ref aT), .val (.ref aF), .val (.int (1 : Int32)), .unset, .unset, .unset] [(.ref aT)])) (fun t k => XS.aload X29.here hx rfl (hb hby at_96) rfl rfl k) ?_
      refine ownW_step (T' := T29) (f' := (mkF m 100 #[.val (.int p1), .val (.int p2), .val (.int (1 : Int32)), .val (.int (0 : Int32)), .val (.ref aT), .val (.ref aF), .val (.int (1 : Int32)), .unset, .unset, .unset] [(.ref aF), (.ref aT)])) (fun t k => XS.aload X29.here hx rfl (hb hby at_98) rfl rfl k) ?_
      obtain ⟨cq30, kq30, q30a, q30b, q30c⟩ := isOf hZ e29 E_aT
      obtain ⟨_, _, ⟨T30, L30, k30, n30⟩, -, X30, ⟨Lc30, hQ30, l30, y30, z30⟩, st30⟩ := X29.virtualBackUp hx (x := (⟨"com/example/umriss/umriss/runtime/BooleanValue", "compareTo", "(Lcom/example/umriss/umriss/runtime/Value;)I"⟩ : MethodName)) (y := (⟨"com/example/umriss/umriss/runtime/Value", "compareTo", "(Lcom/example/umriss/umriss/runtime/Value;)I"⟩ : MethodName)) (owner := "com/example/umriss/umriss/runtime/Value") hown (mvT hZ (hw _ (List.mem_of_getElem? (i := 24) rfl))) (mvT hZ (hw _ (List.mem_of_getElem? (i := 25) rfl))) (mvT hZ (hw _ (List.mem_of_getElem? (i := 26) rfl))) (by decide) (mvT hZ (hw _ (List.mem_of_getElem? (i := 28) rfl))) (mvT hZ (hw _ (List.mem_of_getElem? (i := 27) rfl))) (backOf (W := 0) (rm4 l Z a0 hw [] aT aF h0 n0 Zz (1 : Int32) (0 : Int32) F_aT E_aT F_aF E_aF aK S_K E_aK F_o mr hM) hZ (hw _ (List.mem_of_getElem? (i := 30) rfl)) (hw _ (List.mem_of_getElem? (i := 29) rfl)) (by decide) (by decide)) q30a q30c (g := (mkF m 100 #[.val (.int p1), .val (.int p2), .val (.int (1 : Int32)), .val (.int (0 : Int32)), .val (.ref aT), .val (.ref aF), .val (.int (1 : Int32)), .unset, .unset, .unset] [(.ref aF), (.ref aT)])) rfl (by rw [hml]; rfl) (Steps.refl _) (argsL := [(.ref aF)]) (rest := []) (lenOf pd_0_3 rfl) rfl (by show 2 * 0 + _ ≤ _; exact Nat.le_of_eq rfl) (hb hby at_100) (fun _ _ => ⟨rfl, e29, (by decide : 0 + 0 ≤ _), (by decide : 0 + 0 ≤ _)⟩)
      dsimp only [Pt.U, Pt.locs, Pt.cells, Pt.slots] at X30 l30 y30 z30 st30 hQ30
      subst l30 y30 z30
      obtain ⟨rfl, N30q, E30⟩ := hQ30
      have N30 := Fr.app N28 N30q
      refine ownW_step (T' := T30) (f' := (mkF m 103 #[.val (.int p1), .val (.int p2), .val (.int (1 : Int32)), .val (.int (0 : Int32)), .val (.ref aT), .val (.ref aF), .val (.int (1 : Int32)), .unset, .unset, .unset] [(.int (own_bcmp (1 : Int32) (0 : Int32)))])) (fun t k => st30.trans k) ?_
      refine ownW_step (T' := T30) (f' := (mkF m 105 #[.val (.int p1), .val (.int p2), .val (.int (1 : Int32)), .val (.int (0 : Int32)), .val (.ref aT), .val (.ref aF), .val (.int (1 : Int32)), .val (.int (own_bcmp (1 : Int32) (0 : Int32))), .unset, .unset] [])) (fun t k => XS.istore X30.here hx rfl (hb hby at_103) rfl (l' := #[.val (.int p1), .val (.int p2), .val (.int (1 : Int32)), .val (.int (0 : Int32)), .val (.ref aT), .val (.ref aF), .val (.int (1 : Int32)), .val (.int (own_bcmp (1 : Int32) (0 : Int32))), .unset, .unset]) rfl k) ?_
      refine ownW_step (T' := T30) (f' := (mkF m 106 #[.val (.int p1), .val (.int p2), .val (.int (1 : Int32)), .val (.int (0 : Int32)), .val (.ref aT), .val (.ref aF), .val (.int (1 : Int32)), .val (.int (own_bcmp (1 : Int32) (0 : Int32))), .unset, .unset] [(.int (1 : Int32))])) (fun t k => XS.iloadN X30.here hx rfl (hb hby at_105) rfl k) ?_
      refine ownW_step (T' := T30) (f' := (mkF m 107 #[.val (.int p1), .val (.int p2), .val (.int (1 : Int32)), .val (.int (0 : Int32)), .val (.ref aT), .val (.ref aF), .val (.int (1 : Int32)), .val (.int (own_bcmp (1 : Int32) (0 : Int32))), .unset, .unset] [(.int (0 : Int32)), (.int (1 : Int32))])) (fun t k => XS.iloadN X30.here hx rfl (hb hby at_106) rfl k) ?_
      refine ownW_step (T' := T30) (f' := (mkF m 125 #[.val (.int p1), .val (.int p2), .val (.int (1 : Int32)), .val (.int (0 : Int32)), .val (.ref aT), .val (.ref aF), .val (.int (1 : Int32)), .val (.int (own_bcmp (1 : Int32) (0 : Int32))), .unset, .unset] [])) (fun t k => XS.icmpYes X30.here hx rfl (pc0 := 107) (pc' := 125) rfl (hb hby at_107) rfl (feq (by decide : ¬ ((1 : Int32) = (0 : Int32)))).2 (by decide) (by decide) k) ?_
      refine ownW_step (T' := T30) (f' := (mkF m 126 #[.val (.int p1), .val (.int p2), .val (.int (1 : Int32)), .val (.int (0 : Int32)), .val (.ref aT), .val (.ref aF), .val (.int (1 : Int32)), .val (.int (own_bcmp (1 : Int32) (0 : Int32))), .unset, .unset] [(.int (0 : Int32))])) (fun t k => XS.iloadN X30.here hx rfl (hb hby at_125) rfl k) ?_
      refine ownW_step (T' := T30) (f' := (mkF m 144 #[.val (.int p1), .val (.int p2), .val (.int (1 : Int32)), .val (.int (0 : Int32)), .val (.ref aT), .val (.ref aF), .val (.int (1 : Int32)), .val (.int (own_bcmp (1 : Int32) (0 : Int32))), .unset, .unset] [])) (fun t k => XS.ifYes X30.here hx rfl (pc0 := 126) (pc' := 144) rfl (hb hby at_126) rfl ((if0 _ _).trans (teq (by decide : (0 : Int32) = (0 : Int32))).1) (by decide) (by decide) k) ?_
      refine ownW_step (T' := T30) (f' := (mkF m 146 #[.val (.int p1), .val (.int p2), .val (.int (1 : Int32)), .val (.int (0 : Int32)), .val (.ref aT), .val (.ref aF), .val (.int (1 : Int32)), .val (.int (own_bcmp (1 : Int32) (0 : Int32))), .unset, .unset] [(.int (own_bcmp (1 : Int32) (0 : Int32)))])) (fun t k => XS.iload X30.here hx rfl (hb hby at_144) rfl k) ?_
      refine ownW_step (T' := T30) (f' := (mkF m 149 #[.val (.int p1), .val (.int p2), .val (.int (1 : Int32)), .val (.int (0 : Int32)), .val (.ref aT), .val (.ref aF), .val (.int (1 : Int32)), .val (.int (own_bcmp (1 : Int32) (0 : Int32))), .unset, .unset] [])) (fun t k => XS.ifNo X30.here hx rfl (hb hby at_146) rfl ((if0 _ _).trans (tlt (by decide : (0 : Int32) < (own_bcmp (1 : Int32) (0 : Int32)))).2.2.2) k) ?_
      refine ownW_step (T' := T30) (f' := (mkF m 150 #[.val (.int p1), .val (.int p2), .val (.int (1 : Int32)), .val (.int (0 : Int32)), .val (.ref aT), .val (.ref aF), .val (.int (1 : Int32)), .val (.int (own_bcmp (1 : Int32) (0 : Int32))), .unset, .unset] [(.int (1 : Int32))])) (fun t k => XS.iconst X30.here hx rfl (hb hby at_149) k) ?_
      refine ownW_step (T' := T30) (f' := (mkF m 154 #[.val (.int p1), .val (.int p2), .val (.int (1 : Int32)), .val (.int (0 : Int32)), .val (.ref aT), .val (.ref aF), .val (.int (1 : Int32)), .val (.int (own_bcmp (1 : Int32) (0 : Int32))), .unset, .unset] [(.int (1 : Int32))])) (fun t k => XS.goto X30.here hx rfl (pc0 := 150) (pc' := 154) rfl (hb hby at_150) (by decide) (by decide) k) ?_
      refine ownW_step (T' := T30) (f' := (mkF m 156 #[.val (.int p1), .val (.int p2), .val (.int (1 : Int32)), .val (.int (0 : Int32)), .val (.ref aT), .val (.ref aF), .val (.int (1 : Int32)), .val (.int (own_bcmp (1 : Int32) (0 : Int32))), .val (.int (1 : Int32)), .unset] [])) (fun t k => XS.istore X30.here hx rfl (hb hby at_154) rfl (l' := #[.val (.int p1), .val (.int p2), .val (.int (1 : Int32)), .val (.int (0 : Int32)), .val (.ref aT), .val (.ref aF), .val (.int (1 : Int32)), .val (.int (own_bcmp (1 : Int32) (0 : Int32))), .val (.int (1 : Int32)), .unset]) rfl k) ?_
      refine ownW_step (T' := T30) (f' := (mkF m 158 #[.val (.int p1), .val (.int p2), .val (.int (1 : Int32)), .val (.int (0 : Int32)), .val (.ref aT), .val (.ref aF), .val (.int (1 : Int32)), .val (.int (own_bcmp (1 : Int32) (0 : Int32))), .val (.int (1 : Int32)), .unset] [(.int (1 : Int32))])) (fun t k => XS.iload X30.here hx rfl (hb hby at_156) rfl k) ?_
      refine ownW_step (T' := T30) (f' := (mkF m 161 #[.val (.int p1), .val (.int p2), .val (.int (1 : Int32)), .val (.int (0 : Int32)), .val (.ref aT), .val (.ref aF), .val (.int (1 : Int32)), .val (.int (own_bcmp (1 : Int32) (0 : Int32))), .val (.int (1 : Int32)), .unset] [])) (fun t k => XS.ifNo X30.here hx rfl (hb hby at_158) rfl ((if0 _ _).trans (feq (by decide : ¬ ((1 : Int32) = (0 : Int32)))).1) k) ?_
      refine ownW_step (T' := T30) (f' := (mkF m 163 #[.val (.int p1), .val (.int p2), .val (.int (1 : Int32)), .val (.int (0 : Int32)), .val (.ref aT), .val (.ref aF), .val (.int (1 : Int32)), .val (.int (own_bcmp (1 : Int32) (0 : Int32))), .val (.int (1 : Int32)), .unset] [(.int (1 : Int32))])) (fun t k => XS.iload X30.here hx rfl (hb hby at_161) rfl k) ?_
      refine ownW_step (T' := T30) (f' := (mkF m 166 #[.val (.int p1), .val (.int p2), .val (.int (1 : Int32)), .val (.int (0 : Int32)), .val (.ref aT), .val (.ref aF), .val (.int (1 : Int32)), .val (.int (own_bcmp (1 : Int32) (0 : Int32))), .val (.int (1 : Int32)), .unset] [])) (fun t k => XS.ifNo X30.here hx rfl (hb hby at_163) rfl ((if0 _ _).trans (feq (by decide : ¬ ((1 : Int32) = (0 : Int32)))).1) k) ?_
      refine ownW_step (T' := T30) (f' := (mkF m 167 #[.val (.int p1), .val (.int p2), .val (.int (1 : Int32)), .val (.int (0 : Int32)), .val (.ref aT), .val (.ref aF), .val (.int (1 : Int32)), .val (.int (own_bcmp (1 : Int32) (0 : Int32))), .val (.int (1 : Int32)), .unset] [(.int (1 : Int32))])) (fun t k => XS.iconst X30.here hx rfl (hb hby at_166) k) ?_
      refine ownW_step (T' := T30) (f' := (mkF m 171 #[.val (.int p1), .val (.int p2), .val (.int (1 : Int32)), .val (.int (0 : Int32)), .val (.ref aT), .val (.ref aF), .val (.int (1 : Int32)), .val (.int (own_bcmp (1 : Int32) (0 : Int32))), .val (.int (1 : Int32)), .unset] [(.int (1 : Int32))])) (fun t k => XS.goto X30.here hx rfl (pc0 := 167) (pc' := 171) rfl (hb hby at_167) (by decide) (by decide) k) ?_
      refine ownW_step (T' := T30) (f' := (mkF m 173 #[.val (.int p1), .val (.int p2), .val (.int (1 : Int32)), .val (.int (0 : Int32)), .val (.ref aT), .val (.ref aF), .val (.int (1 : Int32)), .val (.int (own_bcmp (1 : Int32) (0 : Int32))), .val (.int (1 : Int32)), .unset] [])) (fun t k => XS.istore X30.here hx rfl (hb hby at_171) rfl (l' := #[.val (.int p1), .val (.int p2), .val (.int (1 : Int32)), .val (.int (0 : Int32)), .val (.ref aT), .val (.ref aF), .val (.int (1 : Int32)), .val (.int (own_bcmp (1 : Int32) (0 : Int32))), .val (.int (1 : Int32)), .unset]) rfl k) ?_
      refine ownW_step (T' := T30) (f' := (mkF m 175 #[.val (.int p1), .val (.int p2), .val (.int (1 : Int32)), .val (.int (0 : Int32)), .val (.ref aT), .val (.ref aF), .val (.int (1 : Int32)), .val (.int (own_bcmp (1 : Int32) (0 : Int32))), .val (.int (1 : Int32)), .unset] [(.ref aT)])) (fun t k => XS.aload X30.here hx rfl (hb hby at_173) rfl rfl k) ?_
      obtain ⟨cq31, kq31, q31a, q31b, q31c⟩ := isOf hZ E30 E_aT
      obtain ⟨_, _, ⟨T31, L31, k31, n31⟩, -, X31, ⟨Lc31, hQ31, l31, y31, z31⟩, st31⟩ := X30.virtualBackUp hx (x := (⟨"com/example/umriss/umriss/runtime/BooleanValue", "toString", "()Ljava/lang/String;"⟩ : MethodName)) (y := (⟨"com/example/umriss/umriss/runtime/Value", "toString", "()Ljava/lang/String;"⟩ : MethodName)) (owner := "com/example/umriss/umriss/runtime/Value") hown (mvT hZ (hw _ (List.mem_of_getElem? (i := 60) rfl))) (mvT hZ (hw _ (List.mem_of_getElem? (i := 61) rfl))) (mvT hZ (hw _ (List.mem_of_getElem? (i := 62) rfl))) (by decide) (mvT hZ (hw _ (List.mem_of_getElem? (i := 64) rfl))) (mvT hZ (hw _ (List.mem_of_getElem? (i := 63) rfl))) (backOf (W := 0) (rm8_1 l Z a0 hw [] aT h0 n0 Zz F_aT E_aT cs S_CS hcs) hZ (hw _ (List.mem_of_getElem? (i := 65) rfl)) (hw _ (List.mem_of_getElem? (i := 29) rfl)) (by decide) (by decide)) q31a q31c (g := (mkF m 175 #[.val (.int p1), .val (.int p2), .val (.int (1 : Int32)), .val (.int (0 : Int32)), .val (.ref aT), .val (.ref aF), .val (.int (1 : Int32)), .val (.int (own_bcmp (1 : Int32) (0 : Int32))), .val (.int (1 : Int32)), .unset] [(.ref aT)])) rfl (by rw [hml]; rfl) (Steps.refl _) (argsL := []) (rest := []) (lenOf pd_0_4 rfl) rfl (by show 2 * 0 + _ ≤ _; exact Nat.le_of_eq rfl) (hb hby at_175) (fun _ _ => ⟨rfl, E30, (by decide : 0 + 4 ≤ _), (by decide : 0 + 28 ≤ _)⟩)
      dsimp only [Pt.U, Pt.locs, Pt.cells, Pt.slots] at X31 l31 y31 z31 st31 hQ31
      subst l31 y31 z31
      obtain ⟨rr31, rb31, rk31, rfl, N31q, K31, Er31, Fc31, Fv31, Vr31⟩ := hQ31
      have N31 := Fr.app N30 N31q
      replace S_T := own_sta_keep S_T K31 all0
      replace S_F := own_sta_keep S_F K31 all0
      replace S_K := own_sta_keep S_K K31 all0
      replace S_CS := own_sta_keep S_CS K31 all0
      replace E_aT := E_aT.keep K31
      replace E_aF := E_aF.keep K31
      replace E_aK := E_aK.keep K31
      replace F_aT := F_aT.keep K31 nin0
      replace F_aF := F_aF.keep K31 nin0
      replace F_o := F_o.keep K31 nin0
      replace Zz := Nat.le_trans Zz K31.1
      replace Kp := Kp.trans K31 all0
      refine ownW_step (T' := T31) (f' := (mkF m 178 #[.val (.int p1), .val (.int p2), .val (.int (1 : Int32)), .val (.int (0 : Int32)), .val (.ref aT), .val (.ref aF), .val (.int (1 : Int32)), .val (.int (own_bcmp (1 : Int32) (0 : Int32))), .val (.int (1 : Int32)), .unset] [(.ref rr31)])) (fun t k => st31.trans k) ?_
      refine ownW_step (T' := T31) (f' := (mkF m 180 #[.val (.int p1), .val (.int p2), .val (.int (1 : Int32)), .val (.int (0 : Int32)), .val (.ref aT), .val (.ref aF), .val (.int (1 : Int32)), .val (.int (own_bcmp (1 : Int32) (0 : Int32))), .val (.int (1 : Int32)), .val (.ref rr31)] [])) (fun t k => XS.astore X31.here hx rfl (hb hby at_178) rfl rfl (l' := #[.val (.int p1), .val (.int p2), .val (.int (1 : Int32)), .val (.int (0 : Int32)), .val (.ref aT), .val (.ref aF), .val (.int (1 : Int32)), .val (.int (own_bcmp (1 : Int32) (0 : Int32))), .val (.int (1 : Int32)), .val (.ref rr31)]) rfl k) ?_
      refine ownW_step (T' := T31) (f' := (mkF m 182 #[.val (.int p1), .val (.int p2), .val (.int (1 : Int32)), .val (.int (0 : Int32)), .val (.ref aT), .val (.ref aF), .val (.int (1 : Int32)), .val (.int (own_bcmp (1 : Int32) (0 : Int32))), .val (.int (1 : Int32)), .val (.ref rr31)] [(.int (1 : Int32))])) (fun t k => XS.iload X31.here hx rfl (hb hby at_180) rfl k) ?_
      refine ownW_step (T' := T31) (f' := (mkF m 185 #[.val (.int p1), .val (.int p2), .val (.int (1 : Int32)), .val (.int (0 : Int32)), .val (.ref aT), .val (.ref aF), .val (.int (1 : Int32)), .val (.int (own_bcmp (1 : Int32) (0 : Int32))), .val (.int (1 : Int32)), .val (.ref rr31)] [])) (fun t k => XS.ifNo X31.here hx rfl (hb hby at_182) rfl ((if0 _ _).trans (feq (by decide : ¬ ((1 : Int32) = (0 : Int32)))).1) k) ?_
      refine ownW_step (T' := T31) (f' := (mkF m 187 #[.val (.int p1), .val (.int p2), .val (.int (1 : Int32)), .val (.int (0 : Int32)), .val (.ref aT), .val (.ref aF), .val (.int (1 : Int32)), .val (.int (own_bcmp (1 : Int32) (0 : Int32))), .val (.int (1 : Int32)), .val (.ref rr31)] [(.ref rr31)])) (fun t k => XS.aload X31.here hx rfl (hb hby at_185) rfl rfl k) ?_
      refine ownW_step (T' := T31) (f' := (mkF m 188 #[.val (.int p1), .val (.int p2), .val (.int (1 : Int32)), .val (.int (0 : Int32)), .val (.ref aT), .val (.ref aF), .val (.int (1 : Int32)), .val (.int (own_bcmp (1 : Int32) (0 : Int32))), .val (.int (1 : Int32)), .val (.ref rr31)] [(.int (1 : Int32)), (.ref rr31)])) (fun t k => XS.iloadN X31.here hx rfl (hb hby at_187) rfl k) ?_
      refine ownW_step (T' := T31) (f' := (mkF m 191 #[.val (.int p1), .val (.int p2), .val (.int (1 : Int32)), .val (.int (0 : Int32)), .val (.ref aT), .val (.ref aF), .val (.int (1 : Int32)), .val (.int (own_bcmp (1 : Int32) (0 : Int32))), .val (.int (1 : Int32)), .val (.ref rr31)] [(.ref rr31)])) (fun t k => XS.ifNo X31.here hx rfl (hb hby at_188) rfl ((if0 _ _).trans (feq (by decide : ¬ ((1 : Int32) = (0 : Int32)))).1) k) ?_
      obtain ⟨la32, T32, h32, k132, lb32, lk32, X32, e32, E32, hS32, hk32, hZ2, hown2, LE32, LC32, LV32, LA32, -, -, IB32, st32⟩ := ldcSV (s := s) (vm0 := s.vm) (Z := Z) (a0 := a0) X31 hx hZ hown (hw _ (List.mem_of_getElem? (i := 180) rfl)) (fun d hd => by simp only [Bundle.stringAtoms, Bundle.sN, List.mem_cons, List.not_mem_nil, or_false] at hd; rcases hd with rfl | rfl | rfl | rfl | rfl | rfl | rfl <;> first | exact (hw _ (List.mem_of_getElem? (i := 82) rfl)) | exact (hw _ (List.mem_of_getElem? (i := 121) rfl)) | exact (hw _ (List.mem_of_getElem? (i := 83) rfl)) | exact (hw _ (List.mem_of_getElem? (i := 165) rfl)) | exact (hw _ (List.mem_of_getElem? (i := 145) rfl)) | exact (hw _ (List.mem_of_getElem? (i := 167) rfl)) | exact (hw _ (List.mem_of_getElem? (i := 168) rfl))) rfl ((State.WarmedH.refl s).since T31.heap.size) (Nat.le_refl _) (by rw [hUZ, ← hn0]; exact N31) (fun _ _ q => by rw [hUZ]; exact q) (by rw [hUZ]; exact IB.start) (by simp) hl35 hcw (vs := [(.int (116 : Int32)), (.int (114 : Int32)), (.int (117 : Int32)), (.int (101 : Int32))]) (z := (4 : Int32)) ⟨by decide, rfl⟩ (by decide) rfl (g := (mkF m 191 #[.val (.int p1), .val (.int p2), .val (.int (1 : Int32)), .val (.int (0 : Int32)), .val (.ref aT), .val (.ref aF), .val (.int (1 : Int32)), .val (.int (own_bcmp (1 : Int32) (0 : Int32))), .val (.int (1 : Int32)), .val (.ref rr31)] [(.ref rr31)])) rfl (hb hby at_191) (n := 16) (by decide) (by decide) (by decide) (by decide)
      replace S_T := S_T.ext E32
      replace S_F := S_F.ext E32
      replace S_K := S_K.ext E32
      replace S_CS := S_CS.ext E32
      replace E_aT := E_aT.ext E32
      replace E_aF := E_aF.ext E32
      replace E_aK := E_aK.ext E32
      replace F_aT := F_aT.ext E32
      replace F_aF := F_aF.ext E32
      replace F_o := F_o.ext E32
      replace Er31 := Er31.ext E32
      replace Fc31 := Fc31.ext E32
      replace Fv31 := Fv31.ext E32
      replace Vr31 := Vr31.ext E32
      replace Zz := Nat.le_trans Zz E32.1
      replace Kp := Kp.ext E32
      refine ownW_step (T' := T32) (f' := (mkF m 193 #[.val (.int p1), .val (.int p2), .val (.int (1 : Int32)), .val (.int (0 : Int32)), .val (.ref aT), .val (.ref aF), .val (.int (1 : Int32)), .val (.int (own_bcmp (1 : Int32) (0 : Int32))), .val (.int (1 : Int32)), .val (.ref rr31)] [(.ref la32), (.ref rr31)])) (fun t k => st32 t k) ?_
      refine ownW_step (T' := T32) (f' := (mkF m 198 #[.val (.int p1), .val (.int p2), .val (.int (1 : Int32)), .val (.int (0 : Int32)), .val (.ref aT), .val (.ref aF), .val (.int (1 : Int32)), .val (.int (own_bcmp (1 : Int32) (0 : Int32))), .val (.int (1 : Int32)), .val (.ref rr31)] [(.ref la32), (.ref rr31)])) (fun t k => XS.goto X32.here hx rfl (pc0 := 193) (pc' := 198) rfl (hb hby at_193) (by decide) (by decide) k) ?_
      obtain ⟨cq33, kq33, q33a, q33b, q33c⟩ := isOf hZ2 e32 Er31
      obtain ⟨_, _, ⟨T33, L33, k33, n33⟩, -, X33, ⟨Lc33, hQ33, l33, y33, z33⟩, st33⟩ := X32.virtualBack hx (y := (⟨"java/lang/String", "equals", "(Ljava/lang/Object;)Z"⟩ : MethodName)) (z := (⟨"java/lang/String", "equals", "(Ljava/lang/Object;)Z"⟩ : MethodName)) hown2 (mvT hZ2 (hw _ (List.mem_of_getElem? (i := 169) rfl))) (mvT hZ2 (hw _ (List.mem_of_getElem? (i := 170) rfl))) (notFace_of_selects (args := #[]) (mvT hZ2 (hw _ (List.mem_of_getElem? (i := 172) rfl)))) (mvT hZ2 (hw _ (List.mem_of_getElem? (i := 172) rfl))) (mvT hZ2 (hw _ (List.mem_of_getElem? (i := 171) rfl))) (by decide) (backOf (W := 0) (rm27_1 l Z a0 hw [] rr31 la32 h32 n0 Zz rb31 lb32 rk31 lk32 ⟨Er31, Fc31, Fv31, Vr31⟩ ⟨LE32, LC32, LV32, LA32⟩ cs S_CS hcs) hZ2 (hw _ (List.mem_of_getElem? (i := 173) rfl)) (hw _ (List.mem_of_getElem? (i := 82) rfl)) (by decide) (by decide)) q33a q33c (g := (mkF m 198 #[.val (.int p1), .val (.int p2), .val (.int (1 : Int32)), .val (.int (0 : Int32)), .val (.ref aT), .val (.ref aF), .val (.int (1 : Int32)), .val (.int (own_bcmp (1 : Int32) (0 : Int32))), .val (.int (1 : Int32)), .val (.ref rr31)] [(.ref la32), (.ref rr31)])) rfl (by rw [hml]; rfl) (Steps.refl _) (argsL := [(.ref la32)]) (rest := []) (lenOf pd_0_5 rfl) rfl (by show 2 * 0 + _ ≤ _; exact Nat.le_of_eq rfl) (hb hby at_198) (fun _ _ => ⟨rfl, e32, (by decide : 6 + 0 ≤ _), (by decide : 48 + 0 ≤ _)⟩)
      dsimp only [Pt.U, Pt.locs, Pt.cells, Pt.slots] at X33 l33 y33 z33 st33 hQ33
      subst l33 y33 z33
      obtain ⟨rfl, N33q, E33⟩ := hQ33
      have N33 := Fr.app N31 N33q
      refine ownW_step (T' := T33) (f' := (mkF m 201 #[.val (.int p1), .val (.int p2), .val (.int (1 : Int32)), .val (.int (0 : Int32)), .val (.ref aT), .val (.ref aF), .val (.int (1 : Int32)), .val (.int (own_bcmp (1 : Int32) (0 : Int32))), .val (.int (1 : Int32)), .val (.ref rr31)] [(.int (1 : Int32))])) (fun t k => st33.trans k) ?_
      refine ownW_step (T' := T33) (f' := (mkF m 204 #[.val (.int p1), .val (.int p2), .val (.int (1 : Int32)), .val (.int (0 : Int32)), .val (.ref aT), .val (.ref aF), .val (.int (1 : Int32)), .val (.int (own_bcmp (1 : Int32) (0 : Int32))), .val (.int (1 : Int32)), .val (.ref rr31)] [])) (fun t k => XS.ifNo X33.here hx rfl (hb hby at_201) rfl ((if0 _ _).trans (feq (by decide : ¬ ((1 : Int32) = (0 : Int32)))).1) k) ?_
      refine ownW_step (T' := T33) (f' := (mkF m 205 #[.val (.int p1), .val (.int p2), .val (.int (1 : Int32)), .val (.int (0 : Int32)), .val (.ref aT), .val (.ref aF), .val (.int (1 : Int32)), .val (.int (own_bcmp (1 : Int32) (0 : Int32))), .val (.int (1 : Int32)), .val (.ref rr31)] [(.int (1 : Int32))])) (fun t k => XS.iconst X33.here hx rfl (hb hby at_204) k) ?_
      refine ownW_step (T' := T33) (f' := (mkF m 209 #[.val (.int p1), .val (.int p2), .val (.int (1 : Int32)), .val (.int (0 : Int32)), .val (.ref aT), .val (.ref aF), .val (.int (1 : Int32)), .val (.int (own_bcmp (1 : Int32) (0 : Int32))), .val (.int (1 : Int32)), .val (.ref rr31)] [(.int (1 : Int32))])) (fun t k => XS.goto X33.here hx rfl (pc0 := 205) (pc' := 209) rfl (hb hby at_205) (by decide) (by decide) k) ?_
      refine ownW_step (T' := T33) (f' := (mkF m 211 #[.val (.int p1), .val (.int p2), .val (.int (1 : Int32)), .val (.int (0 : Int32)), .val (.ref aT), .val (.ref aF), .val (.int (1 : Int32)), .val (.int (own_bcmp (1 : Int32) (0 : Int32))), .val (.int (1 : Int32)), .val (.ref rr31)] [])) (fun t k => XS.istore X33.here hx rfl (hb hby at_209) rfl (l' := #[.val (.int p1), .val (.int p2), .val (.int (1 : Int32)), .val (.int (0 : Int32)), .val (.ref aT), .val (.ref aF), .val (.int (1 : Int32)), .val (.int (own_bcmp (1 : Int32) (0 : Int32))), .val (.int (1 : Int32)), .val (.ref rr31)]) rfl k) ?_
      refine ownW_step (T' := T33) (f' := (mkF m 213 #[.val (.int p1), .val (.int p2), .val (.int (1 : Int32)), .val (.int (0 : Int32)), .val (.ref aT), .val (.ref aF), .val (.int (1 : Int32)), .val (.int (own_bcmp (1 : Int32) (0 : Int32))), .val (.int (1 : Int32)), .val (.ref rr31)] [(.int (1 : Int32))])) (fun t k => XS.iload X33.here hx rfl (hb hby at_211) rfl k) ?_
      exact ownW_retN X33 hS32 (by rw [E33]; exact hk32) hx hlk (t := .boolean) Bd.returns (by simp) (hb hby at_213) (by decide) (by decide) ⟨rfl, N33⟩
    · skip
      refine ownW_step (T' := s₁) (f' := (mkF m 18 #[.val (.int p1), .val (.int p2), .val (.int (1 : Int32)), .unset, .unset, .unset, .unset, .unset, .unset, .unset] [])) (fun t k => XS.ifNo X0.here hx rfl (hb hby at_15) rfl ((if0 _ _).trans (feq hc15_23).1) k) ?_
      refine ownW_step (T' := s₁) (f' := (mkF m 19 #[.val (.int p1), .val (.int p2), .val (.int (1 : Int32)), .unset, .unset, .unset, .unset, .unset, .unset, .unset] [(.int (1 : Int32))])) (fun t k => XS.iconst X0.here hx rfl (hb hby at_18) k) ?_
      refine ownW_step (T' := s₁) (f' := (mkF m 23 #[.val (.int p1), .val (.int p2), .val (.int (1 : Int32)), .unset, .unset, .unset, .unset, .unset, .unset, .unset] [(.int (1 : Int32))])) (fun t k => XS.goto X0.here hx rfl (pc0 := 19) (pc' := 23) rfl (hb hby at_19) (by decide) (by decide) k) ?_
      refine ownW_step (T' := s₁) (f' := (mkF m 24 #[.val (.int p1), .val (.int p2), .val (.int (1 : Int32)), .val (.int (1 : Int32)), .unset, .unset, .unset, .unset, .unset, .unset] [])) (fun t k => XS.istoreN X0.here hx rfl (hb hby at_23) rfl (l' := #[.val (.int p1), .val (.int p2), .val (.int (1 : Int32)), .val (.int (1 : Int32)), .unset, .unset, .unset, .unset, .unset, .unset]) rfl k) ?_
      refine ownW_step (T' := s₁) (f' := (mkF m 25 #[.val (.int p1), .val (.int p2), .val (.int (1 : Int32)), .val (.int (1 : Int32)), .unset, .unset, .unset, .unset, .unset, .unset] [(.int (1 : Int32))])) (fun t k => XS.iloadN X0.here hx rfl (hb hby at_24) rfl k) ?_
      obtain ⟨_, _, ⟨T34, L34, k34, n34⟩, -, X34, ⟨Lc34, hQ34, l34, y34, z34⟩, st34⟩ := Jvm.LawKit.callS X0 hx (y := (⟨"com/example/umriss/umriss/runtime/BooleanValue", "of", "(Z)Lcom/example/umriss/umriss/runtime/BooleanValue;"⟩ : MethodName)) hown (mvT hZ (hw _ (List.mem_of_getElem? (i := 0) rfl))) (mvT hZ (hw _ (List.mem_of_getElem? (i := 1) rfl))) (mvT hZ (hw _ (List.mem_of_getElem? (i := 2) rfl))) (mvT hZ (hw _ (List.mem_of_getElem? (i := 3) rfl))) (by decide) (backOf (W := 0) (rm1_1 l Z a0 hw [] h0 n0 Zz aT aF S_T S_F) hZ (hw _ (List.mem_of_getElem? (i := 3) rfl)) (hw _ (List.mem_of_getElem? (i := 2) rfl)) (by decide) (by decide)) (g := (mkF m 25 #[.val (.int p1), .val (.int p2), .val (.int (1 : Int32)), .val (.int (1 : Int32)), .unset, .unset, .unset, .unset, .unset, .unset] [(.int (1 : Int32))])) rfl (by rw [hml]; rfl) (argsL := [(.int (1 : Int32))]) (rest := []) (lenOf pd_0_0 rfl) rfl (by show 2 * 0 + _ ≤ _; exact Nat.le_of_eq rfl) (hb hby at_25) (fun _ _ => ⟨rfl, e0, (by decide : 0 + 0 ≤ _), (by decide : 0 + 0 ≤ _)⟩)
      dsimp only [Pt.U, Pt.locs, Pt.cells, Pt.slots] at X34 l34 y34 z34 st34 hQ34
      subst l34 y34 z34
      obtain ⟨rfl, N34q, E34⟩ := hQ34
      have N34 := Fr.app N0 N34q
      refine ownW_step (T' := T34) (f' := (mkF m 28 #[.val (.int p1), .val (.int p2), .val (.int (1 : Int32)), .val (.int (1 : Int32)), .unset, .unset, .unset, .unset, .unset, .unset] [(.ref aT)])) (fun t k => st34 t k) ?_
      refine ownW_step (T' := T34) (f' := (mkF m 30 #[.val (.int p1), .val (.int p2), .val (.int (1 : Int32)), .val (.int (1 : Int32)), .val (.ref aT), .unset, .unset, .unset, .unset, .unset] [])) (fun t k => XS.astore X34.here hx rfl (hb hby at_28) rfl rfl (l' := #[.val (.int p1), .val (.int p2), .val (.int (1 : Int32)), .val (.int (1 : Int32)), .val (.ref aT), .unset, .unset, .unset, .unset, .unset]) rfl k) ?_
      refine ownW_step (T' := T34) (f' := (mkF m 31 #[.val (.int p1), .val (.int p2), .val (.int (1 : Int32)), .val (.int (1 : Int32)), .val (.ref aT), .unset, .unset, .unset, .unset, .unset] [(.int (1 : Int32))])) (fun t k => XS.iloadN X34.here hx rfl (hb hby at_30) rfl k) ?_
      obtain ⟨_, _, ⟨T35, L35, k35, n35⟩, -, X35, ⟨Lc35, hQ35, l35, y35, z35⟩, st35⟩ := Jvm.LawKit.callS X34 hx (y := (⟨"com/example/umriss/umriss/runtime/BooleanValue", "of", "(Z)Lcom/example/umriss/umriss/runtime/BooleanValue;"⟩ : MethodName)) hown (mvT hZ (hw _ (List.mem_of_getElem? (i := 0) rfl))) (mvT hZ (hw _ (List.mem_of_getElem? (i := 1) rfl))) (mvT hZ (hw _ (List.mem_of_getElem? (i := 2) rfl))) (mvT hZ (hw _ (List.mem_of_getElem? (i := 3) rfl))) (by decide) (backOf (W := 0) (rm1_1 l Z a0 hw [] h0 n0 Zz aT aF S_T S_F) hZ (hw _ (List.mem_of_getElem? (i := 3) rfl)) (hw _ (List.mem_of_getElem? (i := 2) rfl)) (by decide) (by decide)) (g := (mkF m 31 #[.val (.int p1), .val (.int p2), .val (.int (1 : Int32)), .val (.int (1 : Int32)), .val (.ref aT), .unset, .unset, .unset, .unset, .unset] [(.int (1 : Int32))])) rfl (by rw [hml]; rfl) (argsL := [(.int (1 : Int32))]) (rest := []) (lenOf pd_0_0 rfl) rfl (by show 2 * 0 + _ ≤ _; exact Nat.le_of_eq rfl) (hb hby at_31) (fun _ _ => ⟨rfl, E34, (by decide : 0 + 0 ≤ _), (by decide : 0 + 0 ≤ _)⟩)
      dsimp only [Pt.U, Pt.locs, Pt.cells, Pt.slots] at X35 l35 y35 z35 st35 hQ35
      subst l35 y35 z35
      obtain ⟨rfl, N35q, E35⟩ := hQ35
      have N35 := Fr.app N34 N35q
      refine ownW_step (T' := T35) (f' := (mkF m 34 #[.val (.int p1), .val (.int p2), .val (.int (1 : Int32)), .val (.int (1 : Int32)), .val (.ref aT), .unset, .unset, .unset, .unset, .unset] [(.ref aT)])) (fun t k => st35 t k) ?_
      refine ownW_step (T' := T35) (f' := (mkF m 36 #[.val (.int p1), .val (.int p2), .val (.int (1 : Int32)), .val (.int (1 : Int32)), .val (.ref aT), .val (.ref aT), .unset, .unset, .unset, .unset] [])) (fun t k => XS.astore X35.here hx rfl (hb hby at_34) rfl rfl (l' := #[.val (.int p1), .val (.int p2), .val (.int (1 : Int32)), .val (.int (1 : Int32)), .val (.ref aT), .val (.ref aT), .unset, .unset, .unset, .unset]) rfl k) ?_
      refine ownW_step (T' := T35) (f' := (mkF m 38 #[.val (.int p1), .val (.int p2), .val (.int (1 : Int32)), .val (.int (1 : Int32)), .val (.ref aT), .val (.ref aT), .unset, .unset, .unset, .unset] [(.ref aT)])) (fun t k => XS.aload X35.here hx rfl (hb hby at_36) rfl rfl k) ?_
      refine ownW_step (T' := T35) (f' := (mkF m 41 #[.val (.int p1), .val (.int p2), .val (.int (1 : Int32)), .val (.int (1 : Int32)), .val (.ref aT), .val (.ref aT), .unset, .unset, .unset, .unset] [])) (fun t k => XS.ifnullNo X35.here hx rfl (hb hby at_38) rfl k) ?_
      refine ownW_step (T' := T35) (f' := (mkF m 43 #[.val (.int p1), .val (.int p2), .val (.int (1 : Int32)), .val (.int (1 : Int32)), .val (.ref aT), .val (.ref aT), .unset, .unset, .unset, .unset] [(.ref aT)])) (fun t k => XS.aload X35.here hx rfl (hb hby at_41) rfl rfl k) ?_
      refine ownW_step (T' := T35) (f' := (mkF m 48 #[.val (.int p1), .val (.int p2), .val (.int (1 : Int32)), .val (.int (1 : Int32)), .val (.ref aT), .val (.ref aT), .unset, .unset, .unset, .unset] [])) (fun t k => XS.ifnonnullYes X35.here hx rfl (pc0 := 43) (pc' := 48) rfl (hb hby at_43) rfl (by decide) (by decide) k) ?_
      refine ownW_step (T' := T35) (f' := (mkF m 50 #[.val (.int p1), .val (.int p2), .val (.int (1 : Int32)), .val (.int (1 : Int32)), .val (.ref aT), .val (.ref aT), .unset, .unset, .unset, .unset] [(.ref aT)])) (fun t k => XS.aload X35.here hx rfl (hb hby at_48) rfl rfl k) ?_
      obtain ⟨cq36, kq36, q36a, q36b, q36c⟩ := isOf hZ E35 E_aT
      obtain ⟨_, _, ⟨T36, L36, k36, n36⟩, -, X36, ⟨Lc36, hQ36, l36, y36, z36⟩, st36⟩ := X35.virtualBack hx (y := (⟨"com/example/umriss/umriss/runtime/BooleanValue", "value", "()Z"⟩ : MethodName)) (z := (⟨"com/example/umriss/umriss/runtime/BooleanValue", "value", "()Z"⟩ : MethodName)) hown (mvT hZ (hw _ (List.mem_of_getElem? (i := 8) rfl))) (mvT hZ (hw _ (List.mem_of_getElem? (i := 9) rfl))) (notFace_of_selects (args := #[]) (mvT hZ (hw _ (List.mem_of_getElem? (i := 11) rfl)))) (mvT hZ (hw _ (List.mem_of_getElem? (i := 11) rfl))) (mvT hZ (hw _ (List.mem_of_getElem? (i := 10) rfl))) (by decide) (backOf (W := 0) (rm2_1 l Z a0 hw [] aT h0 n0 Zz F_aT) hZ (hw _ (List.mem_of_getElem? (i := 12) rfl)) (hw _ (List.mem_of_getElem? (i := 2) rfl)) (by decide) (by decide)) q36a q36c (g := (mkF m 50 #[.val (.int p1), .val (.int p2), .val (.int (1 : Int32)), .val (.int (1 : Int32)), .val (.ref aT), .val (.ref aT), .unset, .unset, .unset, .unset] [(.ref aT)])) rfl (by rw [hml]; rfl) (Steps.refl _) (argsL := []) (rest := []) (lenOf pd_0_1 rfl) rfl (by show 2 * 0 + _ ≤ _; exact Nat.le_of_eq rfl) (hb hby at_50) (fun _ _ => ⟨rfl, E35, (by decide : 0 + 0 ≤ _), (by decide : 0 + 0 ≤ _)⟩)
      dsimp only [Pt.U, Pt.locs, Pt.cells, Pt.slots] at X36 l36 y36 z36 st36 hQ36
      subst l36 y36 z36
      obtain ⟨rfl, N36q, E36⟩ := hQ36
      have N36 := Fr.app N35 N36q
      refine ownW_step (T' := T36) (f' := (mkF m 53 #[.val (.int p1), .val (.int p2), .val (.int (1 : Int32)), .val (.int (1 : Int32)), .val (.ref aT), .val (.ref aT), .unset, .unset, .unset, .unset] [(.int (1 : Int32))])) (fun t k => st36.trans k) ?_
      refine ownW_step (T' := T36) (f' := (mkF m 54 #[.val (.int p1), .val (.int p2), .val (.int (1 : Int32)), .val (.int (1 : Int32)), .val (.ref aT), .val (.ref aT), .unset, .unset, .unset, .unset] [(.int (1 : Int32)), (.int (1 : Int32))])) (fun t k => XS.iloadN X36.here hx rfl (hb hby at_53) rfl k) ?_
      refine ownW_step (T' := T36) (f' := (mkF m 57 #[.val (.int p1), .val (.int p2), .val (.int (1 : Int32)), .val (.int (1 : Int32)), .val (.ref aT), .val (.ref aT), .unset, .unset, .unset, .unset] [])) (fun t k => XS.icmpNo X36.here hx rfl (hb hby at_54) rfl (teq (by decide : (1 : Int32) = (1 : Int32))).2 k) ?_
      refine ownW_step (T' := T36) (f' := (mkF m 59 #[.val (.int p1), .val (.int p2), .val (.int (1 : Int32)), .val (.int (1 : Int32)), .val (.ref aT), .val (.ref aT), .unset, .unset, .unset, .unset] [(.ref aT)])) (fun t k => XS.aload X36.here hx rfl (hb hby at_57) rfl rfl k) ?_
      obtain ⟨cq37, kq37, q37a, q37b, q37c⟩ := isOf hZ E36 E_aT
      obtain ⟨_, _, ⟨T37, L37, k37, n37⟩, -, X37, ⟨Lc37, hQ37, l37, y37, z37⟩, st37⟩ := X36.virtualBack hx (y := (⟨"com/example/umriss/umriss/runtime/BooleanValue", "value", "()Z"⟩ : MethodName)) (z := (⟨"com/example/umriss/umriss/runtime/BooleanValue", "value", "()Z"⟩ : MethodName)) hown (mvT hZ (hw _ (List.mem_of_getElem? (i := 8) rfl))) (mvT hZ (hw _ (List.mem_of_getElem? (i := 9) rfl))) (notFace_of_selects (args := #[]) (mvT hZ (hw _ (List.mem_of_getElem? (i := 11) rfl)))) (mvT hZ (hw _ (List.mem_of_getElem? (i := 11) rfl))) (mvT hZ (hw _ (List.mem_of_getElem? (i := 10) rfl))) (by decide) (backOf (W := 0) (rm2_1 l Z a0 hw [] aT h0 n0 Zz F_aT) hZ (hw _ (List.mem_of_getElem? (i := 12) rfl)) (hw _ (List.mem_of_getElem? (i := 2) rfl)) (by decide) (by decide)) q37a q37c (g := (mkF m 59 #[.val (.int p1), .val (.int p2), .val (.int (1 : Int32)), .val (.int (1 : Int32)), .val (.ref aT), .val (.ref aT), .unset, .unset, .unset, .unset] [(.ref aT)])) rfl (by rw [hml]; rfl) (Steps.refl _) (argsL := []) (rest := []) (lenOf pd_0_1 rfl) rfl (by show 2 * 0 + _ ≤ _; exact Nat.le_of_eq rfl) (hb hby at_59) (fun _ _ => ⟨rfl, E36, (by decide : 0 + 0 ≤ _), (by decide : 0 + 0 ≤ _)⟩)
      dsimp only [Pt.U, Pt.locs, Pt.cells, Pt.slots] at X37 l37 y37 z37 st37 hQ37
      subst l37 y37 z37
      obtain ⟨rfl, N37q, E37⟩ := hQ37
      have N37 := Fr.app N36 N37q
      refine ownW_step (T' := T37) (f' := (mkF m 62 #[.val (.int p1), .val (.int p2), .val (.int (1 : Int32)), .val (.int (1 : Int32)), .val (.ref aT), .val (.ref aT), .unset, .unset, .unset, .unset] [(.int (1 : Int32))])) (fun t k => st37.trans k) ?_
      refine ownW_step (T' := T37) (f' := (mkF m 63 #[.val (.int p1), .val (.int p2), .val (.int (1 : Int32)), .val (.int (1 : Int32)), .val (.ref aT), .val (.ref aT), .unset, .unset, .unset, .unset] [(.int (1 : Int32)), (.int (1 : Int32))])) (fun t k => XS.iloadN X37.here hx rfl (hb hby at_62) rfl k) ?_
      refine ownW_step (T' := T37) (f' := (mkF m 66 #[.val (.int p1), .val (.int p2), .val (.int (1 : Int32)), .val (.int (1 : Int32)), .val (.ref aT), .val (.ref aT), .unset, .unset, .unset, .unset] [])) (fun t k => XS.icmpNo X37.here hx rfl (hb hby at_63) rfl (teq (by decide : (1 : Int32) = (1 : Int32))).2 k) ?_
      refine ownW_step (T' := T37) (f' := (mkF m 67 #[.val (.int p1), .val (.int p2), .val (.int (1 : Int32)), .val (.int (1 : Int32)), .val (.ref aT), .val (.ref aT), .unset, .unset, .unset, .unset] [(.int (1 : Int32))])) (fun t k => XS.iconst X37.here hx rfl (hb hby at_66) k) ?_
      refine ownW_step (T' := T37) (f' := (mkF m 71 #[.val (.int p1), .val (.int p2), .val (.int (1 : Int32)), .val (.int (1 : Int32)), .val (.ref aT), .val (.ref aT), .unset, .unset, .unset, .unset] [(.int (1 : Int32))])) (fun t k => XS.goto X37.here hx rfl (pc0 := 67) (pc' := 71) rfl (hb hby at_67) (by decide) (by decide) k) ?_
      refine ownW_step (T' := T37) (f' := (mkF m 73 #[.val (.int p1), .val (.int p2), .val (.int (1 : Int32)), .val (.int (1 : Int32)), .val (.ref aT), .val (.ref aT), .val (.int (1 : Int32)), .unset, .unset, .unset] [])) (fun t k => XS.istore X37.here hx rfl (hb hby at_71) rfl (l' := #[.val (.int p1), .val (.int p2), .val (.int (1 : Int32)), .val (.int (1 : Int32)), .val (.ref aT), .val (.ref aT), .val (.int (1 : Int32)), .unset, .unset, .unset]) rfl k) ?_
      refine ownW_step (T' := T37) (f' := (mkF m 75 #[.val (.int p1), .val (.int p2), .val (.int (1 : Int32)), .val (.int (1 : Int32)), .val (.ref aT), .val (.ref aT), .val (.int (1 : Int32)), .unset, .unset, .unset] [(.int (1 : Int32))])) (fun t k => XS.iload X37.here hx rfl (hb hby at_73) rfl k) ?_
      refine ownW_step (T' := T37) (f' := (mkF m 78 #[.val (.int p1), .val (.int p2), .val (.int (1 : Int32)), .val (.int (1 : Int32)), .val (.ref aT), .val (.ref aT), .val (.int (1 : Int32)), .unset, .unset, .unset] [])) (fun t k => XS.ifNo X37.here hx rfl (hb hby at_75) rfl ((if0 _ _).trans (feq (by decide : ¬ ((1 : Int32) = (0 : Int32)))).1) k) ?_
      refine ownW_step (T' := T37) (f' := (mkF m 80 #[.val (.int p1), .val (.int p2), .val (.int (1 : Int32)), .val (.int (1 : Int32)), .val (.ref aT), .val (.ref aT), .val (.int (1 : Int32)), .unset, .unset, .unset] [(.ref aT)])) (fun t k => XS.aload X37.here hx rfl (hb hby at_78) rfl rfl k) ?_
      obtain ⟨cq38, kq38, q38a, q38b, q38c⟩ := isOf hZ E37 E_aT
      obtain ⟨_, _, ⟨T38, L38, k38, n38⟩, -, X38, ⟨Lc38, hQ38, l38, y38, z38⟩, st38⟩ := X37.virtualBack hx (y := (⟨"com/example/umriss/umriss/runtime/BooleanValue", "kind", "()Lcom/example/umriss/umriss/runtime/Value$Kind;"⟩ : MethodName)) (z := (⟨"com/example/umriss/umriss/runtime/BooleanValue", "kind", "()Lcom/example/umriss/umriss/runtime/Value$Kind;"⟩ : MethodName)) hown (mvT hZ (hw _ (List.mem_of_getElem? (i := 15) rfl))) (mvT hZ (hw _ (List.mem_of_getElem? (i := 16) rfl))) (notFace_of_selects (args := #[]) (mvT hZ (hw _ (List.mem_of_getElem? (i := 18) rfl)))) (mvT hZ (hw _ (List.mem_of_getElem? (i := 18) rfl))) (mvT hZ (hw _ (List.mem_of_getElem? (i := 17) rfl))) (by decide) (backOf (W := 0) (rm3 l Z a0 hw [] aT h0 n0 Zz aK S_K) hZ (hw _ (List.mem_of_getElem? (i := 19) rfl)) (hw _ (List.mem_of_getElem? (i := 2) rfl)) (by decide) (by decide)) q38a q38c (g := (mkF m 80 #[.val (.int p1), .val (.int p2), .val (.int (1 : Int32)), .val (.int (1 : Int32)), .val (.ref aT), .val (.ref aT), .val (.int (1 : Int32)), .unset, .unset, .unset] [(.ref aT)])) rfl (by rw [hml]; rfl) (Steps.refl _) (argsL := []) (rest := []) (lenOf pd_0_2 rfl) rfl (by show 2 * 0 + _ ≤ _; exact Nat.le_of_eq rfl) (hb hby at_80) (fun _ _ => ⟨rfl, E37, (by decide : 0 + 0 ≤ _), (by decide : 0 + 0 ≤ _)⟩)
      dsimp only [Pt.U, Pt.locs, Pt.cells, Pt.slots] at X38 l38 y38 z38 st38 hQ38
      subst l38 y38 z38
      obtain ⟨rfl, N38q, E38⟩ := hQ38
      have N38 := Fr.app N37 N38q
      refine ownW_step (T' := T38) (f' := (mkF m 83 #[.val (.int p1), .val (.int p2), .val (.int (1 : Int32)), .val (.int (1 : Int32)), .val (.ref aT), .val (.ref aT), .val (.int (1 : Int32)), .unset, .unset, .unset] [(.ref aK)])) (fun t k => st38.trans k) ?_
      obtain ⟨T39, X39, e39, st39⟩ := getS2 X38 hx hZ hown (host := "") (Or.inl (hw _ (List.mem_of_getElem? (i := 23) rfl))) Via.refl E38 S_K (g := (mkF m 83 #[.val (.int p1), .val (.int p2), .val (.int (1 : Int32)), .val (.int (1 : Int32)), .val (.ref aT), .val (.ref aT), .val (.int (1 : Int32)), .unset, .unset, .unset] [(.ref aK)])) rfl (hb hby at_83)
      refine ownW_step (T' := T39) (f' := (mkF m 86 #[.val (.int p1), .val (.int p2), .val (.int (1 : Int32)), .val (.int (1 : Int32)), .val (.ref aT), .val (.ref aT), .val (.int (1 : Int32)), .unset, .unset, .unset] [(.ref aK), (.ref aK)])) (fun t k => st39 t k) ?_
      refine ownW_step (T' := T39) (f' := (mkF m 89 #[.val (.int p1), .val (.int p2), .val (.int (1 : Int32)), .val (.int (1 : Int32)), .val (.ref aT), .val (.ref aT), .val (.int (1 : Int32)), .unset, .unset, .unset] [])) (fun t k => Jvm.RoadKit.acmp (g := (mkF m 86 #[.val (.int p1), .val (.int p2), .val (.int (1 : Int32)), .val (.int (1 : Int32)), .val (.ref aT), .val (.ref aT), .val (.int (1 : Int32)), .unset, .unset, .unset] [(.ref aK), (.ref aK)])) X39 hx rfl rfl rfl (pc0 := 86) (pc' := 89) (same := true) rfl (hb hby at_86) rfl (decide_eq_true rfl) (by decide) (by decide) k) ?_
      refine ownW_step (T' := T39) (f' := (mkF m 90 #[.val (.int p1), .val (.int p2), .val (.int (1 : Int32)), .val (.int (1 : Int32)), .val (.ref aT), .val (.ref aT), .val (.int (1 : Int32)), .unset, .unset, .unset] [(.int (1 : Int32))])) (fun t k => XS.iconst X39.here hx rfl (hb hby at_89) k) ?_
      refine ownW_step (T' := T39) (f' := (mkF m 94 #[.val (.int p1), .val (.int p2), .val (.int (1 : Int32)), .val (.int (1 : Int32)), .val (.ref aT), .val (.ref aT), .val (.int (1 : Int32)), .unset, .unset, .unset] [(.int (1 : Int32))])) (fun t k => XS.goto X39.here hx rfl (pc0 := 90) (pc' := 94) rfl (hb hby at_90) (by decide) (by decide) k) ?_
      refine ownW_step (T' := T39) (f' := (mkF m 96 #[.val (.int p1), .val (.int p2), .val (.int (1 : Int32)), .val (.int (1 : Int32)), .val (.ref aT), .val (.ref aT), .val (.int (1 : Int32)), .unset, .unset, .unset] [])) (fun t k => XS.istore X39.here hx rfl (hb hby at_94) rfl (l' := #[.val (.int p1), .val (.int p2), .val (.int (1 : Int32)), .val (.int (1 : Int32)), .val (.ref aT), .val (.ref aT), .val (.int (1 : Int32)), .unset, .unset, .unset]) rfl k) ?_
      refine ownW_step (T' := T39) (f' := (mkF m 98 #[.val (.int p1), .val (.int p2), .val (.int (1 : Int32)), .val (.int (1 : Int32)), .val (.ref aT), .val (.ref aT), .val (.int (1 : Int32)), .unset, .unset, .unset] [(.ref aT)])) (fun t k => XS.aload X39.here hx rfl (hb hby at_96) rfl rfl k) ?_
      refine ownW_step (T' := T39) (f' := (mkF m 100 #[.val (.int p1), .val (.int p2), .val (.int (1 : Int32)), .val (.int (1 : Int32)), .val (.ref aT), .val (.ref aT), .val (.int (1 : Int32)), .unset, .unset, .unset] [(.ref aT), (.ref aT)])) (fun t k => XS.aload X39.here hx rfl (hb hby at_98) rfl rfl k) ?_
      obtain ⟨cq40, kq40, q40a, q40b, q40c⟩ := isOf hZ e39 E_aT
      obtain ⟨_, _, ⟨T40, L40, k40, n40⟩, -, X40, ⟨Lc40, hQ40, l40, y40, z40⟩, st40⟩ := X39.virtualBackUp hx (x := (⟨"com/example/umriss/umriss/runtime/BooleanValue", "compareTo", "(Lcom/example/umriss/umriss/runtime/Value;)I"⟩ : MethodName)) (y := (⟨"com/example/umriss/umriss/runtime/Value", "compareTo", "(Lcom/example/umriss/umriss/runtime/Value;)I"⟩ : MethodName)) (owner := "com/example/umriss/umriss/runtime/Value") hown (mvT hZ (hw _ (List.mem_of_getElem? (i := 24) rfl))) (mvT hZ (hw _ (List.mem_of_getElem? (i := 25) rfl))) (mvT hZ (hw _ (List.mem_of_getElem? (i := 26) rfl))) (by decide) (mvT hZ (hw _ (List.mem_of_getElem? (i := 28) rfl))) (mvT hZ (hw _ (List.mem_of_getElem? (i := 27) rfl))) (backOf (W := 0) (rm4 l Z a0 hw [] aT aT h0 n0 Zz (1 : Int32) (1 : Int32) F_aT E_aT F_aT E_aT aK S_K E_aK F_o mr hM) hZ (hw _ (List.mem_of_getElem? (i := 30) rfl)) (hw _ (List.mem_of_getElem? (i := 29) rfl)) (by decide) (by decide)) q40a q40c (g := (mkF m 100 #[.val (.int p1), .val (.int p2), .val (.int (1 : Int32)), .val (.int (1 : Int32)), .val (.ref aT), .val (.ref aT), .val (.int (1 : Int32)), .unset, .unset, .unset] [(.ref aT), (.ref aT)])) rfl (by rw [hml]; rfl) (Steps.refl _) (argsL := [(.ref aT)]) (rest := []) (lenOf pd_0_3 rfl) rfl (by show 2 * 0 + _ ≤ _; exact Nat.le_of_eq rfl) (hb hby at_100) (fun _ _ => ⟨rfl, e39, (by decide : 0 + 0 ≤ _), (by decide : 0 + 0 ≤ _)⟩)
      dsimp only [Pt.U, Pt.locs, Pt.cells, Pt.slots] at X40 l40 y40 z40 st40 hQ40
      subst l40 y40 z40
      obtain ⟨rfl, N40q, E40⟩ := hQ40
      have N40 := Fr.app N38 N40q
      refine ownW_step (T' := T40) (f' := (mkF m 103 #[.val (.int p1), .val (.int p2), .val (.int (1 : Int32)), .val (.int (1 : Int32)), .val (.ref aT), .val (.ref aT), .val (.int (1 : Int32)), .unset, .unset, .unset] [(.int (own_bcmp (1 : Int32) (1 : Int32)))])) (fun t k => st40.trans k) ?_
      refine ownW_step (T' := T40) (f' := (mkF m 105 #[.val (.int p1), .val (.int p2), .val (.int (1 : Int32)), .val (.int (1 : Int32)), .val (.ref aT), .val (.ref aT), .val (.int (1 : Int32)), .val (.int (own_bcmp (1 : Int32) (1 : Int32))), .unset, .unset] [])) (fun t k => XS.istore X40.here hx rfl (hb hby at_103) rfl (l' := #[.val (.int p1), .val (.int p2), .val (.int (1 : Int32)), .val (.int (1 : Int32)), .val (.ref aT), .val (.ref aT), .val (.int (1 : Int32)), .val (.int (own_bcmp (1 : Int32) (1 : Int32))), .unset, .unset]) rfl k) ?_
      refine ownW_step (T' := T40) (f' := (mkF m 106 #[.val (.int p1), .val (.int p2), .val (.int (1 : Int32)), .val (.int (1 : Int32)), .val (.ref aT), .val (.ref aT), .val (.int (1 : Int32)), .val (.int (own_bcmp (1 : Int32) (1 : Int32))), .unset, .unset] [(.int (1 : Int32))])) (fun t k => XS.iloadN X40.here hx rfl (hb hby at_105) rfl k) ?_
      refine ownW_step (T' := T40) (f' := (mkF m 107 #[.val (.int p1), .val (.int p2), .val (.int (1 : Int32)), .val (.int (1 : Int32)), .val (.ref aT), .val (.ref aT), .val (.int (1 : Int32)), .val (.int (own_bcmp (1 : Int32) (1 : Int32))), .unset, .unset] [(.int (1 : Int32)), (.int (1 : Int32))])) (fun t k => XS.iloadN X40.here hx rfl (hb hby at_106) rfl k) ?_
      refine ownW_step (T' := T40) (f' := (mkF m 110 #[.val (.int p1), .val (.int p2), .val (.int (1 : Int32)), .val (.int (1 : Int32)), .val (.ref aT), .val (.ref aT), .val (.int (1 : Int32)), .val (.int (own_bcmp (1 : Int32) (1 : Int32))), .unset, .unset] [])) (fun t k => XS.icmpNo X40.here hx rfl (hb hby at_107) rfl (teq (by decide : (1 : Int32) = (1 : Int32))).2 k) ?_
      refine ownW_step (T' := T40) (f' := (mkF m 112 #[.val (.int p1), .val (.int p2), .val (.int (1 : Int32)), .val (.int (1 : Int32)), .val (.ref aT), .val (.ref aT), .val (.int (1 : Int32)), .val (.int (own_bcmp (1 : Int32) (1 : Int32))), .unset, .unset] [(.int (own_bcmp (1 : Int32) (1 : Int32)))])) (fun t k => XS.iload X40.here hx rfl (hb hby at_110) rfl k) ?_
      refine ownW_step (T' := T40) (f' := (mkF m 115 #[.val (.int p1), .val (.int p2), .val (.int (1 : Int32)), .val (.int (1 : Int32)), .val (.ref aT), .val (.ref aT), .val (.int (1 : Int32)), .val (.int (own_bcmp (1 : Int32) (1 : Int32))), .unset, .unset] [])) (fun t k => XS.ifNo X40.here hx rfl (hb hby at_112) rfl ((if0 _ _).trans (teq (by decide : (own_bcmp (1 : Int32) (1 : Int32)) = (0 : Int32))).2) k) ?_
      refine ownW_step (T' := T40) (f' := (mkF m 116 #[.val (.int p1), .val (.int p2), .val (.int (1 : Int32)), .val (.int (1 : Int32)), .val (.ref aT), .val (.ref aT), .val (.int (1 : Int32)), .val (.int (own_bcmp (1 : Int32) (1 : Int32))), .unset, .unset] [(.int (1 : Int32))])) (fun t k => XS.iconst X40.here hx rfl (hb hby at_115) k) ?_
      refine ownW_step (T' := T40) (f' := (mkF m 120 #[.val (.int p1), .val (.int p2), .val (.int (1 : Int32)), .val (.int (1 : Int32)), .val (.ref aT), .val (.ref aT), .val (.int (1 : Int32)), .val (.int (own_bcmp (1 : Int32) (1 : Int32))), .unset, .unset] [(.int (1 : Int32))])) (fun t k => XS.goto X40.here hx rfl (pc0 := 116) (pc' := 120) rfl (hb hby at_116) (by decide) (by decide) k) ?_
      refine ownW_step (T' := T40) (f' := (mkF m 122 #[.val (.int p1), .val (.int p2), .val (.int (1 : Int32)), .val (.int (1 : Int32)), .val (.ref aT), .val (.ref aT), .val (.int (1 : Int32)), .val (.int (own_bcmp (1 : Int32) (1 : Int32))), .val (.int (1 : Int32)), .unset] [])) (fun t k => XS.istore X40.here hx rfl (hb hby at_120) rfl (l' := #[.val (.int p1), .val (.int p2), .val (.int (1 : Int32)), .val (.int (1 : Int32)), .val (.ref aT), .val (.ref aT), .val (.int (1 : Int32)), .val (.int (own_bcmp (1 : Int32) (1 : Int32))), .val (.int (1 : Int32)), .unset]) rfl k) ?_
      refine ownW_step (T' := T40) (f' := (mkF m 156 #[.val (.int p1), .val (.int p2), .val (.int (1 : Int32)), .val (.int (1 : Int32)), .val (.ref aT), .val (.ref aT), .val (.int (1 : Int32)), .val (.int (own_bcmp (1 : Int32) (1 : Int32))), .val (.int (1 : Int32)), .unset] [])) (fun t k => XS.goto X40.here hx rfl (pc0 := 122) (pc' := 156) rfl (hb hby at_122) (by decide) (by decide) k) ?_
      refine ownW_step (T' := T40) (f' := (mkF m 158 #[.val (.int p1), .val (.int p2), .val (.int (1 : Int32)), .val (.int (1 : Int32)), .val (.ref aT), .val (.ref aT), .val (.int (1 : Int32)), .val (.int (own_bcmp (1 : Int32) (1 : Int32))), .val (.int (1 : Int32)), .unset] [(.int (1 : Int32))])) (fun t k => XS.iload X40.here hx rfl (hb hby at_156) rfl k) ?_
      refine ownW_step (T' := T40) (f' := (mkF m 161 #[.val (.int p1), .val (.int p2), .val (.int (1 : Int32)), .val (.int (1 : Int32)), .val (.ref aT), .val (.ref aT), .val (.int (1 : Int32)), .val (.int (own_bcmp (1 : Int32) (1 : Int32))), .val (.int (1 : Int32)), .unset] [])) (fun t k => XS.ifNo X40.here hx rfl (hb hby at_158) rfl ((if0 _ _).trans (feq (by decide : ¬ ((1 : Int32) = (0 : Int32)))).1) k) ?_
      refine ownW_step (T' := T40) (f' := (mkF m 163 #[.val (.int p1), .val (.int p2), .val (.int (1 : Int32)), .val (.int (1 : Int32)), .val (.ref aT), .val (.ref aT), .val (.int (1 : Int32)), .val (.int (own_bcmp (1 : Int32) (1 : Int32))), .val (.int (1 : Int32)), .unset] [(.int (1 : Int32))])) (fun t k => XS.iload X40.here hx rfl (hb hby at_161) rfl k) ?_
      refine ownW_step (T' := T40) (f' := (mkF m 166 #[.val (.int p1), .val (.int p2), .val (.int (1 : Int32)), .val (.int (1 : Int32)), .val (.ref aT), .val (.ref aT), .val (.int (1 : Int32)), .val (.int (own_bcmp (1 : Int32) (1 : Int32))), .val (.int (1 : Int32)), .unset] [])) (fun t k => XS.ifNo X40.here hx rfl (hb hby at_163) rfl ((if0 _ _).trans (feq (by decide : ¬ ((1 : Int32) = (0 : Int32)))).1) k) ?_
      refine ownW_step (T' := T40) (f' := (mkF m 167 #[.val (.int p1), .val (.int p2), .val (.int (1 : Int32)), .val (.int (1 : Int32)), .val (.ref aT), .val (.ref aT), .val (.int (1 : Int32)), .val (.int (own_bcmp (1 : Int32) (1 : Int32))), .val (.int (1 : Int32)), .unset] [(.int (1 : Int32))])) (fun t k => XS.iconst X40.here hx rfl (hb hby at_166) k) ?_
      refine ownW_step (T' := T40) (f' := (mkF m 171 #[.val (.int p1), .val (.int p2), .val (.int (1 : Int32)), .val (.int (1 : Int32)), .val (.ref aT), .val (.ref aT), .val (.int (1 : Int32)), .val (.int (own_bcmp (1 : Int32) (1 : Int32))), .val (.int (1 : Int32)), .unset] [(.int (1 : Int32))])) (fun t k => XS.goto X40.here hx rfl (pc0 := 167) (pc' := 171) rfl (hb hby at_167) (by decide) (by decide) k) ?_
      refine ownW_step (T' := T40) (f' := (mkF m 173 #[.val (.int p1), .val (.int p2), .val (.int (1 : Int32)), .val (.int (1 : Int32)), .val (.ref aT), .val (.ref aT), .val (.int (1 : Int32)), .val (.int (own_bcmp (1 : Int32) (1 : Int32))), .val (.int (1 : Int32)), .unset] [])) (fun t k => XS.istore X40.here hx rfl (hb hby at_171) rfl (l' := #[.val (.int p1), .val (.int p2), .val (.int (1 : Int32)), .val (.int (1 : Int32)), .val (.ref aT), .val (.ref aT), .val (.int (1 : Int32)), .val (.int (own_bcmp (1 : Int32) (1 : Int32))), .val (.int (1 : Int32)), .unset]) rfl k) ?_
      refine ownW_step (T' := T40) (f' := (mkF m 175 #[.val (.int p1), .val (.int p2), .val (.int (1 : Int32)), .val (.int (1 : Int32)), .val (.ref aT), .val (.ref aT), .val (.int (1 : Int32)), .val (.int (own_bcmp (1 : Int32) (1 : Int32))), .val (.int (1 : Int32)), .unset] [(.ref aT)])) (fun t k => XS.aload X40.here hx rfl (hb hby at_173) rfl rfl k) ?_
      obtain ⟨cq41, kq41, q41a, q41b, q41c⟩ := isOf hZ E40 E_aT
      obtain ⟨_, _, ⟨T41, L41, k41, n41⟩, -, X41, ⟨Lc41, hQ41, l41, y41, z41⟩, st41⟩ := X40.virtualBackUp hx (x := (⟨"com/example/umriss/umriss/runtime/BooleanValue", "toString", "()Ljava/lang/String;"⟩ : MethodName)) (y := (⟨"com/example/umriss/umriss/runtime/Value", "toString", "()Ljava/lang/String;"⟩ : MethodName)) (owner := "com/example/umriss/umriss/runtime/Value") hown (mvT hZ (hw _ (List.mem_of_getElem? (i := 60) rfl))) (mvT hZ (hw _ (List.mem_of_getElem? (i := 61) rfl))) (mvT hZ (hw _ (List.mem_of_getElem? (i := 62) rfl))) (by decide) (mvT hZ (hw _ (List.mem_of_getElem? (i := 64) rfl))) (mvT hZ (hw _ (List.mem_of_getElem? (i := 63) rfl))) (backOf (W := 0) (rm8_1 l Z a0 hw [] aT h0 n0 Zz F_aT E_aT cs S_CS hcs) hZ (hw _ (List.mem_of_getElem? (i := 65) rfl)) (hw _ (List.mem_of_getElem? (i := 29) rfl)) (by decide) (by decide)) q41a q41c (g := (mkF m 175 #[.val (.int p1), .val (.int p2), .val (.int (1 : Int32)), .val (.int (1 : Int32)), .val (.ref aT), .val (.ref aT), .val (.int (1 : Int32)), .val (.int (own_bcmp (1 : Int32) (1 : Int32))), .val (.int (1 : Int32)), .unset] [(.ref aT)])) rfl (by rw [hml]; rfl) (Steps.refl _) (argsL := []) (rest := []) (lenOf pd_0_4 rfl) rfl (by show 2 * 0 + _ ≤ _; exact Nat.le_of_eq rfl) (hb hby at_175) (fun _ _ => ⟨rfl, E40, (by decide : 0 + 4 ≤ _), (by decide : 0 + 28 ≤ _)⟩)
      dsimp only [Pt.U, Pt.locs, Pt.cells, Pt.slots] at X41 l41 y41 z41 st41 hQ41
      subst l41 y41 z41
      obtain ⟨rr41, rb41, rk41, rfl, N41q, K41, Er41, Fc41, Fv41, Vr41⟩ := hQ41
      have N41 := Fr.app N40 N41q
      replace S_T := own_sta_keep S_T K41 all0
      replace S_F := own_sta_keep S_F K41 all0
      replace S_K := own_sta_keep S_K K41 all0
      replace S_CS := own_sta_keep S_CS K41 all0
      replace E_aT := E_aT.keep K41
      replace E_aF := E_aF.keep K41
      replace E_aK := E_aK.keep K41
      replace F_aT := F_aT.keep K41 nin0
      replace F_aF := F_aF.keep K41 nin0
      replace F_o := F_o.keep K41 nin0
      replace Zz := Nat.le_trans Zz K41.1
      replace Kp := Kp.trans K41 all0
      refine ownW_step (T' := T41) (f' := (mkF m 178 #[.val (.int p1), .val (.int p2), .val (.int (1 : Int32)), .val (.int (1 : Int32)), .val (.ref aT), .val (.ref aT), .val (.int (1 : Int32)), .val (.int (own_bcmp (1 : Int32) (1 : Int32))), .val (.int (1 : Int32)), .unset] [(.ref rr41)])) (fun t k => st41.trans k) ?_
      refine ownW_step (T' := T41) (f' := (mkF m 180 #[.val (.int p1), .val (.int p2), .val (.int (1 : Int32)), .val (.int (1 : Int32)), .val (.ref aT), .val (.ref aT), .val (.int (1 : Int32)), .val (.int (own_bcmp (1 : Int32) (1 : Int32))), .val (.int (1 : Int32)), .val (.ref rr41)] [])) (fun t k => XS.astore X41.here hx rfl (hb hby at_178) rfl rfl (l' := #[.val (.int p1), .val (.int p2), .val (.int (1 : Int32)), .val (.int (1 : Int32)), .val (.ref aT), .val (.ref aT), .val (.int (1 : Int32)), .val (.int (own_bcmp (1 : Int32) (1 : Int32))), .val (.int (1 : Int32)), .val (.ref rr41)]) rfl k) ?_
      refine ownW_step (T' := T41) (f' := (mkF m 182 #[.val (.int p1), .val (.int p2), .val (.int (1 : Int32)), .val (.int (1 : Int32)), .val (.ref aT), .val (.ref aT), .val (.int (1 : Int32)), .val (.int (own_bcmp (1 : Int32) (1 : Int32))), .val (.int (1 : Int32)), .val (.ref rr41)] [(.int (1 : Int32))])) (fun t k => XS.iload X41.here hx rfl (hb hby at_180) rfl k) ?_
      refine ownW_step (T' := T41) (f' := (mkF m 185 #[.val (.int p1), .val (.int p2), .val (.int (1 : Int32)), .val (.int (1 : Int32)), .val (.ref aT), .val (.ref aT), .val (.int (1 : Int32)), .val (.int (own_bcmp (1 : Int32) (1 : Int32))), .val (.int (1 : Int32)), .val (.ref rr41)] [])) (fun t k => XS.ifNo X41.here hx rfl (hb hby at_182) rfl ((if0 _ _).trans (feq (by decide : ¬ ((1 : Int32) = (0 : Int32)))).1) k) ?_
      refine ownW_step (T' := T41) (f' := (mkF m 187 #[.val (.int p1), .val (.int p2), .val (.int (1 : Int32)), .val (.int (1 : Int32)), .val (.ref aT), .val (.ref aT), .val (.int (1 : Int32)), .val (.int (own_bcmp (1 : Int32) (1 : Int32))), .val (.int (1 : Int32)), .val (.ref rr41)] [(.ref rr41)])) (fun t k => XS.aload X41.here hx rfl (hb hby at_185) rfl rfl k) ?_
      refine ownW_step (T' := T41) (f' := (mkF m 188 #[.val (.int p1), .val (.int p2), .val (.int (1 : Int32)), .val (.int (1 : Int32)), .val (.ref aT), .val (.ref aT), .val (.int (1 : Int32)), .val (.int (own_bcmp (1 : Int32) (1 : Int32))), .val (.int (1 : Int32)), .val (.ref rr41)] [(.int (1 : Int32)), (.ref rr41)])) (fun t k => XS.iloadN X41.here hx rfl (hb hby at_187) rfl k) ?_
      refine ownW_step (T' := T41) (f' := (mkF m 191 #[.val (.int p1), .val (.int p2), .val (.int (1 : Int32)), .val (.int (1 : Int32)), .val (.ref aT), .val (.ref aT), .val (.int (1 : Int32)), .val (.int (own_bcmp (1 : Int32) (1 : Int32))), .val (.int (1 : Int32)), .val (.ref rr41)] [(.ref rr41)])) (fun t k => XS.ifNo X41.here hx rfl (hb hby at_188) rfl ((if0 _ _).trans (feq (by decide : ¬ ((1 : Int32) = (0 : Int32)))).1) k) ?_
      obtain ⟨la42, T42, h42, k142, lb42, lk42, X42, e42, E42, hS42, hk42, hZ2, hown2, LE42, LC42, LV42, LA42, -, -, IB42, st42⟩ := ldcSV (s := s) (vm0 := s.vm) (Z := Z) (a0 := a0) X41 hx hZ hown (hw _ (List.mem_of_getElem? (i := 180) rfl)) (fun d hd => by simp only [Bundle.stringAtoms, Bundle.sN, List.mem_cons, List.not_mem_nil, or_false] at hd; rcases hd with rfl | rfl | rfl | rfl | rfl | rfl | rfl <;> first | exact (hw _ (List.mem_of_getElem? (i := 82) rfl)) | exact (hw _ (List.mem_of_getElem? (i := 121) rfl)) | exact (hw _ (List.mem_of_getElem? (i := 83) rfl)) | exact (hw _ (List.mem_of_getElem? (i := 165) rfl)) | exact (hw _ (List.mem_of_getElem? (i := 145) rfl)) | exact (hw _ (List.mem_of_getElem? (i := 167) rfl)) | exact (hw _ (List.mem_of_getElem? (i := 168) rfl))) rfl ((State.WarmedH.refl s).since T41.heap.size) (Nat.le_refl _) (by rw [hUZ, ← hn0]; exact N41) (fun _ _ q => by rw [hUZ]; exact q) (by rw [hUZ]; exact IB.start) (by simp) hl35 hcw (vs := [(.int (116 : Int32)), (.int (114 : Int32)), (.int (117 : Int32)), (.int (101 : Int32))]) (z := (4 : Int32)) ⟨by decide, rfl⟩ (by decide) rfl (g := (mkF m 191 #[.val (.int p1), .val (.int p2), .val (.int (1 : Int32)), .val (.int (1 : Int32)), .val (.ref aT), .val (.ref aT), .val (.int (1 : Int32)), .val (.int (own_bcmp (1 : Int32) (1 : Int32))), .val (.int (1 : Int32)), .val (.ref rr41)] [(.ref rr41)])) rfl (hb hby at_191) (n := 16) (by decide) (by decide) (by decide) (by decide)
      replace S_T := S_T.ext E42
      replace S_F := S_F.ext E42
      replace S_K := S_K.ext E42
      replace S_CS := S_CS.ext E42
      replace E_aT := E_aT.ext E42
      replace E_aF := E_aF.ext E42
      replace E_aK := E_aK.ext E42
      replace F_aT := F_aT.ext E42
      replace F_aF := F_aF.ext E42
      replace F_o := F_o.ext E42
      replace Er41 := Er41.ext E42
      replace Fc41 := Fc41.ext E42
      replace Fv41 := Fv41.ext E42
      replace Vr41 := Vr41.ext E42
      replace Zz := Nat.le_trans Zz E42.1
      replace Kp := Kp.ext E42
      refine ownW_step (T' := T42) (f' := (mkF m 193 #[.val (.int p1), .val (.int p2), .val (.int (1 : Int32)), .val (.int (1 : Int32)), .val (.ref aT), .val (.ref aT), .val (.int (1 : Int32)), .val (.int (own_bcmp (1 : Int32) (1 : Int32))), .val (.int (1 : Int32)), .val (.ref rr41)] [(.ref la42), (.ref rr41)])) (fun t k => st42 t k) ?_
      refine ownW_step (T' := T42) (f' := (mkF m 198 #[.val (.int p1), .val (.int p2), .val (.int (1 : Int32)), .val (.int (1 : Int32)), .val (.ref aT), .val (.ref aT), .val (.int (1 : Int32)), .val (.int (own_bcmp (1 : Int32) (1 : Int32))), .val (.int (1 : Int32)), .val (.ref rr41)] [(.ref la42), (.ref rr41)])) (fun t k => XS.goto X42.here hx rfl (pc0 := 193) (pc' := 198) rfl (hb hby at_193) (by decide) (by decide) k) ?_
      obtain ⟨cq43, kq43, q43a, q43b, q43c⟩ := isOf hZ2 e42 Er41
      obtain ⟨_, _, ⟨T43, L43, k43, n43⟩, -, X43, ⟨Lc43, hQ43, l43, y43, z43⟩, st43⟩ := X42.virtualBack hx (y := (⟨"java/lang/String", "equals", "(Ljava/lang/Object;)Z"⟩ : MethodName)) (z := (⟨"java/lang/String", "equals", "(Ljava/lang/Object;)Z"⟩ : MethodName)) hown2 (mvT hZ2 (hw _ (List.mem_of_getElem? (i := 169) rfl))) (mvT hZ2 (hw _ (List.mem_of_getElem? (i := 170) rfl))) (notFace_of_selects (args := #[]) (mvT hZ2 (hw _ (List.mem_of_getElem? (i := 172) rfl)))) (mvT hZ2 (hw _ (List.mem_of_getElem? (i := 172) rfl))) (mvT hZ2 (hw _ (List.mem_of_getElem? (i := 171) rfl))) (by decide) (backOf (W := 0) (rm27_1 l Z a0 hw [] rr41 la42 h42 n0 Zz rb41 lb42 rk41 lk42 ⟨Er41, Fc41, Fv41, Vr41⟩ ⟨LE42, LC42, LV42, LA42⟩ cs S_CS hcs) hZ2 (hw _ (List.mem_of_getElem? (i := 173) rfl)) (hw _ (List.mem_of_getElem? (i := 82) rfl)) (by decide) (by decide)) q43a q43c (g := (mkF m 198 #[.val (.int p1), .val (.int p2), .val (.int (1 : Int32)), .val (.int (1 : Int32)), .val (.ref aT), .val (.ref aT), .val (.int (1 : Int32)), .val (.int (own_bcmp (1 : Int32) (1 : Int32))), .val (.int (1 : Int32)), .val (.ref rr41)] [(.ref la42), (.ref rr41)])) rfl (by rw [hml]; rfl) (Steps.refl _) (argsL := [(.ref la42)]) (rest := []) (lenOf pd_0_5 rfl) rfl (by show 2 * 0 + _ ≤ _; exact Nat.le_of_eq rfl) (hb hby at_198) (fun _ _ => ⟨rfl, e42, (by decide : 6 + 0 ≤ _), (by decide : 48 + 0 ≤ _)⟩)
      dsimp only [Pt.U, Pt.locs, Pt.cells, Pt.slots] at X43 l43 y43 z43 st43 hQ43
      subst l43 y43 z43
      obtain ⟨rfl, N43q, E43⟩ := hQ43
      have N43 := Fr.app N41 N43q
      refine ownW_step (T' := T43) (f' := (mkF m 201 #[.val (.int p1), .val (.int p2), .val (.int (1 : Int32)), .val (.int (1 : Int32)), .val (.ref aT), .val (.ref aT), .val (.int (1 : Int32)), .val (.int (own_bcmp (1 : Int32) (1 : Int32))), .val (.int (1 : Int32)), .val (.ref rr41)] [(.int (1 : Int32))])) (fun t k => st43.trans k) ?_
      refine ownW_step (T' := T43) (f' := (mkF m 204 #[.val (.int p1), .val (.int p2), .val (.int (1 : Int32)), .val (.int (1 : Int32)), .val (.ref aT), .val (.ref aT), .val (.int (1 : Int32)), .val (.int (own_bcmp (1 : Int32) (1 : Int32))), .val (.int (1 : Int32)), .val (.ref rr41)] [])) (fun t k => XS.ifNo X43.here hx rfl (hb hby at_201) rfl ((if0 _ _).trans (feq (by decide : ¬ ((1 : Int32) = (0 : Int32)))).1) k) ?_
      refine ownW_step (T' := T43) (f' := (mkF m 205 #[.val (.int p1), .val (.int p2), .val (.int (1 : Int32)), .val (.int (1 : Int32)), .val (.ref aT), .val (.ref aT), .val (.int (1 : Int32)), .val (.int (own_bcmp (1 : Int32) (1 : Int32))), .val (.int (1 : Int32)), .val (.ref rr41)] [(.int (1 : Int32))])) (fun t k => XS.iconst X43.here hx rfl (hb hby at_204) k) ?_
      refine ownW_step (T' := T43) (f' := (mkF m 209 #[.val (.int p1), .val (.int p2), .val (.int (1 : Int32)), .val (.int (1 : Int32)), .val (.ref aT), .val (.ref aT), .val (.int (1 : Int32)), .val (.int (own_bcmp (1 : Int32) (1 : Int32))), .val (.int (1 : Int32)), .val (.ref rr41)] [(.int (1 : Int32))])) (fun t k => XS.goto X43.here hx rfl (pc0 := 205) (pc' := 209) rfl (hb hby at_205) (by decide) (by decide) k) ?_
      refine ownW_step (T' := T43) (f' := (mkF m 211 #[.val (.int p1), .val (.int p2), .val (.int (1 : Int32)), .val (.int (1 : Int32)), .val (.ref aT), .val (.ref aT), .val (.int (1 : Int32)), .val (.int (own_bcmp (1 : Int32) (1 : Int32))), .val (.int (1 : Int32)), .val (.ref rr41)] [])) (fun t k => XS.istore X43.here hx rfl (hb hby at_209) rfl (l' := #[.val (.int p1), .val (.int p2), .val (.int (1 : Int32)), .val (.int (1 : Int32)), .val (.ref aT), .val (.ref aT), .val (.int (1 : Int32)), .val (.int (own_bcmp (1 : Int32) (1 : Int32))), .val (.int (1 : Int32)), .val (.ref rr41)]) rfl k) ?_
      refine ownW_step (T' := T43) (f' := (mkF m 213 #[.val (.int p1), .val (.int p2), .val (.int (1 : Int32)), .val (.int (1 : Int32)), .val (.ref aT), .val (.ref aT), .val (.int (1 : Int32)), .val (.int (own_bcmp (1 : Int32) (1 : Int32))), .val (.int (1 : Int32)), .val (.ref rr41)] [(.int (1 : Int32))])) (fun t k => XS.iload X43.here hx rfl (hb hby at_211) rfl k) ?_
      exact ownW_retN X43 hS42 (by rw [E43]; exact hk42) hx hlk (t := .boolean) Bd.returns (by simp) (hb hby at_213) (by decide) (by decide) ⟨rfl, N43⟩

set_option maxRecDepth 65536 in
set_option maxHeartbeats 40000000 in
theorem comes_1 {Post : Tables → Env → Array Value → State → Outcome → State → Prop} (hpost : ∀ tb e args s v u, (limb_1_1.after args s (.returned v) u = true ∧ limb_1_2.after args s (.returned v) u = true ∧ True) → ReturnedEndW s (.returned v) u (Jvm.fieldLocs frame_1_writes args s ++ Jvm.arrayLocs frame_1_arrays args s ++ Jvm.staticLocs frame_1_statics s) 24 2240 → Post tb e args s (.returned v) u) :
    ArmFor flags0 classFile x code maxLocals ret World_1 tables_1 room_1 Calls_1 rest_1 Pre_1 Post := by
  intro l hfl _ _ p e ha hc hk s m args below hf hA hF happ hP
  obtain ⟨hcalls, hrest, hpre⟩ := hP
  obtain ⟨-, -, -, hnamed, -, -, -, hat⟩ := (Spec.applies_iff hf).mp happ
  obtain ⟨hg, hn⟩ := and_e (Cond.before_iff.mp (show (Jvm.Cond.and given_1 narrow_1).before args s = true from hpre))
  obtain ⟨hcnt, hg0⟩ := and_e hg
  obtain ⟨ga0, hg1⟩ := and_e hg0
  have ga1 := hg1
  obtain ⟨w0, w1, rfl⟩ : ∃ w0 w1 : Value, args = #[w0, w1] := by
    have hs : args.size = 2 := by simpa [Cond.value, given_1] using hcnt
    obtain ⟨L⟩ := args
    match L, hs with
    | [w0, w1], _ => exact ⟨w0, w1, rfl⟩
  have hw := fun d (hd : d ∈ tables_1) => atoms_spec (ws := Jvm.Cond.code x code maxLocals ret :: tables_1) hat d (List.mem_cons_of_mem _ hd)
  obtain ⟨i0, ei0⟩ := is_v ga0
  obtain rfl : w0 = (.int i0) := Option.some.inj ei0
  obtain ⟨i1, ei1⟩ := is_v ga1
  obtain rfl : w1 = (.int i1) := Option.some.inj ei1
  obtain ⟨nr0, hn0⟩ := and_e hn
  obtain ⟨nr1, hn1⟩ := and_e hn0
  obtain ⟨nr2, hn2⟩ := and_e hn1
  obtain ⟨nr3, hn3⟩ := and_e hn2
  obtain ⟨nr4, hn4⟩ := and_e hn3
  have nr5 := hn4
  obtain ⟨aF, evF⟩ := exa_v nr0
  have S_F : Sta s s.heap "com/example/umriss/umriss/runtime/BooleanValue" "FALSE" "Lcom/example/umriss/umriss/runtime/BooleanValue;" (.ref aF) := Sta.start evF (Or.inr ⟨(hw _ (List.mem_of_getElem? (i := 2) rfl)), (hw _ (List.mem_of_getElem? (i := 5) rfl))⟩)
  have X_F : Exa s s.heap aF "com/example/umriss/umriss/runtime/BooleanValue" := Exa.start evF nr0
  obtain ⟨aT, evT⟩ := exa_v nr1
  have S_T : Sta s s.heap "com/example/umriss/umriss/runtime/BooleanValue" "TRUE" "Lcom/example/umriss/umriss/runtime/BooleanValue;" (.ref aT) := Sta.start evT (Or.inr ⟨(hw _ (List.mem_of_getElem? (i := 2) rfl)), (hw _ (List.mem_of_getElem? (i := 7) rfl))⟩)
  have X_T : Exa s s.heap aT "com/example/umriss/umriss/runtime/BooleanValue" := Exa.start evT nr1
  obtain ⟨aK, evK⟩ := exa_v nr4
  have S_K : Sta s s.heap "com/example/umriss/umriss/runtime/Value$Kind" "BOOLEAN" "Lcom/example/umriss/umriss/runtime/Value$Kind;" (.ref aK) := Sta.start evK (Or.inr ⟨(hw _ (List.mem_of_getElem? (i := 21) rfl)), (hw _ (List.mem_of_getElem? (i := 22) rfl))⟩)
  have X_K : Exa s s.heap aK "com/example/umriss/umriss/runtime/Value$Kind" := Exa.start evK nr4
  have oF := own_ord evF nr2
  have oT := own_ord evT nr3
  have oK := own_ord evK nr5
  obtain ⟨hsets, -⟩ := atoms_of _ (rest_1_c_eq ▸ (show rest_1_c.before _ s = true from hrest))
  obtain ⟨cs, ecs⟩ := is_v (Cond.before_iff.mp (hsets _ (List.mem_of_getElem? (i := 1) rfl)))
  have S_CS : Sta s s.heap "java/lang/String" "COMPACT_STRINGS" "Z" (.int cs) := Sta.start ecs (Or.inl (hsets _ (List.mem_of_getElem? (i := 0) rfl)))
  have hcw := hsets _ (List.mem_of_getElem? (i := 2) rfl)
  have hcs : ¬ cs = (0 : Int32) := own_cs hcw ecs
  obtain ⟨⟨cM, kM, mr, m1, m2, m3⟩, hheld, -⟩ := hcalls
  obtain ⟨n, o, h1, h2, h3, _, L, rfl, ⟨rfl, N⟩, hq⟩ := rm0 l s _ hw tables_1 i0 i1 s.heap s.heap.size (Nat.le_refl _) aT aF S_T S_F aK S_K cs S_CS hcs X_T X_F X_K (Fld.start oT) (Fld.start oF) (Fld.start oK) mr ⟨cM, kM, m1, m2, m3.1⟩ rfl (hheld _ (List.mem_cons_self ..)) (hheld _ (List.mem_cons_of_mem _ (List.mem_cons_self ..))) hcw p e ha hc hk s m _ below hf ((Spec.applies_iff_loose hf).mp happ).1 ⟨rfl, rfl, rfl⟩ trivial
  refine ⟨n, _, h1, h2, h3, hpost _ _ _ _ _ _ ⟨Cond.after_iff.mpr rfl, Cond.after_iff.mpr (eq_i res_at (Term.int_eval (1)) rfl), trivial⟩ ⟨hq.1, hq.2.1, hq.2.2.1, (hq.2.2.2.sift fun y hy => Or.inr (N y hy)).mono (by decide) (by decide)⟩⟩
theorem main_1_1 : Claimed_1_1 := comes_1 fun _ _ _ _ _ _ h hF => ⟨h.1, hF⟩
theorem main_1_2 : Claimed_1_2 := comes_1 fun _ _ _ _ _ _ h hF => ⟨h.2.1, hF⟩
end Jvm.Pilot.@@N@@
namespace Jvm.Pilot.@@N@@
open Jvm Jvm.ClassFile Sem Op Lib Jvm.Free Jvm.Stand Jvm.Pilot.@@N@@.Jvm.D
/-! MADE BY PROGRAM (witnessworld.py) out of the Statement's table words and the real class files: 28 classes; the members and pool entries that the words name. The judged class is class 1, her method 1. -/
namespace start1
open Jvm.ClassFile
def u (s : String) : CpInfo := .utf8 (stringToUtf16 s)
/-- a pool by its gaps: so many unusable entries, then the entry; so many at the end -/
def gap : Nat → List CpInfo → List CpInfo
  | 0, r => r
  | n + 1, r => .unusable :: gap n r
def poolList (es : List (Nat × CpInfo)) (last : Nat) : List CpInfo := es.foldr (fun e r => gap e.1 (e.2 :: r)) (gap last [])
def pool (es : List (Nat × CpInfo)) (last : Nat) : Array CpInfo := ⟨poolList es last⟩
def fileOf (pool : Array CpInfo) (this : Nat) (attrs : Array Attribute := #[]) (ms : Array MethodInfo := #[]) (fl : Nat := 33) (sup : Nat := 0) (ifs : Array Nat := #[]) (fds : Array FieldInfo := #[]) : ClassFile where
  minorVersion := 0
  majorVersion := 65
  constantPool := pool
  accessFlags := fl
  thisClass := this
  superClass := sup
  interfaces := ifs
  fields := fds
  methods := ms
  attributes := attrs
def plain (name : String) (sup : Option ClassId) : Class where
  name := name
  kind := .ordinary
  loader := none
  accessFlags := 33
  super := sup
  interfaces := #[]
  cf := none
  fields := #[]
  methods := #[]
  instanceTypes := #[]
  staticTypes := #[]
  resolved := #[]
  callSites := []
  init := .initialized
  statics := none
  mirror := none

def pool0 : Array CpInfo := pool [(5, u "<init>"), (0, u "()V"), (1, .class_ 10), (1, u "java/lang/Object"), (0, u "getClass"), (0, u "()Ljava/lang/Class;")] 111

def k0c0 : Code := { maxStack := 0, maxLocals := 1, code := object_method_1_code, exceptionTable := #[], attributes := #[] }
def k0m0 : Method := { name := "<init>", desc := "()V", sig := { parameters := [], returnType := none }, accessFlags := 1, code := some k0c0 }
def k0m1 : Method := { name := "getClass", desc := "()Ljava/lang/Class;", sig := { parameters := [], returnType := some (.object "java/lang/Class") }, accessFlags := 273, code := none }
/-- java/lang/Object -/
def k0 : Class := { plain "java/lang/Object" none with
  accessFlags := 33
  interfaces := #[]
  cf := some (fileOf pool0 8 #[] #[{ accessFlags := 1, nameIndex := 5, descriptorIndex := 6, attributes := #[] }, { accessFlags := 273, nameIndex := 11, descriptorIndex := 12, attributes := #[] }] 33 0 #[] #[])
  fields := #[]
  methods := #[k0m0, k0m1]
  instanceTypes := #[]
  staticTypes := #[]
  resolved := Array.replicate 124 none
  statics := none }

def pool1 : Array CpInfo := pool [(2, .class_ 4), (1, u "java/lang/Object"), (0, u "<init>"), (0, u "()V"), (0, .methodref 8 9), (0, .class_ 10), (0, .nameAndType 11 12), (0, u "com/example/umriss/umriss/runtime/BooleanValue"), (0, u "of"), (0, u "(Z)Lcom/example/umriss/umriss/runtime/BooleanValue;"), (0, .methodref 8 14), (0, .nameAndType 15 16), (0, u "value"), (0, u "()Z"), (0, .methodref 8 18), (0, .nameAndType 19 20), (0, u "kind"), (0, u "()Lcom/example/umriss/umriss/runtime/Value$Kind;"), (0, .fieldref 22 23), (0, .class_ 24), (0, .nameAndType 25 26), (0, u "com/example/umriss/umriss/runtime/Value$Kind"), (0, u "BOOLEAN"), (0, u "Lcom/example/umriss/umriss/runtime/Value$Kind;"), (0, .methodref 8 28), (0, .nameAndType 29 30), (0, u "compareTo"), (0, u "(Lcom/example/umriss/umriss/runtime/Value;)I"), (0, .methodref 8 32), (0, .nameAndType 33 34), (0, u "toString"), (0, u "()Ljava/lang/String;"), (0, .string 36), (0, u "true"), (0, .string 38), (0, u "false"), (0, .methodref 40 41), (0, .class_ 42), (0, .nameAndType 43 44), (0, u "java/lang/String"), (0, u "equals"), (0, u "(Ljava/lang/Object;)Z"), (0, .class_ 46), (0, u "com/example/umriss/umriss/runtime/BooleanValueOfPinLaw"), (2, u "law"), (0, u "(II)Z")] 7

def k1m0 : Method := { name := "<init>", desc := "()V", sig := { parameters := [], returnType := none }, accessFlags := 2, code := none }
def k1c1 : Code := { maxStack := 2, maxLocals := 10, code := code, exceptionTable := #[], attributes := #[] }
def k1m1 : Method := { name := "law", desc := "(II)Z", sig := { parameters := [.int, .int], returnType := some .boolean }, accessFlags := 9, code := some k1c1 }
/-- com/example/umriss/umriss/runtime/BooleanValueOfPinLaw -/
def k1 : Class := { plain "com/example/umriss/umriss/runtime/BooleanValueOfPinLaw" (some 0) with
  accessFlags := 49
  interfaces := #[]
  cf := some (fileOf pool1 45 #[] #[{ accessFlags := 2, nameIndex := 5, descriptorIndex := 6, attributes := #[] }, { accessFlags := 9, nameIndex := 49, descriptorIndex := 50, attributes := #[] }] 49 2 #[] #[])
  fields := #[]
  methods := #[k1m0, k1m1]
  instanceTypes := #[]
  staticTypes := #[]
  resolved := Array.replicate 58 none
  statics := none }

def pool2 : Array CpInfo := pool [(1, .class_ 2), (0, u "java/lang/Comparable"), (0, .class_ 4), (0, u "java/lang/Object")] 7

/-- java/lang/Comparable -/
def k2 : Class := { plain "java/lang/Comparable" (some 0) with
  accessFlags := 1537
  interfaces := #[]
  cf := some (fileOf pool2 1 #[] #[] 1537 3 #[] #[])
  fields := #[]
  methods := #[]
  instanceTypes := #[]
  staticTypes := #[]
  resolved := Array.replicate 12 none
  statics := none }

def pool3 : Array CpInfo := pool [(2, .class_ 4), (0, .nameAndType 5 6), (0, u "java/lang/Object"), (0, u "<init>"), (0, u "()V"), (0, .methodref 8 9), (0, .class_ 10), (0, .nameAndType 11 12), (0, u "com/example/umriss/umriss/runtime/Value"), (0, u "kind"), (0, u "()Lcom/example/umriss/umriss/runtime/Value$Kind;"), (0, .methodref 14 15), (0, .class_ 16), (0, .nameAndType 17 18), (0, u "com/example/umriss/umriss/runtime/Value$Kind"), (0, u "compareTo"), (0, u "(Ljava/lang/Enum;)I"), (0, .methodref 8 20), (0, .nameAndType 21 22), (0, u "compareWithinKind"), (0, u "(Lcom/example/umriss/umriss/runtime/Value;)I"), (6, .class_ 30), (0, u "java/lang/StringBuilder"), (0, .methodref 29 3), (0, .methodref 8 33), (0, .nameAndType 34 35), (0, u "appendTo"), (0, u "(Ljava/lang/StringBuilder;)V"), (0, .methodref 29 37), (0, .nameAndType 38 39), (0, u "toString"), (0, u "()Ljava/lang/String;"), (56, .class_ 97), (0, u "java/lang/Comparable")] 50

def k3m0 : Method := { name := "<init>", desc := "()V", sig := { parameters := [], returnType := none }, accessFlags := 0, code := none }
def k3m1 : Method := { name := "kind", desc := "()Lcom/example/umriss/umriss/runtime/Value$Kind;", sig := { parameters := [], returnType := some (.object "com/example/umriss/umriss/runtime/Value$Kind") }, accessFlags := 1025, code := none }
def k3m2 : Method := { name := "compareWithinKind", desc := "(Lcom/example/umriss/umriss/runtime/Value;)I", sig := { parameters := [(.object "com/example/umriss/umriss/runtime/Value")], returnType := some .int }, accessFlags := 1024, code := none }
def k3m3 : Method := { name := "appendTo", desc := "(Ljava/lang/StringBuilder;)V", sig := { parameters := [(.object "java/lang/StringBuilder")], returnType := none }, accessFlags := 1024, code := none }
def k3c4 : Code := { maxStack := 2, maxLocals := 3, code := prog_66_method_5_code, exceptionTable := #[], attributes := #[] }
def k3m4 : Method := { name := "compareTo", desc := "(Lcom/example/umriss/umriss/runtime/Value;)I", sig := { parameters := [(.object "com/example/umriss/umriss/runtime/Value")], returnType := some .int }, accessFlags := 1, code := some k3c4 }
def k3c5 : Code := { maxStack := 2, maxLocals := 2, code := prog_66_method_9_code, exceptionTable := #[], attributes := #[] }
def k3m5 : Method := { name := "toString", desc := "()Ljava/lang/String;", sig := { parameters := [], returnType := some (.object "java/lang/String") }, accessFlags := 1, code := some k3c5 }
/-- com/example/umriss/umriss/runtime/Value -/
def k3 : Class := { plain "com/example/umriss/umriss/runtime/Value" (some 0) with
  accessFlags := 1057
  interfaces := #[2]
  cf := some (fileOf pool3 8 #[.nestMembers #[14]] #[{ accessFlags := 0, nameIndex := 5, descriptorIndex := 6, attributes := #[] }, { accessFlags := 1025, nameIndex := 11, descriptorIndex := 12, attributes := #[] }, { accessFlags := 1024, nameIndex := 21, descriptorIndex := 22, attributes := #[] }, { accessFlags := 1024, nameIndex := 34, descriptorIndex := 35, attributes := #[] }, { accessFlags := 1, nameIndex := 17, descriptorIndex := 22, attributes := #[] }, { accessFlags := 1, nameIndex := 38, descriptorIndex := 39, attributes := #[] }] 1057 2 #[96] #[])
  fields := #[]
  methods := #[k3m0, k3m1, k3m2, k3m3, k3m4, k3m5]
  instanceTypes := #[]
  staticTypes := #[]
  resolved := Array.replicate 148 none
  statics := none }

def pool4 : Array CpInfo := pool [(2, .class_ 4), (1, u "com/example/umriss/umriss/runtime/Value"), (2, .fieldref 8 9), (0, .class_ 10), (0, .nameAndType 11 12), (0, u "com/example/umriss/umriss/runtime/BooleanValue"), (0, u "value"), (0, u "Z"), (0, .fieldref 8 14), (0, .nameAndType 15 16), (0, u "TRUE"), (0, u "Lcom/example/umriss/umriss/runtime/BooleanValue;"), (0, .fieldref 8 18), (0, .nameAndType 19 16), (0, u "FALSE"), (0, .fieldref 21 22), (0, .class_ 23), (0, .nameAndType 24 25), (0, u "com/example/umriss/umriss/runtime/Value$Kind"), (0, u "BOOLEAN"), (0, u "Lcom/example/umriss/umriss/runtime/Value$Kind;"), (0, .methodref 27 28), (0, .class_ 29), (0, .nameAndType 30 31), (0, u "java/lang/Boolean"), (0, u "compare"), (0, u "(ZZ)I"), (0, .methodref 33 34), (0, .class_ 35), (0, .nameAndType 36 37), (0, u "java/lang/StringBuilder"), (0, u "append"), (0, u "(Z)Ljava/lang/StringBuilder;"), (9, u "of"), (0, u "(Z)Lcom/example/umriss/umriss/runtime/BooleanValue;"), (1, u "()Z"), (0, u "kind"), (0, u "()Lcom/example/umriss/umriss/runtime/Value$Kind;"), (0, u "compareWithinKind"), (0, u "(Lcom/example/umriss/umriss/runtime/Value;)I"), (0, u "appendTo"), (0, u "(Ljava/lang/StringBuilder;)V")] 7

def k4c0 : Code := { maxStack := 1, maxLocals := 1, code := prog_7_method_2_code, exceptionTable := #[], attributes := #[] }
def k4m0 : Method := { name := "of", desc := "(Z)Lcom/example/umriss/umriss/runtime/BooleanValue;", sig := { parameters := [.boolean], returnType := some (.object "com/example/umriss/umriss/runtime/BooleanValue") }, accessFlags := 9, code := some k4c0 }
def k4c1 : Code := { maxStack := 1, maxLocals := 1, code := prog_7_method_3_code, exceptionTable := #[], attributes := #[] }
def k4m1 : Method := { name := "value", desc := "()Z", sig := { parameters := [], returnType := some .boolean }, accessFlags := 1, code := some k4c1 }
def k4c2 : Code := { maxStack := 1, maxLocals := 1, code := prog_7_method_4_code, exceptionTable := #[], attributes := #[] }
def k4m2 : Method := { name := "kind", desc := "()Lcom/example/umriss/umriss/runtime/Value$Kind;", sig := { parameters := [], returnType := some (.object "com/example/umriss/umriss/runtime/Value$Kind") }, accessFlags := 1, code := some k4c2 }
def k4c3 : Code := { maxStack := 2, maxLocals := 2, code := prog_7_method_5_code, exceptionTable := #[], attributes := #[] }
def k4m3 : Method := { name := "compareWithinKind", desc := "(Lcom/example/umriss/umriss/runtime/Value;)I", sig := { parameters := [(.object "com/example/umriss/umriss/runtime/Value")], returnType := some .int }, accessFlags := 0, code := some k4c3 }
def k4c4 : Code := { maxStack := 2, maxLocals := 2, code := prog_7_method_6_code, exceptionTable := #[], attributes := #[] }
def k4m4 : Method := { name := "appendTo", desc := "(Ljava/lang/StringBuilder;)V", sig := { parameters := [(.object "java/lang/StringBuilder")], returnType := none }, accessFlags := 0, code := some k4c4 }
/-- com/example/umriss/umriss/runtime/BooleanValue -/
def k4 : Class := { plain "com/example/umriss/umriss/runtime/BooleanValue" (some 3) with
  accessFlags := 49
  interfaces := #[]
  cf := some (fileOf pool4 8 #[] #[{ accessFlags := 9, nameIndex := 47, descriptorIndex := 48, attributes := #[] }, { accessFlags := 1, nameIndex := 11, descriptorIndex := 50, attributes := #[] }, { accessFlags := 1, nameIndex := 51, descriptorIndex := 52, attributes := #[] }, { accessFlags := 0, nameIndex := 53, descriptorIndex := 54, attributes := #[] }, { accessFlags := 0, nameIndex := 55, descriptorIndex := 56, attributes := #[] }] 49 2 #[] #[{ accessFlags := 25, nameIndex := 15, descriptorIndex := 16, attributes := #[] }, { accessFlags := 25, nameIndex := 19, descriptorIndex := 16, attributes := #[] }, { accessFlags := 18, nameIndex := 11, descriptorIndex := 12, attributes := #[] }])
  fields := #[{ name := "TRUE", type := (.object "com/example/umriss/umriss/runtime/BooleanValue"), accessFlags := 25, slot := 0, constantValue := 0 }, { name := "FALSE", type := (.object "com/example/umriss/umriss/runtime/BooleanValue"), accessFlags := 25, slot := 1, constantValue := 0 }, { name := "value", type := .boolean, accessFlags := 18, slot := 0, constantValue := 0 }]
  methods := #[k4m0, k4m1, k4m2, k4m3, k4m4]
  instanceTypes := #[.boolean]
  staticTypes := #[(.object "com/example/umriss/umriss/runtime/BooleanValue"), (.object "com/example/umriss/umriss/runtime/BooleanValue")]
  resolved := Array.replicate 64 none
  statics := some 0 }

def pool5 : Array CpInfo := pool [(1, .class_ 2), (0, u "java/lang/constant/Constable"), (0, .class_ 4), (0, u "java/lang/Object")] 6

/-- java/lang/constant/Constable -/
def k5 : Class := { plain "java/lang/constant/Constable" (some 0) with
  accessFlags := 1537
  interfaces := #[]
  cf := some (fileOf pool5 1 #[] #[] 1537 3 #[] #[])
  fields := #[]
  methods := #[]
  instanceTypes := #[]
  staticTypes := #[]
  resolved := Array.replicate 11 none
  statics := none }

def pool6 : Array CpInfo := pool [(1, .class_ 2), (0, u "java/io/Serializable"), (0, .class_ 4), (0, u "java/lang/Object")] 2

/-- java/io/Serializable -/
def k6 : Class := { plain "java/io/Serializable" (some 0) with
  accessFlags := 1537
  interfaces := #[]
  cf := some (fileOf pool6 1 #[] #[] 1537 3 #[] #[])
  fields := #[]
  methods := #[]
  instanceTypes := #[]
  staticTypes := #[]
  resolved := Array.replicate 7 none
  statics := none }

def pool7 : Array CpInfo := pool [(2, .class_ 4), (1, u "java/lang/Enum"), (0, u "name"), (0, u "Ljava/lang/String;"), (0, .fieldref 2 8), (0, .nameAndType 9 10), (0, u "ordinal"), (0, u "I"), (1, .class_ 14), (1, u "java/lang/Object"), (4, u "hash"), (9, .methodref 12 30), (0, .nameAndType 31 32), (0, u "getClass"), (0, u "()Ljava/lang/Class;"), (70, u "compareTo"), (0, u "(Ljava/lang/Enum;)I"), (1, .class_ 108), (1, u "java/lang/Enum$EnumDesc"), (2, .class_ 112), (0, u "java/lang/constant/Constable"), (0, .class_ 114), (0, u "java/lang/Comparable"), (0, .class_ 116), (0, u "java/io/Serializable")] 87

def k7c0 : Code := { maxStack := 2, maxLocals := 4, code := jdk_37_method_8_code, exceptionTable := #[], attributes := #[] }
def k7m0 : Method := { name := "compareTo", desc := "(Ljava/lang/Enum;)I", sig := { parameters := [(.object "java/lang/Enum")], returnType := some .int }, accessFlags := 17, code := some k7c0 }
/-- java/lang/Enum -/
def k7 : Class := { plain "java/lang/Enum" (some 0) with
  accessFlags := 1057
  interfaces := #[5, 2, 6]
  cf := some (fileOf pool7 2 #[.nestMembers #[106]] #[{ accessFlags := 17, nameIndex := 103, descriptorIndex := 104, attributes := #[] }] 1057 12 #[111, 113, 115] #[{ accessFlags := 18, nameIndex := 5, descriptorIndex := 6, attributes := #[] }, { accessFlags := 18, nameIndex := 9, descriptorIndex := 10, attributes := #[] }, { accessFlags := 2, nameIndex := 19, descriptorIndex := 10, attributes := #[] }])
  fields := #[{ name := "name", type := (.object "java/lang/String"), accessFlags := 18, slot := 0, constantValue := 0 }, { name := "ordinal", type := .int, accessFlags := 18, slot := 1, constantValue := 0 }, { name := "hash", type := .int, accessFlags := 2, slot := 2, constantValue := 0 }]
  methods := #[k7m0]
  instanceTypes := #[(.object "java/lang/String"), .int, .int]
  staticTypes := #[]
  resolved := Array.replicate 204 none
  statics := none }

def pool8 : Array CpInfo := pool [(1, .class_ 2), (0, u "com/example/umriss/umriss/runtime/Value$Kind"), (2, u "NIL"), (0, u "Lcom/example/umriss/umriss/runtime/Value$Kind;"), (2, u "BOOLEAN"), (2, u "NUMBER"), (2, u "CHARACTER"), (2, u "QUOTE"), (2, u "TOKEN"), (2, u "TUPLE"), (2, u "RECORD"), (2, u "SEQUENCE"), (2, u "SET"), (2, u "MAP"), (2, u "FUNCTION"), (2, u "$VALUES"), (0, u "[Lcom/example/umriss/umriss/runtime/Value$Kind;"), (6, .class_ 52), (1, u "java/lang/Enum"), (35, .class_ 89), (0, u "com/example/umriss/umriss/runtime/Value")] 2

/-- com/example/umriss/umriss/runtime/Value$Kind -/
def k8 : Class := { plain "com/example/umriss/umriss/runtime/Value$Kind" (some 7) with
  accessFlags := 16433
  interfaces := #[]
  cf := some (fileOf pool8 1 #[.nestHost 88] #[] 16433 50 #[] #[{ accessFlags := 16409, nameIndex := 5, descriptorIndex := 6, attributes := #[] }, { accessFlags := 16409, nameIndex := 9, descriptorIndex := 6, attributes := #[] }, { accessFlags := 16409, nameIndex := 12, descriptorIndex := 6, attributes := #[] }, { accessFlags := 16409, nameIndex := 15, descriptorIndex := 6, attributes := #[] }, { accessFlags := 16409, nameIndex := 18, descriptorIndex := 6, attributes := #[] }, { accessFlags := 16409, nameIndex := 21, descriptorIndex := 6, attributes := #[] }, { accessFlags := 16409, nameIndex := 24, descriptorIndex := 6, attributes := #[] }, { accessFlags := 16409, nameIndex := 27, descriptorIndex := 6, attributes := #[] }, { accessFlags := 16409, nameIndex := 30, descriptorIndex := 6, attributes := #[] }, { accessFlags := 16409, nameIndex := 33, descriptorIndex := 6, attributes := #[] }, { accessFlags := 16409, nameIndex := 36, descriptorIndex := 6, attributes := #[] }, { accessFlags := 16409, nameIndex := 39, descriptorIndex := 6, attributes := #[] }, { accessFlags := 4122, nameIndex := 42, descriptorIndex := 43, attributes := #[] }])
  fields := #[{ name := "NIL", type := (.object "com/example/umriss/umriss/runtime/Value$Kind"), accessFlags := 16409, slot := 0, constantValue := 0 }, { name := "BOOLEAN", type := (.object "com/example/umriss/umriss/runtime/Value$Kind"), accessFlags := 16409, slot := 1, constantValue := 0 }, { name := "NUMBER", type := (.object "com/example/umriss/umriss/runtime/Value$Kind"), accessFlags := 16409, slot := 2, constantValue := 0 }, { name := "CHARACTER", type := (.object "com/example/umriss/umriss/runtime/Value$Kind"), accessFlags := 16409, slot := 3, constantValue := 0 }, { name := "QUOTE", type := (.object "com/example/umriss/umriss/runtime/Value$Kind"), accessFlags := 16409, slot := 4, constantValue := 0 }, { name := "TOKEN", type := (.object "com/example/umriss/umriss/runtime/Value$Kind"), accessFlags := 16409, slot := 5, constantValue := 0 }, { name := "TUPLE", type := (.object "com/example/umriss/umriss/runtime/Value$Kind"), accessFlags := 16409, slot := 6, constantValue := 0 }, { name := "RECORD", type := (.object "com/example/umriss/umriss/runtime/Value$Kind"), accessFlags := 16409, slot := 7, constantValue := 0 }, { name := "SEQUENCE", type := (.object "com/example/umriss/umriss/runtime/Value$Kind"), accessFlags := 16409, slot := 8, constantValue := 0 }, { name := "SET", type := (.object "com/example/umriss/umriss/runtime/Value$Kind"), accessFlags := 16409, slot := 9, constantValue := 0 }, { name := "MAP", type := (.object "com/example/umriss/umriss/runtime/Value$Kind"), accessFlags := 16409, slot := 10, constantValue := 0 }, { name := "FUNCTION", type := (.object "com/example/umriss/umriss/runtime/Value$Kind"), accessFlags := 16409, slot := 11, constantValue := 0 }, { name := "$VALUES", type := (.array (.object "com/example/umriss/umriss/runtime/Value$Kind")), accessFlags := 4122, slot := 12, constantValue := 0 }]
  methods := #[]
  instanceTypes := #[(.object "java/lang/String"), .int, .int]
  staticTypes := #[(.object "com/example/umriss/umriss/runtime/Value$Kind"), (.object "com/example/umriss/umriss/runtime/Value$Kind"), (.object "com/example/umriss/umriss/runtime/Value$Kind"), (.object "com/example/umriss/umriss/runtime/Value$Kind"), (.object "com/example/umriss/umriss/runtime/Value$Kind"), (.object "com/example/umriss/umriss/runtime/Value$Kind"), (.object "com/example/umriss/umriss/runtime/Value$Kind"), (.object "com/example/umriss/umriss/runtime/Value$Kind"), (.object "com/example/umriss/umriss/runtime/Value$Kind"), (.object "com/example/umriss/umriss/runtime/Value$Kind"), (.object "com/example/umriss/umriss/runtime/Value$Kind"), (.object "com/example/umriss/umriss/runtime/Value$Kind"), (.array (.object "com/example/umriss/umriss/runtime/Value$Kind"))]
  resolved := Array.replicate 92 none
  mirror := some 4
  statics := some 1 }

def pool9 : Array CpInfo := pool [(2, .class_ 4), (1, u "java/lang/Object"), (3, .class_ 10), (1, u "java/lang/Boolean"), (0, u "value"), (0, u "Z"), (16, u "TRUE"), (0, u "Ljava/lang/Boolean;"), (2, u "FALSE"), (24, u "compare"), (0, u "(ZZ)I"), (27, u "TYPE"), (0, u "Ljava/lang/Class;"), (0, .class_ 90), (0, u "java/io/Serializable"), (0, .class_ 92), (0, u "java/lang/Comparable"), (0, .class_ 94), (0, u "java/lang/constant/Constable"), (2, u "serialVersionUID"), (0, u "J")] 53

def k9c0 : Code := { maxStack := 2, maxLocals := 2, code := jdk_2055_method_14_code, exceptionTable := #[], attributes := #[] }
def k9m0 : Method := { name := "compare", desc := "(ZZ)I", sig := { parameters := [.boolean, .boolean], returnType := some .int }, accessFlags := 9, code := some k9c0 }
/-- java/lang/Boolean -/
def k9 : Class := { plain "java/lang/Boolean" (some 0) with
  accessFlags := 49
  interfaces := #[6, 2, 5]
  cf := some (fileOf pool9 8 #[] #[{ accessFlags := 9, nameIndex := 58, descriptorIndex := 59, attributes := #[] }] 49 2 #[89, 91, 93] #[{ accessFlags := 25, nameIndex := 29, descriptorIndex := 30, attributes := #[] }, { accessFlags := 25, nameIndex := 33, descriptorIndex := 30, attributes := #[] }, { accessFlags := 25, nameIndex := 87, descriptorIndex := 88, attributes := #[] }, { accessFlags := 18, nameIndex := 11, descriptorIndex := 12, attributes := #[] }, { accessFlags := 26, nameIndex := 97, descriptorIndex := 98, attributes := #[] }])
  fields := #[{ name := "TRUE", type := (.object "java/lang/Boolean"), accessFlags := 25, slot := 0, constantValue := 0 }, { name := "FALSE", type := (.object "java/lang/Boolean"), accessFlags := 25, slot := 1, constantValue := 0 }, { name := "TYPE", type := (.object "java/lang/Class"), accessFlags := 25, slot := 2, constantValue := 0 }, { name := "value", type := .boolean, accessFlags := 18, slot := 0, constantValue := 0 }, { name := "serialVersionUID", type := .long, accessFlags := 26, slot := 3, constantValue := 0 }]
  methods := #[k9m0]
  instanceTypes := #[.boolean]
  staticTypes := #[(.object "java/lang/Boolean"), (.object "java/lang/Boolean"), (.object "java/lang/Class"), .long]
  resolved := Array.replicate 152 none
  statics := none }

def pool10 : Array CpInfo := pool [(1, .class_ 2), (0, u "java/lang/Appendable"), (0, .class_ 4), (0, u "java/lang/Object")] 9

/-- java/lang/Appendable -/
def k10 : Class := { plain "java/lang/Appendable" (some 0) with
  accessFlags := 1537
  interfaces := #[]
  cf := some (fileOf pool10 1 #[] #[] 1537 3 #[] #[])
  fields := #[]
  methods := #[]
  instanceTypes := #[]
  staticTypes := #[]
  resolved := Array.replicate 14 none
  statics := none }

def pool11 : Array CpInfo := pool [(2, .class_ 4), (1, u "java/lang/CharSequence"), (42, .class_ 48), (0, u "java/lang/CharSequence$1CodePointIterator"), (10, .class_ 60), (0, u "java/lang/CharSequence$1CharIterator"), (5, .class_ 67), (0, u "java/lang/Object")] 63

/-- java/lang/CharSequence -/
def k11 : Class := { plain "java/lang/CharSequence" (some 0) with
  accessFlags := 1537
  interfaces := #[]
  cf := some (fileOf pool11 2 #[.nestMembers #[47, 59]] #[] 1537 66 #[] #[])
  fields := #[]
  methods := #[]
  instanceTypes := #[]
  staticTypes := #[]
  resolved := Array.replicate 131 none
  statics := none }

def pool12 : Array CpInfo := pool [(1, .class_ 2), (0, u "java/lang/String"), (0, .methodref 4 5), (0, .class_ 6), (0, .nameAndType 7 8), (0, u "java/lang/Object"), (0, u "<init>"), (0, u "()V"), (1, .class_ 12), (1, u "java/lang/AbstractStringBuilder"), (0, u "EMPTYVALUE"), (0, u "[B"), (0, .fieldref 10 16), (0, .nameAndType 17 14), (0, u "value"), (0, .fieldref 1 19), (0, .nameAndType 20 21), (0, u "COMPACT_STRINGS"), (0, u "Z"), (0, .fieldref 10 23), (0, .nameAndType 24 25), (0, u "coder"), (0, u "B"), (8, u "length"), (0, u "()I"), (9, u "append"), (2, .class_ 49), (0, u "java/lang/CharSequence"), (25, u "maybeLatin1"), (3, .fieldref 10 80), (0, .nameAndType 81 82), (0, u "count"), (0, u "I"), (0, .methodref 10 84), (0, .nameAndType 85 86), (0, u "isLatin1"), (0, u "()Z"), (13, .methodref 10 101), (0, .nameAndType 102 103), (0, u "ensureCapacityInternal"), (0, u "(I)V"), (299, u "()[B"), (40, .class_ 445), (0, u "java/lang/Appendable"), (62, u "(Z)Ljava/lang/AbstractStringBuilder;"), (43, u "getValue")] 56

def k12m0 : Method := { name := "<init>", desc := "()V", sig := { parameters := [], returnType := none }, accessFlags := 0, code := none }
def k12c1 : Code := { maxStack := 2, maxLocals := 2, code := jdk_68_method_2_code, exceptionTable := #[], attributes := #[] }
def k12m1 : Method := { name := "<init>", desc := "(I)V", sig := { parameters := [.int], returnType := none }, accessFlags := 0, code := some k12c1 }
def k12c2 : Code := { maxStack := 1, maxLocals := 1, code := jdk_68_method_6_code, exceptionTable := #[], attributes := #[] }
def k12m2 : Method := { name := "length", desc := "()I", sig := { parameters := [], returnType := some .int }, accessFlags := 1, code := some k12c2 }
def k12c3 : Code := { maxStack := 4, maxLocals := 3, code := jdk_68_method_9_code, exceptionTable := #[], attributes := #[] }
def k12m3 : Method := { name := "ensureCapacityInternal", desc := "(I)V", sig := { parameters := [.int], returnType := none }, accessFlags := 2, code := some k12c3 }
def k12c4 : Code := { maxStack := 7, maxLocals := 4, code := jdk_68_method_30_code, exceptionTable := #[], attributes := #[] }
def k12m4 : Method := { name := "append", desc := "(Z)Ljava/lang/AbstractStringBuilder;", sig := { parameters := [.boolean], returnType := some (.object "java/lang/AbstractStringBuilder") }, accessFlags := 1, code := some k12c4 }
def k12c5 : Code := { maxStack := 1, maxLocals := 1, code := jdk_68_method_64_code, exceptionTable := #[], attributes := #[] }
def k12m5 : Method := { name := "getValue", desc := "()[B", sig := { parameters := [], returnType := some (.array .byte) }, accessFlags := 16, code := some k12c5 }
def k12c6 : Code := { maxStack := 1, maxLocals := 1, code := jdk_68_method_68_code, exceptionTable := #[], attributes := #[] }
def k12m6 : Method := { name := "isLatin1", desc := "()Z", sig := { parameters := [], returnType := some .boolean }, accessFlags := 16, code := some k12c6 }
/-- java/lang/AbstractStringBuilder -/
def k12 : Class := { plain "java/lang/AbstractStringBuilder" (some 0) with
  accessFlags := 1056
  interfaces := #[10, 11]
  cf := some (fileOf pool12 10 #[] #[{ accessFlags := 0, nameIndex := 7, descriptorIndex := 8, attributes := #[] }, { accessFlags := 0, nameIndex := 7, descriptorIndex := 103, attributes := #[] }, { accessFlags := 1, nameIndex := 34, descriptorIndex := 35, attributes := #[] }, { accessFlags := 2, nameIndex := 102, descriptorIndex := 103, attributes := #[] }, { accessFlags := 1, nameIndex := 45, descriptorIndex := 508, attributes := #[] }, { accessFlags := 16, nameIndex := 552, descriptorIndex := 403, attributes := #[] }, { accessFlags := 16, nameIndex := 85, descriptorIndex := 86, attributes := #[] }] 1056 4 #[444, 48] #[{ accessFlags := 0, nameIndex := 17, descriptorIndex := 14, attributes := #[] }, { accessFlags := 0, nameIndex := 24, descriptorIndex := 25, attributes := #[] }, { accessFlags := 0, nameIndex := 75, descriptorIndex := 21, attributes := #[] }, { accessFlags := 0, nameIndex := 81, descriptorIndex := 82, attributes := #[] }, { accessFlags := 26, nameIndex := 13, descriptorIndex := 14, attributes := #[] }])
  fields := #[{ name := "value", type := (.array .byte), accessFlags := 0, slot := 0, constantValue := 0 }, { name := "coder", type := .byte, accessFlags := 0, slot := 1, constantValue := 0 }, { name := "maybeLatin1", type := .boolean, accessFlags := 0, slot := 2, constantValue := 0 }, { name := "count", type := .int, accessFlags := 0, slot := 3, constantValue := 0 }, { name := "EMPTYVALUE", type := (.array .byte), accessFlags := 26, slot := 0, constantValue := 0 }]
  methods := #[k12m0, k12m1, k12m2, k12m3, k12m4, k12m5, k12m6]
  instanceTypes := #[(.array .byte), .byte, .boolean, .int]
  staticTypes := #[(.array .byte)]
  resolved := Array.replicate 609 none
  statics := none }

def pool13 : Array CpInfo := pool [(1, .methodref 2 3), (0, .class_ 4), (0, .nameAndType 5 6), (0, u "java/lang/AbstractStringBuilder"), (0, u "<init>"), (0, u "(I)V"), (11, .class_ 20), (1, u "java/lang/String"), (3, .class_ 26), (1, u "java/lang/StringBuilder"), (0, u "append"), (19, .methodref 2 48), (0, .nameAndType 27 49), (0, u "(Z)Ljava/lang/AbstractStringBuilder;"), (87, .methodref 18 138), (0, .nameAndType 5 139), (0, u "(Ljava/lang/StringBuilder;)V"), (5, u "()V"), (10, u "()I"), (132, u "(Z)Ljava/lang/StringBuilder;"), (53, .methodref 2 344), (0, .nameAndType 345 156), (0, u "length"), (3, .class_ 350), (0, u "java/lang/Appendable"), (0, .class_ 352), (0, u "java/io/Serializable"), (0, .class_ 354), (0, u "java/lang/Comparable"), (0, .class_ 356), (0, u "java/lang/CharSequence"), (0, u "serialVersionUID"), (0, u "J"), (40, u "toString"), (0, u "()Ljava/lang/String;")] 21

def k13c0 : Code := { maxStack := 2, maxLocals := 1, code := jdk_67_method_1_code, exceptionTable := #[], attributes := #[] }
def k13m0 : Method := { name := "<init>", desc := "()V", sig := { parameters := [], returnType := none }, accessFlags := 1, code := some k13c0 }
def k13c1 : Code := { maxStack := 2, maxLocals := 2, code := jdk_67_method_13_code, exceptionTable := #[], attributes := #[] }
def k13m1 : Method := { name := "append", desc := "(Z)Ljava/lang/StringBuilder;", sig := { parameters := [.boolean], returnType := some (.object "java/lang/StringBuilder") }, accessFlags := 1, code := some k13c1 }
def k13c2 : Code := { maxStack := 3, maxLocals := 1, code := jdk_67_method_42_code, exceptionTable := #[], attributes := #[] }
def k13m2 : Method := { name := "toString", desc := "()Ljava/lang/String;", sig := { parameters := [], returnType := some (.object "java/lang/String") }, accessFlags := 1, code := some k13c2 }
def k13c3 : Code := { maxStack := 1, maxLocals := 1, code := jdk_67_method_93_code, exceptionTable := #[], attributes := #[] }
def k13m3 : Method := { name := "length", desc := "()I", sig := { parameters := [], returnType := some .int }, accessFlags := 4161, code := some k13c3 }
/-- java/lang/StringBuilder -/
def k13 : Class := { plain "java/lang/StringBuilder" (some 12) with
  accessFlags := 49
  interfaces := #[10, 6, 2, 11]
  cf := some (fileOf pool13 24 #[] #[{ accessFlags := 1, nameIndex := 5, descriptorIndex := 145, attributes := #[] }, { accessFlags := 1, nameIndex := 27, descriptorIndex := 289, attributes := #[] }, { accessFlags := 1, nameIndex := 399, descriptorIndex := 400, attributes := #[] }, { accessFlags := 4161, nameIndex := 345, descriptorIndex := 156, attributes := #[] }] 49 2 #[349, 351, 353, 355] #[{ accessFlags := 24, nameIndex := 357, descriptorIndex := 358, attributes := #[] }])
  fields := #[{ name := "serialVersionUID", type := .long, accessFlags := 24, slot := 0, constantValue := 0 }]
  methods := #[k13m0, k13m1, k13m2, k13m3]
  instanceTypes := #[(.array .byte), .byte, .boolean, .int]
  staticTypes := #[.long]
  resolved := Array.replicate 422 none
  statics := none }

def pool14 : Array CpInfo := pool [(1, .class_ 2), (0, u "java/lang/constant/ConstantDesc"), (0, .class_ 4), (0, u "java/lang/Object")] 32

/-- java/lang/constant/ConstantDesc -/
def k14 : Class := { plain "java/lang/constant/ConstantDesc" (some 0) with
  accessFlags := 1537
  interfaces := #[]
  cf := some (fileOf pool14 1 #[] #[] 1537 3 #[] #[])
  fields := #[]
  methods := #[]
  instanceTypes := #[]
  staticTypes := #[]
  resolved := Array.replicate 37 none
  statics := none }

def pool15 : Array CpInfo := pool [(1, .methodref 2 3), (0, .class_ 4), (0, .nameAndType 5 6), (0, u "java/lang/Object"), (0, u "<init>"), (0, u "()V"), (2, .fieldref 10 11), (0, .class_ 12), (0, .nameAndType 13 14), (0, u "java/lang/String"), (0, u "value"), (0, u "[B"), (0, .fieldref 10 16), (0, .nameAndType 17 18), (0, u "coder"), (0, u "B"), (2, u "hash"), (0, u "I"), (2, u "hashIsZero"), (0, u "Z"), (11, .fieldref 10 39), (0, .nameAndType 40 26), (0, u "COMPACT_STRINGS"), (13, .methodref 55 56), (0, .class_ 57), (0, .nameAndType 58 59), (0, u "java/util/Arrays"), (0, u "copyOfRange"), (0, u "([BII)[B"), (47, .class_ 109), (1, u "java/lang/StringLatin1"), (32, u "()Z"), (191, u "()I"), (5, u "()[B"), (148, .methodref 10 490), (0, .nameAndType 5 491), (0, u "(Ljava/lang/AbstractStringBuilder;Ljava/lang/Void;)V"), (1, .nameAndType 494 142), (0, u "isLatin1"), (11, .nameAndType 507 334), (0, u "length"), (33, .methodref 107 542), (0, .nameAndType 543 544), (0, u "equals"), (0, u "([B[B)Z"), (4, .methodref 550 506), (0, .class_ 551), (0, u "java/lang/AbstractStringBuilder"), (0, .methodref 550 553), (0, .nameAndType 554 340), (0, u "getValue"), (18, u "(Ljava/lang/Object;)Z"), (1, .class_ 576), (0, u "java/lang/CharSequence"), (22, u "CASE_INSENSITIVE_ORDER"), (0, u "Ljava/util/Comparator;"), (446, .methodref 550 493), (53, u "serialPersistentFields"), (0, u "[Ljava/io/ObjectStreamField;"), (0, .class_ 1104), (0, u "java/lang/String$CaseInsensitiveComparator"), (1, .class_ 1107), (0, u "java/io/Serializable"), (0, .class_ 1109), (0, u "java/lang/Comparable"), (0, .class_ 1111), (0, u "java/lang/constant/Constable"), (0, .class_ 1113), (0, u "java/lang/constant/ConstantDesc"), (2, u "serialVersionUID"), (0, u "J"), (3, u "REPL"), (0, u "C"), (2, u "LATIN1"), (1, u "UTF16"), (105, u "(Ljava/lang/StringBuilder;)V")] 217

def k15m0 : Method := { name := "<init>", desc := "()V", sig := { parameters := [], returnType := none }, accessFlags := 1, code := none }
def k15c1 : Code := { maxStack := 3, maxLocals := 2, code := jdk_42_method_53_code, exceptionTable := #[], attributes := #[] }
def k15m1 : Method := { name := "<init>", desc := "(Ljava/lang/StringBuilder;)V", sig := { parameters := [(.object "java/lang/StringBuilder")], returnType := none }, accessFlags := 1, code := some k15c1 }
def k15c2 : Code := { maxStack := 2, maxLocals := 3, code := jdk_42_method_66_code, exceptionTable := #[], attributes := #[] }
def k15m2 : Method := { name := "equals", desc := "(Ljava/lang/Object;)Z", sig := { parameters := [(.object "java/lang/Object")], returnType := some .boolean }, accessFlags := 1, code := some k15c2 }
def k15c3 : Code := { maxStack := 5, maxLocals := 5, code := jdk_42_method_150_code, exceptionTable := #[], attributes := #[] }
def k15m3 : Method := { name := "<init>", desc := "(Ljava/lang/AbstractStringBuilder;Ljava/lang/Void;)V", sig := { parameters := [(.object "java/lang/AbstractStringBuilder"), (.object "java/lang/Void")], returnType := none }, accessFlags := 0, code := some k15c3 }
/-- java/lang/String -/
def k15 : Class := { plain "java/lang/String" (some 0) with
  accessFlags := 49
  interfaces := #[6, 2, 11, 5, 14]
  cf := some (fileOf pool15 10 #[.nestMembers #[1103]] #[{ accessFlags := 1, nameIndex := 5, descriptorIndex := 6, attributes := #[] }, { accessFlags := 1, nameIndex := 5, descriptorIndex := 1233, attributes := #[] }, { accessFlags := 1, nameIndex := 543, descriptorIndex := 573, attributes := #[] }, { accessFlags := 0, nameIndex := 5, descriptorIndex := 491, attributes := #[] }] 49 2 #[1106, 1108, 575, 1110, 1112] #[{ accessFlags := 18, nameIndex := 13, descriptorIndex := 14, attributes := #[] }, { accessFlags := 18, nameIndex := 17, descriptorIndex := 18, attributes := #[] }, { accessFlags := 2, nameIndex := 21, descriptorIndex := 22, attributes := #[] }, { accessFlags := 2, nameIndex := 25, descriptorIndex := 26, attributes := #[] }, { accessFlags := 26, nameIndex := 1116, descriptorIndex := 1117, attributes := #[] }, { accessFlags := 24, nameIndex := 40, descriptorIndex := 26, attributes := #[] }, { accessFlags := 26, nameIndex := 1101, descriptorIndex := 1102, attributes := #[] }, { accessFlags := 26, nameIndex := 1121, descriptorIndex := 1122, attributes := #[] }, { accessFlags := 25, nameIndex := 599, descriptorIndex := 600, attributes := #[] }, { accessFlags := 24, nameIndex := 1125, descriptorIndex := 18, attributes := #[] }, { accessFlags := 24, nameIndex := 1127, descriptorIndex := 18, attributes := #[] }])
  fields := #[{ name := "value", type := (.array .byte), accessFlags := 18, slot := 0, constantValue := 0 }, { name := "coder", type := .byte, accessFlags := 18, slot := 1, constantValue := 0 }, { name := "hash", type := .int, accessFlags := 2, slot := 2, constantValue := 0 }, { name := "hashIsZero", type := .boolean, accessFlags := 2, slot := 3, constantValue := 0 }, { name := "serialVersionUID", type := .long, accessFlags := 26, slot := 0, constantValue := 0 }, { name := "COMPACT_STRINGS", type := .boolean, accessFlags := 24, slot := 1, constantValue := 0 }, { name := "serialPersistentFields", type := (.array (.object "java/io/ObjectStreamField")), accessFlags := 26, slot := 2, constantValue := 0 }, { name := "REPL", type := .char, accessFlags := 26, slot := 3, constantValue := 0 }, { name := "CASE_INSENSITIVE_ORDER", type := (.object "java/util/Comparator"), accessFlags := 25, slot := 4, constantValue := 0 }, { name := "LATIN1", type := .byte, accessFlags := 24, slot := 5, constantValue := 0 }, { name := "UTF16", type := .byte, accessFlags := 24, slot := 6, constantValue := 0 }]
  methods := #[k15m0, k15m1, k15m2, k15m3]
  instanceTypes := #[(.array .byte), .byte, .int, .boolean]
  staticTypes := #[.long, .boolean, (.array (.object "java/io/ObjectStreamField")), .char, (.object "java/util/Comparator"), .byte, .byte]
  resolved := Array.replicate 1451 none
  statics := some 2 }

def pool16 : Array CpInfo := pool [(2, .class_ 4), (1, u "java/lang/Object"), (0, u "<init>"), (0, u "()V"), (7, .class_ 16), (1, u "java/util/Arrays"), (57, .class_ 76), (1, u "java/util/Arrays$NaturalOrder"), (36, .class_ 115), (1, u "java/util/Arrays$LegacyMergeSort"), (1, u "Z"), (21, u "copyOfRange"), (10, .methodref 151 152), (0, .class_ 153), (0, .nameAndType 154 155), (0, u "java/lang/System"), (0, u "arraycopy"), (0, u "(Ljava/lang/Object;ILjava/lang/Object;II)V"), (148, .methodref 305 306), (0, .class_ 307), (0, .nameAndType 308 309), (0, u "java/lang/Math"), (0, u "min"), (0, u "(II)I"), (29, .methodref 14 340), (0, .nameAndType 341 342), (0, u "copyOfRangeByte"), (0, u "([BII)[B"), (0, .methodref 14 344), (0, .nameAndType 345 346), (0, u "checkLength"), (0, u "(II)V"), (28, .class_ 376), (0, u "java/util/Arrays$ArrayList"), (68, u "$assertionsDisabled"), (269, u "MIN_ARRAY_SORT_GRAN"), (0, u "I"), (2, u "INSERTIONSORT_THRESHOLD"), (255, .class_ 976), (0, u "java/util/Arrays$ArrayItr")] 52

def k16m0 : Method := { name := "<init>", desc := "()V", sig := { parameters := [], returnType := none }, accessFlags := 2, code := none }
def k16c1 : Code := { maxStack := 4, maxLocals := 2, code := jdk_65_method_131_code, exceptionTable := #[], attributes := #[] }
def k16m1 : Method := { name := "checkLength", desc := "(II)V", sig := { parameters := [.int, .int], returnType := none }, accessFlags := 10, code := some k16c1 }
def k16c2 : Code := { maxStack := 3, maxLocals := 3, code := jdk_65_method_132_code, exceptionTable := #[], attributes := #[] }
def k16m2 : Method := { name := "copyOfRange", desc := "([BII)[B", sig := { parameters := [(.array .byte), .int, .int], returnType := some (.array .byte) }, accessFlags := 9, code := some k16c2 }
def k16c3 : Code := { maxStack := 6, maxLocals := 5, code := jdk_65_method_133_code, exceptionTable := #[], attributes := #[] }
def k16m3 : Method := { name := "copyOfRangeByte", desc := "([BII)[B", sig := { parameters := [(.array .byte), .int, .int], returnType := some (.array .byte) }, accessFlags := 10, code := some k16c3 }
/-- java/util/Arrays -/
def k16 : Class := { plain "java/util/Arrays" (some 0) with
  accessFlags := 49
  interfaces := #[]
  cf := some (fileOf pool16 14 #[.nestMembers #[975, 375, 113, 74]] #[{ accessFlags := 2, nameIndex := 5, descriptorIndex := 6, attributes := #[] }, { accessFlags := 10, nameIndex := 345, descriptorIndex := 346, attributes := #[] }, { accessFlags := 9, nameIndex := 139, descriptorIndex := 342, attributes := #[] }, { accessFlags := 10, nameIndex := 341, descriptorIndex := 342, attributes := #[] }] 49 2 #[] #[{ accessFlags := 26, nameIndex := 715, descriptorIndex := 716, attributes := #[] }, { accessFlags := 26, nameIndex := 719, descriptorIndex := 716, attributes := #[] }, { accessFlags := 4120, nameIndex := 445, descriptorIndex := 117, attributes := #[] }])
  fields := #[{ name := "MIN_ARRAY_SORT_GRAN", type := .int, accessFlags := 26, slot := 0, constantValue := 0 }, { name := "INSERTIONSORT_THRESHOLD", type := .int, accessFlags := 26, slot := 1, constantValue := 0 }, { name := "$assertionsDisabled", type := .boolean, accessFlags := 4120, slot := 2, constantValue := 0 }]
  methods := #[k16m0, k16m1, k16m2, k16m3]
  instanceTypes := #[]
  staticTypes := #[.int, .int, .boolean]
  resolved := Array.replicate 1029 none
  statics := none }

def pool17 : Array CpInfo := pool [(1, .class_ 2), (0, u "java/lang/Math"), (1, .class_ 6), (1, u "java/lang/Object"), (0, u "<init>"), (0, u "()V"), (89, .class_ 100), (1, u "java/lang/Math$RandomNumberGeneratorHolder"), (71, u "negativeZeroFloatBits"), (0, u "J"), (2, u "negativeZeroDoubleBits"), (24, u "min"), (43, u "$assertionsDisabled"), (0, u "Z"), (88, u "(II)I"), (2, u "twoToTheDoubleScaleDown"), (0, u "D"), (4, u "twoToTheDoubleScaleUp"), (9, u "E"), (3, u "PI"), (2, u "TAU"), (2, u "DEGREES_TO_RADIANS"), (0, u "RADIANS_TO_DEGREES")] 94

def k17m0 : Method := { name := "<init>", desc := "()V", sig := { parameters := [], returnType := none }, accessFlags := 2, code := none }
def k17c1 : Code := { maxStack := 2, maxLocals := 2, code := jdk_29_method_69_code, exceptionTable := #[], attributes := #[] }
def k17m1 : Method := { name := "min", desc := "(II)I", sig := { parameters := [.int, .int], returnType := some .int }, accessFlags := 9, code := some k17c1 }
/-- java/lang/Math -/
def k17 : Class := { plain "java/lang/Math" (some 0) with
  accessFlags := 49
  interfaces := #[]
  cf := some (fileOf pool17 1 #[.nestMembers #[98]] #[{ accessFlags := 2, nameIndex := 7, descriptorIndex := 8, attributes := #[] }, { accessFlags := 9, nameIndex := 201, descriptorIndex := 335, attributes := #[] }] 49 4 #[] #[{ accessFlags := 25, nameIndex := 354, descriptorIndex := 339, attributes := #[] }, { accessFlags := 25, nameIndex := 358, descriptorIndex := 339, attributes := #[] }, { accessFlags := 25, nameIndex := 361, descriptorIndex := 339, attributes := #[] }, { accessFlags := 26, nameIndex := 364, descriptorIndex := 339, attributes := #[] }, { accessFlags := 26, nameIndex := 365, descriptorIndex := 339, attributes := #[] }, { accessFlags := 26, nameIndex := 172, descriptorIndex := 173, attributes := #[] }, { accessFlags := 26, nameIndex := 176, descriptorIndex := 173, attributes := #[] }, { accessFlags := 8, nameIndex := 344, descriptorIndex := 339, attributes := #[] }, { accessFlags := 8, nameIndex := 338, descriptorIndex := 339, attributes := #[] }, { accessFlags := 4120, nameIndex := 245, descriptorIndex := 246, attributes := #[] }])
  fields := #[{ name := "E", type := .double, accessFlags := 25, slot := 0, constantValue := 0 }, { name := "PI", type := .double, accessFlags := 25, slot := 1, constantValue := 0 }, { name := "TAU", type := .double, accessFlags := 25, slot := 2, constantValue := 0 }, { name := "DEGREES_TO_RADIANS", type := .double, accessFlags := 26, slot := 3, constantValue := 0 }, { name := "RADIANS_TO_DEGREES", type := .double, accessFlags := 26, slot := 4, constantValue := 0 }, { name := "negativeZeroFloatBits", type := .long, accessFlags := 26, slot := 5, constantValue := 0 }, { name := "negativeZeroDoubleBits", type := .long, accessFlags := 26, slot := 6, constantValue := 0 }, { name := "twoToTheDoubleScaleUp", type := .double, accessFlags := 8, slot := 7, constantValue := 0 }, { name := "twoToTheDoubleScaleDown", type := .double, accessFlags := 8, slot := 8, constantValue := 0 }, { name := "$assertionsDisabled", type := .boolean, accessFlags := 4120, slot := 9, constantValue := 0 }]
  methods := #[k17m0, k17m1]
  instanceTypes := #[]
  staticTypes := #[.double, .double, .double, .double, .double, .long, .long, .double, .double, .boolean]
  resolved := Array.replicate 460 none
  statics := none }

def pool18 : Array CpInfo := pool [(2, .class_ 4), (1, u "java/lang/Object"), (0, u "<init>"), (0, u "()V"), (1, .class_ 10), (1, u "java/lang/System"), (0, u "allowSecurityManager"), (0, u "I"), (16, u "cons"), (0, u "Ljava/io/Console;"), (77, .class_ 110), (1, u "java/lang/System$CallersHolder"), (43, u "initialErrStream"), (0, u "Ljava/io/PrintStream;"), (19, u "security"), (0, u "Ljava/lang/SecurityManager;"), (31, .class_ 209), (0, u "java/lang/System$1"), (7, u "props"), (0, u "Ljava/util/Properties;"), (2, u "lineSeparator"), (0, u "Ljava/lang/String;"), (96, .class_ 321), (1, u "java/lang/System$LoggerFinder"), (5, .class_ 328), (0, u "java/lang/System$Logger"), (67, u "err"), (2, u "out"), (91, u "notSupportedJnuEncoding"), (15, u "in"), (17, u "initialIn"), (0, u "Ljava/io/InputStream;"), (35, u "bootLayer"), (0, u "Ljava/lang/ModuleLayer;"), (99, .class_ 664), (0, u "java/lang/System$2"), (9, u "NEVER"), (2, u "MAYBE"), (49, u "arraycopy"), (0, u "(Ljava/lang/Object;ILjava/lang/Object;II)V"), (72, .class_ 802), (0, u "java/lang/System$Logger$Level")] 31

def k18m0 : Method := { name := "<init>", desc := "()V", sig := { parameters := [], returnType := none }, accessFlags := 2, code := none }
def k18m1 : Method := { name := "arraycopy", desc := "(Ljava/lang/Object;ILjava/lang/Object;II)V", sig := { parameters := [(.object "java/lang/Object"), .int, (.object "java/lang/Object"), .int, .int], returnType := none }, accessFlags := 265, code := none }
/-- java/lang/System -/
def k18 : Class := { plain "java/lang/System" (some 0) with
  accessFlags := 49
  interfaces := #[]
  cf := some (fileOf pool18 8 #[.nestMembers #[319, 327, 801, 108, 663, 208]] #[{ accessFlags := 2, nameIndex := 5, descriptorIndex := 6, attributes := #[] }, { accessFlags := 265, nameIndex := 727, descriptorIndex := 728, attributes := #[] }] 49 2 #[] #[{ accessFlags := 25, nameIndex := 507, descriptorIndex := 526, attributes := #[] }, { accessFlags := 25, nameIndex := 399, descriptorIndex := 155, attributes := #[] }, { accessFlags := 25, nameIndex := 396, descriptorIndex := 155, attributes := #[] }, { accessFlags := 10, nameIndex := 525, descriptorIndex := 526, attributes := #[] }, { accessFlags := 26, nameIndex := 674, descriptorIndex := 12, attributes := #[] }, { accessFlags := 26, nameIndex := 677, descriptorIndex := 12, attributes := #[] }, { accessFlags := 10, nameIndex := 11, descriptorIndex := 12, attributes := #[] }, { accessFlags := 74, nameIndex := 175, descriptorIndex := 176, attributes := #[] }, { accessFlags := 10, nameIndex := 491, descriptorIndex := 222, attributes := #[] }, { accessFlags := 74, nameIndex := 29, descriptorIndex := 30, attributes := #[] }, { accessFlags := 74, nameIndex := 154, descriptorIndex := 155, attributes := #[] }, { accessFlags := 10, nameIndex := 217, descriptorIndex := 218, attributes := #[] }, { accessFlags := 10, nameIndex := 221, descriptorIndex := 222, attributes := #[] }, { accessFlags := 8, nameIndex := 562, descriptorIndex := 563, attributes := #[] }])
  fields := #[{ name := "in", type := (.object "java/io/InputStream"), accessFlags := 25, slot := 0, constantValue := 0 }, { name := "out", type := (.object "java/io/PrintStream"), accessFlags := 25, slot := 1, constantValue := 0 }, { name := "err", type := (.object "java/io/PrintStream"), accessFlags := 25, slot := 2, constantValue := 0 }, { name := "initialIn", type := (.object "java/io/InputStream"), accessFlags := 10, slot := 3, constantValue := 0 }, { name := "NEVER", type := .int, accessFlags := 26, slot := 4, constantValue := 0 }, { name := "MAYBE", type := .int, accessFlags := 26, slot := 5, constantValue := 0 }, { name := "allowSecurityManager", type := .int, accessFlags := 10, slot := 6, constantValue := 0 }, { name := "security", type := (.object "java/lang/SecurityManager"), accessFlags := 74, slot := 7, constantValue := 0 }, { name := "notSupportedJnuEncoding", type := (.object "java/lang/String"), accessFlags := 10, slot := 8, constantValue := 0 }, { name := "cons", type := (.object "java/io/Console"), accessFlags := 74, slot := 9, constantValue := 0 }, { name := "initialErrStream", type := (.object "java/io/PrintStream"), accessFlags := 74, slot := 10, constantValue := 0 }, { name := "props", type := (.object "java/util/Properties"), accessFlags := 10, slot := 11, constantValue := 0 }, { name := "lineSeparator", type := (.object "java/lang/String"), accessFlags := 10, slot := 12, constantValue := 0 }, { name := "bootLayer", type := (.object "java/lang/ModuleLayer"), accessFlags := 8, slot := 13, constantValue := 0 }]
  methods := #[k18m0, k18m1]
  instanceTypes := #[]
  staticTypes := #[(.object "java/io/InputStream"), (.object "java/io/PrintStream"), (.object "java/io/PrintStream"), (.object "java/io/InputStream"), .int, .int, .int, (.object "java/lang/SecurityManager"), (.object "java/lang/String"), (.object "java/io/Console"), (.object "java/io/PrintStream"), (.object "java/util/Properties"), (.object "java/lang/String"), (.object "java/lang/ModuleLayer")]
  resolved := Array.replicate 834 none
  statics := none }

def pool19 : Array CpInfo := pool [(4, .class_ 6), (1, u "java/lang/Object"), (0, u "<init>"), (0, u "()V"), (5, .class_ 16), (1, u "java/lang/StringLatin1"), (104, u "$assertionsDisabled"), (0, u "Z"), (98, .class_ 223), (1, u "java/lang/StringLatin1$LinesSpliterator"), (57, u "equals"), (0, u "([B[B)Z"), (107, .class_ 391), (0, u "java/lang/StringLatin1$CharsSpliterator")] 3

def k19m0 : Method := { name := "<init>", desc := "()V", sig := { parameters := [], returnType := none }, accessFlags := 0, code := none }
def k19c1 : Code := { maxStack := 3, maxLocals := 3, code := jdk_43_method_13_code, exceptionTable := #[], attributes := #[] }
def k19m1 : Method := { name := "equals", desc := "([B[B)Z", sig := { parameters := [(.array .byte), (.array .byte)], returnType := some .boolean }, accessFlags := 9, code := some k19c1 }
/-- java/lang/StringLatin1 -/
def k19 : Class := { plain "java/lang/StringLatin1" (some 0) with
  accessFlags := 48
  interfaces := #[]
  cf := some (fileOf pool19 14 #[.nestMembers #[390, 221]] #[{ accessFlags := 0, nameIndex := 7, descriptorIndex := 8, attributes := #[] }, { accessFlags := 9, nameIndex := 281, descriptorIndex := 282, attributes := #[] }] 48 4 #[] #[{ accessFlags := 4120, nameIndex := 121, descriptorIndex := 122, attributes := #[] }])
  fields := #[{ name := "$assertionsDisabled", type := .boolean, accessFlags := 4120, slot := 0, constantValue := 0 }]
  methods := #[k19m0, k19m1]
  instanceTypes := #[]
  staticTypes := #[.boolean]
  resolved := Array.replicate 395 none
  statics := none }

def pool20 : Array CpInfo := pool [(2, .class_ 4), (1, u "java/lang/Object"), (0, u "<init>"), (0, u "()V"), (17, .class_ 26), (1, u "jdk/internal/util/Preconditions"), (28, .class_ 56), (0, u "jdk/internal/util/Preconditions$4"), (57, .class_ 115), (0, u "jdk/internal/util/Preconditions$1"), (7, u "SIOOBE_FORMATTER"), (0, u "Ljava/util/function/BiFunction;"), (0, .class_ 126), (0, u "jdk/internal/util/Preconditions$2"), (3, u "AIOOBE_FORMATTER"), (0, .class_ 132), (0, u "jdk/internal/util/Preconditions$3"), (3, u "IOOBE_FORMATTER")] 57

def k20m0 : Method := { name := "<init>", desc := "()V", sig := { parameters := [], returnType := none }, accessFlags := 1, code := none }
/-- jdk/internal/util/Preconditions -/
def k20 : Class := { plain "jdk/internal/util/Preconditions" (some 0) with
  accessFlags := 33
  interfaces := #[]
  cf := some (fileOf pool20 24 #[.nestMembers #[55, 131, 125, 114]] #[{ accessFlags := 1, nameIndex := 5, descriptorIndex := 6, attributes := #[] }] 33 2 #[] #[{ accessFlags := 25, nameIndex := 123, descriptorIndex := 124, attributes := #[] }, { accessFlags := 25, nameIndex := 130, descriptorIndex := 124, attributes := #[] }, { accessFlags := 25, nameIndex := 136, descriptorIndex := 124, attributes := #[] }])
  fields := #[{ name := "SIOOBE_FORMATTER", type := (.object "java/util/function/BiFunction"), accessFlags := 25, slot := 0, constantValue := 0 }, { name := "AIOOBE_FORMATTER", type := (.object "java/util/function/BiFunction"), accessFlags := 25, slot := 1, constantValue := 0 }, { name := "IOOBE_FORMATTER", type := (.object "java/util/function/BiFunction"), accessFlags := 25, slot := 2, constantValue := 0 }]
  methods := #[k20m0]
  instanceTypes := #[]
  staticTypes := #[(.object "java/util/function/BiFunction"), (.object "java/util/function/BiFunction"), (.object "java/util/function/BiFunction")]
  resolved := Array.replicate 194 none
  statics := some 3 }

def pool21 : Array CpInfo := pool [(9, u "<init>"), (6, .class_ 18), (1, u "java/lang/Object"), (0, u "()V"), (1, .class_ 23), (1, u "jdk/internal/util/ArraysSupport"), (0, u "LOG2_ARRAY_LONG_INDEX_SCALE"), (0, u "I"), (2, u "U"), (0, u "Ljdk/internal/misc/Unsafe;"), (8, u "BIG_ENDIAN"), (0, u "Z"), (8, u "LOG2_BYTE_BIT_SIZE"), (4, u "LOG2_ARRAY_INT_INDEX_SCALE"), (54, u "JLA"), (0, u "Ljdk/internal/access/JavaLangAccess;"), (11, u "LOG2_ARRAY_BOOLEAN_INDEX_SCALE"), (9, u "LOG2_ARRAY_BYTE_INDEX_SCALE"), (5, u "LOG2_ARRAY_CHAR_INDEX_SCALE"), (5, u "LOG2_ARRAY_SHORT_INDEX_SCALE"), (18, u "LOG2_ARRAY_FLOAT_INDEX_SCALE"), (24, u "LOG2_ARRAY_DOUBLE_INDEX_SCALE"), (89, u "T_BOOLEAN"), (2, u "T_CHAR"), (1, u "T_FLOAT"), (1, u "T_DOUBLE"), (1, u "T_BYTE"), (1, u "T_SHORT"), (1, u "T_INT"), (1, u "T_LONG"), (1, u "SOFT_MAX_ARRAY_LENGTH")] 83

def k21m0 : Method := { name := "<init>", desc := "()V", sig := { parameters := [], returnType := none }, accessFlags := 2, code := none }
/-- jdk/internal/util/ArraysSupport -/
def k21 : Class := { plain "jdk/internal/util/ArraysSupport" (some 0) with
  accessFlags := 33
  interfaces := #[]
  cf := some (fileOf pool21 21 #[] #[{ accessFlags := 2, nameIndex := 9, descriptorIndex := 19, attributes := #[] }] 33 16 #[] #[{ accessFlags := 24, nameIndex := 28, descriptorIndex := 29, attributes := #[] }, { accessFlags := 26, nameIndex := 38, descriptorIndex := 39, attributes := #[] }, { accessFlags := 25, nameIndex := 121, descriptorIndex := 25, attributes := #[] }, { accessFlags := 25, nameIndex := 131, descriptorIndex := 25, attributes := #[] }, { accessFlags := 25, nameIndex := 137, descriptorIndex := 25, attributes := #[] }, { accessFlags := 25, nameIndex := 143, descriptorIndex := 25, attributes := #[] }, { accessFlags := 25, nameIndex := 53, descriptorIndex := 25, attributes := #[] }, { accessFlags := 25, nameIndex := 24, descriptorIndex := 25, attributes := #[] }, { accessFlags := 25, nameIndex := 162, descriptorIndex := 25, attributes := #[] }, { accessFlags := 25, nameIndex := 187, descriptorIndex := 25, attributes := #[] }, { accessFlags := 26, nameIndex := 48, descriptorIndex := 25, attributes := #[] }, { accessFlags := 25, nameIndex := 277, descriptorIndex := 25, attributes := #[] }, { accessFlags := 25, nameIndex := 280, descriptorIndex := 25, attributes := #[] }, { accessFlags := 25, nameIndex := 282, descriptorIndex := 25, attributes := #[] }, { accessFlags := 25, nameIndex := 284, descriptorIndex := 25, attributes := #[] }, { accessFlags := 25, nameIndex := 286, descriptorIndex := 25, attributes := #[] }, { accessFlags := 25, nameIndex := 288, descriptorIndex := 25, attributes := #[] }, { accessFlags := 25, nameIndex := 290, descriptorIndex := 25, attributes := #[] }, { accessFlags := 25, nameIndex := 292, descriptorIndex := 25, attributes := #[] }, { accessFlags := 26, nameIndex := 108, descriptorIndex := 109, attributes := #[] }, { accessFlags := 25, nameIndex := 294, descriptorIndex := 25, attributes := #[] }])
  fields := #[{ name := "U", type := (.object "jdk/internal/misc/Unsafe"), accessFlags := 24, slot := 0, constantValue := 0 }, { name := "BIG_ENDIAN", type := .boolean, accessFlags := 26, slot := 1, constantValue := 0 }, { name := "LOG2_ARRAY_BOOLEAN_INDEX_SCALE", type := .int, accessFlags := 25, slot := 2, constantValue := 0 }, { name := "LOG2_ARRAY_BYTE_INDEX_SCALE", type := .int, accessFlags := 25, slot := 3, constantValue := 0 }, { name := "LOG2_ARRAY_CHAR_INDEX_SCALE", type := .int, accessFlags := 25, slot := 4, constantValue := 0 }, { name := "LOG2_ARRAY_SHORT_INDEX_SCALE", type := .int, accessFlags := 25, slot := 5, constantValue := 0 }, { name := "LOG2_ARRAY_INT_INDEX_SCALE", type := .int, accessFlags := 25, slot := 6, constantValue := 0 }, { name := "LOG2_ARRAY_LONG_INDEX_SCALE", type := .int, accessFlags := 25, slot := 7, constantValue := 0 }, { name := "LOG2_ARRAY_FLOAT_INDEX_SCALE", type := .int, accessFlags := 25, slot := 8, constantValue := 0 }, { name := "LOG2_ARRAY_DOUBLE_INDEX_SCALE", type := .int, accessFlags := 25, slot := 9, constantValue := 0 }, { name := "LOG2_BYTE_BIT_SIZE", type := .int, accessFlags := 26, slot := 10, constantValue := 0 }, { name := "T_BOOLEAN", type := .int, accessFlags := 25, slot := 11, constantValue := 0 }, { name := "T_CHAR", type := .int, accessFlags := 25, slot := 12, constantValue := 0 }, { name := "T_FLOAT", type := .int, accessFlags := 25, slot := 13, constantValue := 0 }, { name := "T_DOUBLE", type := .int, accessFlags := 25, slot := 14, constantValue := 0 }, { name := "T_BYTE", type := .int, accessFlags := 25, slot := 15, constantValue := 0 }, { name := "T_SHORT", type := .int, accessFlags := 25, slot := 16, constantValue := 0 }, { name := "T_INT", type := .int, accessFlags := 25, slot := 17, constantValue := 0 }, { name := "T_LONG", type := .int, accessFlags := 25, slot := 18, constantValue := 0 }, { name := "JLA", type := (.object "jdk/internal/access/JavaLangAccess"), accessFlags := 26, slot := 19, constantValue := 0 }, { name := "SOFT_MAX_ARRAY_LENGTH", type := .int, accessFlags := 25, slot := 20, constantValue := 0 }]
  methods := #[k21m0]
  instanceTypes := #[]
  staticTypes := #[(.object "jdk/internal/misc/Unsafe"), .boolean, .int, .int, .int, .int, .int, .int, .int, .int, .int, .int, .int, .int, .int, .int, .int, .int, .int, (.object "jdk/internal/access/JavaLangAccess"), .int]
  resolved := Array.replicate 378 none
  statics := none }

def pool22 : Array CpInfo := pool [(1, u "java/lang/Class"), (0, .class_ 1), (0, u "java/lang/Object"), (0, .class_ 3)] 0

/-- java/lang/Class -/
def k22 : Class := { plain "java/lang/Class" (some 0) with
  accessFlags := 49
  interfaces := #[]
  cf := some (fileOf pool22 2 #[] #[] 49 4 #[] #[])
  fields := #[]
  methods := #[]
  instanceTypes := #[]
  staticTypes := #[]
  resolved := Array.replicate 5 none
  statics := none }

def pool23 : Array CpInfo := pool [(1, u "java/lang/Cloneable"), (0, .class_ 1), (0, u "java/lang/Object"), (0, .class_ 3)] 3

/-- java/lang/Cloneable -/
def k23 : Class := { plain "java/lang/Cloneable" (some 0) with
  accessFlags := 1537
  interfaces := #[]
  cf := some (fileOf pool23 2 #[] #[] 1537 4 #[] #[])
  fields := #[]
  methods := #[]
  instanceTypes := #[]
  staticTypes := #[]
  resolved := Array.replicate 8 none
  statics := none }

/-- the primitive byte -/
def k24 : Class := { plain "byte" none with kind := .primitive 'B', accessFlags := 0x411 }
/-- [B -/
def k25 : Class := { plain "[B" (some 0) with kind := .array 24 .byte, interfaces := #[23, 6], accessFlags := 1041 }

/-- the primitive int -/
def k26 : Class := { plain "int" none with kind := .primitive 'I', accessFlags := 0x411 }
/-- [I -/
def k27 : Class := { plain "[I" (some 0) with kind := .array 26 .int, interfaces := #[23, 6], accessFlags := 1041 }

def heap : Heap := #[{ cls := 4, slots := #[.ref 6, .ref 5], vm := .statics 4 },
  { cls := 8, slots := #[.null, .ref 7, .null, .null, .null, .null, .null, .null, .null, .null, .null, .null, .null], vm := .statics 8 },
  { cls := 15, slots := #[.long 0, .int 1, .null, .int 0, .null, .int 0, .int 0], vm := .statics 15 },
  { cls := 20, slots := #[.null, .null, .null], vm := .statics 20 },
  { cls := 22, slots := #[], vm := .mirror 8 },
  { cls := 4, slots := #[.int 0], vm := .none },
  { cls := 4, slots := #[.int 1], vm := .none },
  { cls := 8, slots := #[.null, .int 1, .int 0], vm := .none }]
def classes : Array Class := #[k0, k1, k2, k3, k4, k5, k6, k7, k8, k9, k10, k11, k12, k13, k14, k15, k16, k17, k18, k19, k20, k21, k22, k23, k24, k25, k26, k27]
def interned : List (Array UInt16 × Addr) := []
def slotsUsed : Nat := 30
def theMethod : MethodId := ⟨1, 1⟩
def args0 : Array Value := #[.int 5, .int 6]
def aboutOver (below : List Frame) : State where
  vm := { classes := classes, interned := interned.toArray }
  heap := heap
  slotsUsed := slotsUsed
  threads := #[{ frames := .invoking theMethod args0 :: below }]
def below0 : List Frame := [.native { method := ⟨0, 0⟩, args := #[] }]
def about1 : State := aboutOver below0
def p0 : Program := .bare "" "" ""
def e0 : Env := launch0.env 0 0 0
theorem w_frames : about1.frames = Frame.invoking theMethod args0 :: below0 := rfl
set_option maxRecDepth 65536 in
theorem w_args : argsFit about1.vm theMethod args0 = true := by decide +kernel
set_option maxRecDepth 65536 in
theorem w_heap : heapFits about1 = true := by decide +kernel
set_option maxRecDepth 65536 in
theorem w_runnable : about1.curStatus? = some .runnable := by decide +kernel
set_option maxRecDepth 65536 in
theorem w_alone : about1.alone = true := by decide +kernel
set_option maxRecDepth 65536 in
theorem w_named : about1.methodNamed? x = some theMethod := by decide +kernel
set_option maxRecDepth 65536 in
theorem w_hears : about1.hears theMethod below0 = true := by decide +kernel
set_option maxRecDepth 65536 in
theorem w_ripe : about1.ripe theMethod args0 below0 = true := by decide +kernel
theorem w_running : about1.status = .running := rfl
set_option maxRecDepth 65536 in
theorem w_room : about1.hasRoom e0.platform room_1 = true :=
  launch0.hasRoom_least _ room_1 (by decide +kernel) (by decide +kernel) (by decide +kernel) (by decide +kernel) (by decide +kernel) (by decide +kernel)
theorem allAtoms_all (ts : List Jvm.Cond) (a : Array Jvm.Value) (st : Jvm.State) : (allAtoms ts).before a st = ts.all (fun c => c.before a st) := by
  induction ts with
  | nil => rfl
  | cons c t ih =>
    show (Jvm.Cond.and c (allAtoms t)).before a st = _
    rw [Jvm.Cond.before_and, ih, List.all_cons]
def words1 : List Jvm.Cond := Jvm.Cond.code x code maxLocals ret :: tables_1
/-- a 'code' word, met by the world's own term for the bytes: nothing is compared byte by byte -/
theorem code_word {y : MethodName} {bytes : ByteArray} {mx : Nat} {rt : Option FieldType} {a : Array Value} {s : State} {m : MethodId} {meth : Method} {c : Code} (h1 : s.methodNamed? y = some m) (h2 : s.vm.method? m = some meth) (h3 : meth.code = some c) (h4 : c.code = bytes)
    (h5 : (c.maxLocals == mx && c.exceptionTable.isEmpty && decide (c.maxStack ≤ mostOperands) && decide (meth.sig.returnType = rt) && !meth.locks && decide (parseMethodDescriptor y.desc = some meth.sig)) = true) : (Jvm.Cond.code y bytes mx rt).before a s = true := by
  simp only [Bool.and_eq_true, beq_iff_eq, Bool.not_eq_true', decide_eq_true_eq] at h5
  obtain ⟨⟨⟨⟨⟨g1, g2⟩, g3⟩, g4⟩, g5⟩, g6⟩ := h5
  simp [Cond.before, Cond.holds, Cond.value, h1, h2, h3, h4, g1, g2, g3, g4, g5, g6]
def isCode : Jvm.Cond → Bool
  | .code _ _ _ _ => true
  | _ => false
theorem all_split {L : List Jvm.Cond} {P : Jvm.Cond → Bool} (h1 : L.all (fun c => isCode c || P c) = true) (h2 : ∀ c ∈ L.filter isCode, P c = true) : L.all P = true := by
  refine List.all_eq_true.mpr fun c hc => ?_
  have h := List.all_eq_true.mp h1 c hc
  rcases Bool.eq_false_or_eq_true (isCode c) with hi | hi
  · exact h2 c (List.mem_filter.mpr ⟨hc, hi⟩)
  · simpa [hi] using h
set_option maxRecDepth 65536 in
theorem w_c0 : (Jvm.Cond.code x code maxLocals ret).before args0 about1 = true := code_word (m := ⟨1, 1⟩) (meth := k1m1) (c := k1c1) (by decide +kernel) rfl rfl rfl (by decide +kernel)
set_option maxRecDepth 65536 in
theorem w_c1 : (Jvm.Cond.code ({ cls := "com/example/umriss/umriss/runtime/BooleanValue", name := "of", desc := "(Z)Lcom/example/umriss/umriss/runtime/BooleanValue;" } : Jvm.MethodName) prog_7_method_2_code (1 : Nat) (Option.some (Jvm.ClassFile.FieldType.object "com/example/umriss/umriss/runtime/BooleanValue"))).before args0 about1 = true := code_word (m := ⟨4, 0⟩) (meth := k4m0) (c := k4c0) (by decide +kernel) rfl rfl rfl (by decide +kernel)
set_option maxRecDepth 65536 in
theorem w_c2 : (Jvm.Cond.code ({ cls := "com/example/umriss/umriss/runtime/BooleanValue", name := "value", desc := "()Z" } : Jvm.MethodName) prog_7_method_3_code (1 : Nat) (Option.some Jvm.ClassFile.FieldType.boolean)).before args0 about1 = true := code_word (m := ⟨4, 1⟩) (meth := k4m1) (c := k4c1) (by decide +kernel) rfl rfl rfl (by decide +kernel)
set_option maxRecDepth 65536 in
theorem w_c3 : (Jvm.Cond.code ({ cls := "com/example/umriss/umriss/runtime/BooleanValue", name := "kind", desc := "()Lcom/example/umriss/umriss/runtime/Value$Kind;" } : Jvm.MethodName) prog_7_method_4_code (1 : Nat) (Option.some (Jvm.ClassFile.FieldType.object "com/example/umriss/umriss/runtime/Value$Kind"))).before args0 about1 = true := code_word (m := ⟨4, 2⟩) (meth := k4m2) (c := k4c2) (by decide +kernel) rfl rfl rfl (by decide +kernel)
set_option maxRecDepth 65536 in
theorem w_c4 : (Jvm.Cond.code ({ cls := "com/example/umriss/umriss/runtime/Value", name := "compareTo", desc := "(Lcom/example/umriss/umriss/runtime/Value;)I" } : Jvm.MethodName) prog_66_method_5_code (3 : Nat) (Option.some Jvm.ClassFile.FieldType.int)).before args0 about1 = true := code_word (m := ⟨3, 4⟩) (meth := k3m4) (c := k3c4) (by decide +kernel) rfl rfl rfl (by decide +kernel)
set_option maxRecDepth 65536 in
theorem w_c5 : (Jvm.Cond.code ({ cls := "java/lang/Enum", name := "compareTo", desc := "(Ljava/lang/Enum;)I" } : Jvm.MethodName) jdk_37_method_8_code (4 : Nat) (Option.some Jvm.ClassFile.FieldType.int)).before args0 about1 = true := code_word (m := ⟨7, 0⟩) (meth := k7m0) (c := k7c0) (by decide +kernel) rfl rfl rfl (by decide +kernel)
set_option maxRecDepth 65536 in
theorem w_c6 : (Jvm.Cond.code ({ cls := "com/example/umriss/umriss/runtime/BooleanValue", name := "compareWithinKind", desc := "(Lcom/example/umriss/umriss/runtime/Value;)I" } : Jvm.MethodName) prog_7_method_5_code (2 : Nat) (Option.some Jvm.ClassFile.FieldType.int)).before args0 about1 = true := code_word (m := ⟨4, 3⟩) (meth := k4m3) (c := k4c3) (by decide +kernel) rfl rfl rfl (by decide +kernel)
set_option maxRecDepth 65536 in
theorem w_c7 : (Jvm.Cond.code ({ cls := "java/lang/Boolean", name := "compare", desc := "(ZZ)I" } : Jvm.MethodName) jdk_2055_method_14_code (2 : Nat) (Option.some Jvm.ClassFile.FieldType.int)).before args0 about1 = true := code_word (m := ⟨9, 0⟩) (meth := k9m0) (c := k9c0) (by decide +kernel) rfl rfl rfl (by decide +kernel)
set_option maxRecDepth 65536 in
theorem w_c8 : (Jvm.Cond.code ({ cls := "com/example/umriss/umriss/runtime/Value", name := "toString", desc := "()Ljava/lang/String;" } : Jvm.MethodName) prog_66_method_9_code (2 : Nat) (Option.some (Jvm.ClassFile.FieldType.object "java/lang/String"))).before args0 about1 = true := code_word (m := ⟨3, 5⟩) (meth := k3m5) (c := k3c5) (by decide +kernel) rfl rfl rfl (by decide +kernel)
set_option maxRecDepth 65536 in
theorem w_c9 : (Jvm.Cond.code ({ cls := "java/lang/StringBuilder", name := "<init>", desc := "()V" } : Jvm.MethodName) jdk_67_method_1_code (1 : Nat) (Option.none : Option Jvm.ClassFile.FieldType)).before args0 about1 = true := code_word (m := ⟨13, 0⟩) (meth := k13m0) (c := k13c0) (by decide +kernel) rfl rfl rfl (by decide +kernel)
set_option maxRecDepth 65536 in
theorem w_c10 : (Jvm.Cond.code ({ cls := "java/lang/AbstractStringBuilder", name := "<init>", desc := "(I)V" } : Jvm.MethodName) jdk_68_method_2_code (2 : Nat) (Option.none : Option Jvm.ClassFile.FieldType)).before args0 about1 = true := code_word (m := ⟨12, 1⟩) (meth := k12m1) (c := k12c1) (by decide +kernel) rfl rfl rfl (by decide +kernel)
set_option maxRecDepth 65536 in
theorem w_c11 : (Jvm.Cond.code ({ cls := "java/lang/Object", name := "<init>", desc := "()V" } : Jvm.MethodName) object_method_1_code (1 : Nat) (Option.none : Option Jvm.ClassFile.FieldType)).before args0 about1 = true := code_word (m := ⟨0, 0⟩) (meth := k0m0) (c := k0c0) (by decide +kernel) rfl rfl rfl (by decide +kernel)
set_option maxRecDepth 65536 in
theorem w_c12 : (Jvm.Cond.code ({ cls := "com/example/umriss/umriss/runtime/BooleanValue", name := "appendTo", desc := "(Ljava/lang/StringBuilder;)V" } : Jvm.MethodName) prog_7_method_6_code (2 : Nat) (Option.none : Option Jvm.ClassFile.FieldType)).before args0 about1 = true := code_word (m := ⟨4, 4⟩) (meth := k4m4) (c := k4c4) (by decide +kernel) rfl rfl rfl (by decide +kernel)
set_option maxRecDepth 65536 in
theorem w_c13 : (Jvm.Cond.code ({ cls := "java/lang/StringBuilder", name := "append", desc := "(Z)Ljava/lang/StringBuilder;" } : Jvm.MethodName) jdk_67_method_13_code (2 : Nat) (Option.some (Jvm.ClassFile.FieldType.object "java/lang/StringBuilder"))).before args0 about1 = true := code_word (m := ⟨13, 1⟩) (meth := k13m1) (c := k13c1) (by decide +kernel) rfl rfl rfl (by decide +kernel)
set_option maxRecDepth 65536 in
theorem w_c14 : (Jvm.Cond.code ({ cls := "java/lang/AbstractStringBuilder", name := "append", desc := "(Z)Ljava/lang/AbstractStringBuilder;" } : Jvm.MethodName) jdk_68_method_30_code (4 : Nat) (Option.some (Jvm.ClassFile.FieldType.object "java/lang/AbstractStringBuilder"))).before args0 about1 = true := code_word (m := ⟨12, 4⟩) (meth := k12m4) (c := k12c4) (by decide +kernel) rfl rfl rfl (by decide +kernel)
set_option maxRecDepth 65536 in
theorem w_c15 : (Jvm.Cond.code ({ cls := "java/lang/AbstractStringBuilder", name := "ensureCapacityInternal", desc := "(I)V" } : Jvm.MethodName) jdk_68_method_9_code (3 : Nat) (Option.none : Option Jvm.ClassFile.FieldType)).before args0 about1 = true := code_word (m := ⟨12, 3⟩) (meth := k12m3) (c := k12c3) (by decide +kernel) rfl rfl rfl (by decide +kernel)
set_option maxRecDepth 65536 in
theorem w_c16 : (Jvm.Cond.code ({ cls := "java/lang/AbstractStringBuilder", name := "isLatin1", desc := "()Z" } : Jvm.MethodName) jdk_68_method_68_code (1 : Nat) (Option.some Jvm.ClassFile.FieldType.boolean)).before args0 about1 = true := code_word (m := ⟨12, 6⟩) (meth := k12m6) (c := k12c6) (by decide +kernel) rfl rfl rfl (by decide +kernel)
set_option maxRecDepth 65536 in
theorem w_c17 : (Jvm.Cond.code ({ cls := "java/lang/StringBuilder", name := "toString", desc := "()Ljava/lang/String;" } : Jvm.MethodName) jdk_67_method_42_code (1 : Nat) (Option.some (Jvm.ClassFile.FieldType.object "java/lang/String"))).before args0 about1 = true := code_word (m := ⟨13, 2⟩) (meth := k13m2) (c := k13c2) (by decide +kernel) rfl rfl rfl (by decide +kernel)
set_option maxRecDepth 65536 in
theorem w_c18 : (Jvm.Cond.code ({ cls := "java/lang/String", name := "<init>", desc := "(Ljava/lang/StringBuilder;)V" } : Jvm.MethodName) jdk_42_method_53_code (2 : Nat) (Option.none : Option Jvm.ClassFile.FieldType)).before args0 about1 = true := code_word (m := ⟨15, 1⟩) (meth := k15m1) (c := k15c1) (by decide +kernel) rfl rfl rfl (by decide +kernel)
set_option maxRecDepth 65536 in
theorem w_c19 : (Jvm.Cond.code ({ cls := "java/lang/String", name := "<init>", desc := "(Ljava/lang/AbstractStringBuilder;Ljava/lang/Void;)V" } : Jvm.MethodName) jdk_42_method_150_code (5 : Nat) (Option.none : Option Jvm.ClassFile.FieldType)).before args0 about1 = true := code_word (m := ⟨15, 3⟩) (meth := k15m3) (c := k15c3) (by decide +kernel) rfl rfl rfl (by decide +kernel)
set_option maxRecDepth 65536 in
theorem w_c20 : (Jvm.Cond.code ({ cls := "java/lang/AbstractStringBuilder", name := "getValue", desc := "()[B" } : Jvm.MethodName) jdk_68_method_64_code (1 : Nat) (Option.some (Jvm.ClassFile.FieldType.array Jvm.ClassFile.FieldType.byte))).before args0 about1 = true := code_word (m := ⟨12, 5⟩) (meth := k12m5) (c := k12c5) (by decide +kernel) rfl rfl rfl (by decide +kernel)
set_option maxRecDepth 65536 in
theorem w_c21 : (Jvm.Cond.code ({ cls := "java/lang/StringBuilder", name := "length", desc := "()I" } : Jvm.MethodName) jdk_67_method_93_code (1 : Nat) (Option.some Jvm.ClassFile.FieldType.int)).before args0 about1 = true := code_word (m := ⟨13, 3⟩) (meth := k13m3) (c := k13c3) (by decide +kernel) rfl rfl rfl (by decide +kernel)
set_option maxRecDepth 65536 in
theorem w_c22 : (Jvm.Cond.code ({ cls := "java/lang/AbstractStringBuilder", name := "length", desc := "()I" } : Jvm.MethodName) jdk_68_method_6_code (1 : Nat) (Option.some Jvm.ClassFile.FieldType.int)).before args0 about1 = true := code_word (m := ⟨12, 2⟩) (meth := k12m2) (c := k12c2) (by decide +kernel) rfl rfl rfl (by decide +kernel)
set_option maxRecDepth 65536 in
theorem w_c23 : (Jvm.Cond.code ({ cls := "java/util/Arrays", name := "copyOfRange", desc := "([BII)[B" } : Jvm.MethodName) jdk_65_method_132_code (3 : Nat) (Option.some (Jvm.ClassFile.FieldType.array Jvm.ClassFile.FieldType.byte))).before args0 about1 = true := code_word (m := ⟨16, 2⟩) (meth := k16m2) (c := k16c2) (by decide +kernel) rfl rfl rfl (by decide +kernel)
set_option maxRecDepth 65536 in
theorem w_c24 : (Jvm.Cond.code ({ cls := "java/util/Arrays", name := "copyOfRangeByte", desc := "([BII)[B" } : Jvm.MethodName) jdk_65_method_133_code (5 : Nat) (Option.some (Jvm.ClassFile.FieldType.array Jvm.ClassFile.FieldType.byte))).before args0 about1 = true := code_word (m := ⟨16, 3⟩) (meth := k16m3) (c := k16c3) (by decide +kernel) rfl rfl rfl (by decide +kernel)
set_option maxRecDepth 65536 in
theorem w_c25 : (Jvm.Cond.code ({ cls := "java/util/Arrays", name := "checkLength", desc := "(II)V" } : Jvm.MethodName) jdk_65_method_131_code (2 : Nat) (Option.none : Option Jvm.ClassFile.FieldType)).before args0 about1 = true := code_word (m := ⟨16, 1⟩) (meth := k16m1) (c := k16c1) (by decide +kernel) rfl rfl rfl (by decide +kernel)
set_option maxRecDepth 65536 in
theorem w_c26 : (Jvm.Cond.code ({ cls := "java/lang/Math", name := "min", desc := "(II)I" } : Jvm.MethodName) jdk_29_method_69_code (2 : Nat) (Option.some Jvm.ClassFile.FieldType.int)).before args0 about1 = true := code_word (m := ⟨17, 1⟩) (meth := k17m1) (c := k17c1) (by decide +kernel) rfl rfl rfl (by decide +kernel)
set_option maxRecDepth 65536 in
theorem w_c27 : (Jvm.Cond.code ({ cls := "java/lang/String", name := "equals", desc := "(Ljava/lang/Object;)Z" } : Jvm.MethodName) jdk_42_method_66_code (3 : Nat) (Option.some Jvm.ClassFile.FieldType.boolean)).before args0 about1 = true := code_word (m := ⟨15, 2⟩) (meth := k15m2) (c := k15c2) (by decide +kernel) rfl rfl rfl (by decide +kernel)
set_option maxRecDepth 65536 in
theorem w_c28 : (Jvm.Cond.code ({ cls := "java/lang/StringLatin1", name := "equals", desc := "([B[B)Z" } : Jvm.MethodName) jdk_43_method_13_code (3 : Nat) (Option.some Jvm.ClassFile.FieldType.boolean)).before args0 about1 = true := code_word (m := ⟨19, 1⟩) (meth := k19m1) (c := k19c1) (by decide +kernel) rfl rfl rfl (by decide +kernel)
def codes1 : List Jvm.Cond := [Jvm.Cond.code x code maxLocals ret, Jvm.Cond.code ({ cls := "com/example/umriss/umriss/runtime/BooleanValue", name := "of", desc := "(Z)Lcom/example/umriss/umriss/runtime/BooleanValue;" } : Jvm.MethodName) prog_7_method_2_code (1 : Nat) (Option.some (Jvm.ClassFile.FieldType.object "com/example/umriss/umriss/runtime/BooleanValue")), Jvm.Cond.code ({ cls := "com/example/umriss/umriss/runtime/BooleanValue", name := "value", desc := "()Z" } : Jvm.MethodName) prog_7_method_3_code (1 : Nat) (Option.some Jvm.ClassFile.FieldType.boolean), Jvm.Cond.code ({ cls := "com/example/umriss/umriss/runtime/BooleanValue", name := "kind", desc := "()Lcom/example/umriss/umriss/runtime/Value$Kind;" } : Jvm.MethodName) prog_7_method_4_code (1 : Nat) (Option.some (Jvm.ClassFile.FieldType.object "com/example/umriss/umriss/runtime/Value$Kind")), Jvm.Cond.code ({ cls := "com/example/umriss/umriss/runtime/Value", name := "compareTo", desc := "(Lcom/example/umriss/umriss/runtime/Value;)I" } : Jvm.MethodName) prog_66_method_5_code (3 : Nat) (Option.some Jvm.ClassFile.FieldType.int), Jvm.Cond.code ({ cls := "java/lang/Enum", name := "compareTo", desc := "(Ljava/lang/Enum;)I" } : Jvm.MethodName) jdk_37_method_8_code (4 : Nat) (Option.some Jvm.ClassFile.FieldType.int), Jvm.Cond.code ({ cls := "com/example/umriss/umriss/runtime/BooleanValue", name := "compareWithinKind", desc := "(Lcom/example/umriss/umriss/runtime/Value;)I" } : Jvm.MethodName) prog_7_method_5_code (2 : Nat) (Option.some Jvm.ClassFile.FieldType.int), Jvm.Cond.code ({ cls := "java/lang/Boolean", name := "compare", desc := "(ZZ)I" } : Jvm.MethodName) jdk_2055_method_14_code (2 : Nat) (Option.some Jvm.ClassFile.FieldType.int), Jvm.Cond.code ({ cls := "com/example/umriss/umriss/runtime/Value", name := "toString", desc := "()Ljava/lang/String;" } : Jvm.MethodName) prog_66_method_9_code (2 : Nat) (Option.some (Jvm.ClassFile.FieldType.object "java/lang/String")), Jvm.Cond.code ({ cls := "java/lang/StringBuilder", name := "<init>", desc := "()V" } : Jvm.MethodName) jdk_67_method_1_code (1 : Nat) (Option.none : Option Jvm.ClassFile.FieldType), Jvm.Cond.code ({ cls := "java/lang/AbstractStringBuilder", name := "<init>", desc := "(I)V" } : Jvm.MethodName) jdk_68_method_2_code (2 : Nat) (Option.none : Option Jvm.ClassFile.FieldType), Jvm.Cond.code ({ cls := "java/lang/Object", name := "<init>", desc := "()V" } : Jvm.MethodName) object_method_1_code (1 : Nat) (Option.none : Option Jvm.ClassFile.FieldType), Jvm.Cond.code ({ cls := "com/example/umriss/umriss/runtime/BooleanValue", name := "appendTo", desc := "(Ljava/lang/StringBuilder;)V" } : Jvm.MethodName) prog_7_method_6_code (2 : Nat) (Option.none : Option Jvm.ClassFile.FieldType), Jvm.Cond.code ({ cls := "java/lang/StringBuilder", name := "append", desc := "(Z)Ljava/lang/StringBuilder;" } : Jvm.MethodName) jdk_67_method_13_code (2 : Nat) (Option.some (Jvm.ClassFile.FieldType.object "java/lang/StringBuilder")), Jvm.Cond.code ({ cls := "java/lang/AbstractStringBuilder", name := "append", desc := "(Z)Ljava/lang/AbstractStringBuilder;" } : Jvm.MethodName) jdk_68_method_30_code (4 : Nat) (Option.some (Jvm.ClassFile.FieldType.object "java/lang/AbstractStringBuilder")), Jvm.Cond.code ({ cls := "java/lang/AbstractStringBuilder", name := "ensureCapacityInternal", desc := "(I)V" } : Jvm.MethodName) jdk_68_method_9_code (3 : Nat) (Option.none : Option Jvm.ClassFile.FieldType), Jvm.Cond.code ({ cls := "java/lang/AbstractStringBuilder", name := "isLatin1", desc := "()Z" } : Jvm.MethodName) jdk_68_method_68_code (1 : Nat) (Option.some Jvm.ClassFile.FieldType.boolean), Jvm.Cond.code ({ cls := "java/lang/StringBuilder", name := "toString", desc := "()Ljava/lang/String;" } : Jvm.MethodName) jdk_67_method_42_code (1 : Nat) (Option.some (Jvm.ClassFile.FieldType.object "java/lang/String")), Jvm.Cond.code ({ cls := "java/lang/String", name := "<init>", desc := "(Ljava/lang/StringBuilder;)V" } : Jvm.MethodName) jdk_42_method_53_code (2 : Nat) (Option.none : Option Jvm.ClassFile.FieldType), Jvm.Cond.code ({ cls := "java/lang/String", name := "<init>", desc := "(Ljava/lang/AbstractStringBuilder;Ljava/lang/Void;)V" } : Jvm.MethodName) jdk_42_method_150_code (5 : Nat) (Option.none : Option Jvm.ClassFile.FieldType), Jvm.Cond.code ({ cls := "java/lang/AbstractStringBuilder", name := "getValue", desc := "()[B" } : Jvm.MethodName) jdk_68_method_64_code (1 : Nat) (Option.some (Jvm.ClassFile.FieldType.array Jvm.ClassFile.FieldType.byte)), Jvm.Cond.code ({ cls := "java/lang/StringBuilder", name := "length", desc := "()I" } : Jvm.MethodName) jdk_67_method_93_code (1 : Nat) (Option.some Jvm.ClassFile.FieldType.int), Jvm.Cond.code ({ cls := "java/lang/AbstractStringBuilder", name := "length", desc := "()I" } : Jvm.MethodName) jdk_68_method_6_code (1 : Nat) (Option.some Jvm.ClassFile.FieldType.int), Jvm.Cond.code ({ cls := "java/util/Arrays", name := "copyOfRange", desc := "([BII)[B" } : Jvm.MethodName) jdk_65_method_132_code (3 : Nat) (Option.some (Jvm.ClassFile.FieldType.array Jvm.ClassFile.FieldType.byte)), Jvm.Cond.code ({ cls := "java/util/Arrays", name := "copyOfRangeByte", desc := "([BII)[B" } : Jvm.MethodName) jdk_65_method_133_code (5 : Nat) (Option.some (Jvm.ClassFile.FieldType.array Jvm.ClassFile.FieldType.byte)), Jvm.Cond.code ({ cls := "java/util/Arrays", name := "checkLength", desc := "(II)V" } : Jvm.MethodName) jdk_65_method_131_code (2 : Nat) (Option.none : Option Jvm.ClassFile.FieldType), Jvm.Cond.code ({ cls := "java/lang/Math", name := "min", desc := "(II)I" } : Jvm.MethodName) jdk_29_method_69_code (2 : Nat) (Option.some Jvm.ClassFile.FieldType.int), Jvm.Cond.code ({ cls := "java/lang/String", name := "equals", desc := "(Ljava/lang/Object;)Z" } : Jvm.MethodName) jdk_42_method_66_code (3 : Nat) (Option.some Jvm.ClassFile.FieldType.boolean), Jvm.Cond.code ({ cls := "java/lang/StringLatin1", name := "equals", desc := "([B[B)Z" } : Jvm.MethodName) jdk_43_method_13_code (3 : Nat) (Option.some Jvm.ClassFile.FieldType.boolean)]
set_option maxRecDepth 65536 in
theorem codes_eq : words1.filter isCode = codes1 := rfl
theorem w_codes : ∀ c ∈ words1.filter isCode, c.before args0 about1 = true := by
  rw [codes_eq]
  intro c hc
  simp only [codes1, List.mem_cons, List.not_mem_nil, or_false] at hc
  rcases hc with rfl | rfl | rfl | rfl | rfl | rfl | rfl | rfl | rfl | rfl | rfl | rfl | rfl | rfl | rfl | rfl | rfl | rfl | rfl | rfl | rfl | rfl | rfl | rfl | rfl | rfl | rfl | rfl | rfl
  · exact w_c0
  · exact w_c1
  · exact w_c2
  · exact w_c3
  · exact w_c4
  · exact w_c5
  · exact w_c6
  · exact w_c7
  · exact w_c8
  · exact w_c9
  · exact w_c10
  · exact w_c11
  · exact w_c12
  · exact w_c13
  · exact w_c14
  · exact w_c15
  · exact w_c16
  · exact w_c17
  · exact w_c18
  · exact w_c19
  · exact w_c20
  · exact w_c21
  · exact w_c22
  · exact w_c23
  · exact w_c24
  · exact w_c25
  · exact w_c26
  · exact w_c27
  · exact w_c28
set_option maxRecDepth 65536 in
theorem w_t1 : (words1.take 24).all (fun c => isCode c || c.before args0 about1) = true := by decide +kernel
set_option maxRecDepth 65536 in
theorem w_t2 : ((words1.drop 24).take 24).all (fun c => isCode c || c.before args0 about1) = true := by decide +kernel
set_option maxRecDepth 65536 in
theorem w_t3 : (((words1.drop 24).drop 24).take 24).all (fun c => isCode c || c.before args0 about1) = true := by decide +kernel
set_option maxRecDepth 65536 in
theorem w_t4 : ((((words1.drop 24).drop 24).drop 24).take 24).all (fun c => isCode c || c.before args0 about1) = true := by decide +kernel
set_option maxRecDepth 65536 in
theorem w_t5 : (((((words1.drop 24).drop 24).drop 24).drop 24).take 24).all (fun c => isCode c || c.before args0 about1) = true := by decide +kernel
set_option maxRecDepth 65536 in
theorem w_t6 : ((((((words1.drop 24).drop 24).drop 24).drop 24).drop 24).take 24).all (fun c => isCode c || c.before args0 about1) = true := by decide +kernel
set_option maxRecDepth 65536 in
theorem w_t7 : (((((((words1.drop 24).drop 24).drop 24).drop 24).drop 24).drop 24).take 24).all (fun c => isCode c || c.before args0 about1) = true := by decide +kernel
set_option maxRecDepth 65536 in
theorem w_t8 : (((((((words1.drop 24).drop 24).drop 24).drop 24).drop 24).drop 24).drop 24).all (fun c => isCode c || c.before args0 about1) = true := by decide +kernel
theorem w_tables : (allAtoms (Jvm.Cond.code x code maxLocals ret :: tables_1)).before args0 about1 = true := by
  rw [allAtoms_all]
  show words1.all (fun c => c.before args0 about1) = true
  refine all_split ?_ w_codes
  rw [← List.take_append_drop 24 words1, List.all_append, w_t1, ← List.take_append_drop 24 (words1.drop 24), List.all_append, w_t2, ← List.take_append_drop 24 ((words1.drop 24).drop 24), List.all_append, w_t3, ← List.take_append_drop 24 (((words1.drop 24).drop 24).drop 24), List.all_append, w_t4, ← List.take_append_drop 24 ((((words1.drop 24).drop 24).drop 24).drop 24), List.all_append, w_t5, ← List.take_append_drop 24 (((((words1.drop 24).drop 24).drop 24).drop 24).drop 24), List.all_append, w_t6, ← List.take_append_drop 24 ((((((words1.drop 24).drop 24).drop 24).drop 24).drop 24).drop 24), List.all_append, w_t7, w_t8]
  rfl
set_option maxRecDepth 65536 in
theorem w_rest : rest_1_c.before args0 about1 = true := by decide +kernel
set_option maxRecDepth 65536 in
theorem w_case : (Jvm.Cond.and given_1 narrow_1).before args0 about1 = true := by decide +kernel
set_option maxRecDepth 65536 in
theorem w_consts : constsHeld consts_1 about1 := Jvm.Lit.constsHeldB_iff.mp (by decide +kernel)
theorem w_applies : (headSpec (Jvm.Cond.code x code maxLocals ret :: tables_1) room_1).applies x e0.platform about1 = true :=
  (Spec.applies_iff w_frames).mpr ⟨w_running, w_runnable, w_alone, w_named, w_hears, w_ripe, w_room, w_tables⟩
theorem atStart : AtStart classFile x code maxLocals ret World_1 tables_1 room_1 Calls_1 rest_1 Pre_1 launch0 p0 e0 about1 theMethod args0 below0 :=
  ⟨lists_1, trivial, launch0.admits_env _ _ _, launch0.least_env, fairChoices_fair.cas, fairChoices_fair.clock, w_frames, w_args, w_heap, w_applies, ⟨⟨8, k8, 4, by decide +kernel, rfl, rfl, _, rfl, rfl⟩, ⟨w_consts, trivial⟩⟩, w_rest, w_case⟩
end start1
theorem witness_1 : WitnessClaimed_1 := ⟨start1.p0, start1.e0, start1.about1, start1.theMethod, start1.args0, start1.below0, start1.atStart⟩
end Jvm.Pilot.@@N@@
