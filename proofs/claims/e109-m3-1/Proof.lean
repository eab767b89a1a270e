import JvmDerived
import JvmDerived.Pilot.@@N@@Statement
import JvmDerived.Pilot.@@N@@Code
set_option linter.unusedVariables false
set_option linter.unusedSimpArgs false
namespace Jvm.Pilot.@@N@@
open Jvm Jvm.ClassFile Sem Op Lib Jvm.Free Jvm.Stand Jvm.LawKit Jvm.RoadKit Bundle Jvm.Pilot.@@N@@.Jvm.D

section Own
variable {p : Program} {l : Launch} {e : Env} {R : Room} {s : State} {m : MethodId} {args : Array Value} {below : List Frame} {meth : Method} {c : Code} {T T' : State} {locs : List Loc} {cells slots : Nat}
/-- from the frame f over T the run comes to the method's return, with Q -/
def OwnEnds (p : Program) (e : Env) (below : List Frame) (s : State) (Q : Option Value → Heap → List Loc → Prop) (k n : Nat) (T : State) (f : JFrame) : Prop :=
  ∃ s₂ o, Steps p.tables e below (T.setTop f) s₂ ∧ s₂.status = .running ∧ Ended s₂ below o ∧ ∃ v L, o = .returned v ∧ Q v s₂.heap L ∧ FrameEnd s o s₂ L k n
theorem own_step {Q : Option Value → Heap → List Loc → Prop} {k n : Nat} {f f' : JFrame} (h : ∀ t, Steps p.tables e below (T'.setTop f') t → Steps p.tables e below (T.setTop f) t) (g : OwnEnds p e below s Q k n T' f') : OwnEnds p e below s Q k n T f := by
  obtain ⟨s2, o, h1, h2⟩ := g
  exact ⟨s2, o, h _ h1, h2⟩
theorem own_retN (X : Stand p l e R s m args below meth c T locs cells slots) (hx : p.tables.exec = Jvm.exec) (hlk : meth.locks = false) {pc : Nat} {Ls : Array Slot} {z : Int32} {t : FieldType} {rest : List Value} (hret : meth.sig.returnType = some t) (ht : t = .boolean ∨ t = .byte ∨ t = .char ∨ t = .short)
    (hd : decode c.code pc = .ok (.ireturn, 1)) {Q : Option Value → Heap → List Loc → Prop} {k n : Nat} (hk : cells ≤ k) (hn : slots ≤ n) (hQ : Q (some (.int (nar t z))) T.heap locs) : OwnEnds p e below s Q k n T (mkF m pc Ls (.int z :: rest)) := by
  obtain ⟨fs, hr, hrun, hended, hW, hsame⟩ := X.leave (v := some (.int (nar t z))) (fun h => by rw [hret] at h; cases h) hlk
  exact ⟨_, _, retN X hx hret ht hd hr, hrun, hended, _, _, rfl, hQ, ⟨_, rfl⟩, hW, hsame.mono hk hn⟩
theorem own_retO (X : Stand p l e R s m args below meth c T locs cells slots) (hx : p.tables.exec = Jvm.exec) (hlk : meth.locks = false) {pc : Nat} {Ls : Array Slot} {w : Value} {t : FieldType} {i : Instr} {rest : List Value} (hret : meth.sig.returnType = some t) (hnw : narrow t w = w)
    (hi : (i = .ireturn ∧ (t = .int ∨ t = .boolean ∨ t = .byte ∨ t = .char ∨ t = .short) ∧ ∃ z, w = .int z) ∨ (i = .lreturn ∧ t = .long ∧ ∃ z, w = .long z) ∨ (i = .dreturn ∧ t = .double ∧ ∃ z, w = .double z) ∨ (i = .freturn ∧ t = .float ∧ ∃ z, w = .float z) ∨ (i = .areturn ∧ t.isReference = true ∧ w.isRef = true))
    (hd : decode c.code pc = .ok (i, 1)) {Q : Option Value → Heap → List Loc → Prop} {k n : Nat} (hk : cells ≤ k) (hn : slots ≤ n) (hQ : Q (some w) T.heap locs) : OwnEnds p e below s Q k n T (mkF m pc Ls (w :: rest)) := by
  obtain ⟨fs, hr, hrun, hended, hW, hsame⟩ := X.leave (v := some w) (fun h => by rw [hret] at h; cases h) hlk
  exact ⟨_, _, retOut X hx hret hnw hi hd hr, hrun, hended, _, _, rfl, hQ, ⟨_, rfl⟩, hW, hsame.mono hk hn⟩
theorem own_retV (X : Stand p l e R s m args below meth c T locs cells slots) (hx : p.tables.exec = Jvm.exec) (hlk : meth.locks = false) {pc : Nat} {Ls : Array Slot} (hret : meth.sig.returnType = none)
    (hd : decode c.code pc = .ok (.return_, 1)) {Q : Option Value → Heap → List Loc → Prop} {k n : Nat} (hk : cells ≤ k) (hn : slots ≤ n) (hQ : Q none T.heap locs) : OwnEnds p e below s Q k n T (mkF m pc Ls []) := by
  obtain ⟨fs, hr, hrun, hended, hW, hsame⟩ := X.leave (v := none) (fun _ => rfl) hlk
  exact ⟨_, _, X.returnOut hx hret hd hr, hrun, hended, _, _, rfl, hQ, ⟨_, rfl⟩, hW, hsame.mono hk hn⟩
end Own
theorem own_mvM {Z s : State} {a0 args : Array Value} {own host : String} {index : Nat} {y : MethodName} (hZ : Z.Warmed39 s.vm) (w : (Jvm.Cond.methodLinkNest own index y host).before a0 Z = true) : (Jvm.Cond.methodLinkNest own index y host).before args s = true := (Cond.methodLinkNest_wide hZ w :)
theorem own_irr {x : Int32} : ¬ x < x := by rw [Int32.lt_iff_toInt_lt]; omega
theorem own_lceq {x y : Int64} (h : x = y) : ifCond.holds .eq (lcmpW x y) = true ∧ ifCond.holds .ne (lcmpW x y) = false := by
  have q : lcmpW x y = 0 := by rw [lcW]; exact (lc_eq x y).mpr h
  exact ⟨(if0 _ _).trans (teq q).1, (if0 _ _).trans (teq q).2⟩
theorem own_lcne {x y : Int64} (h : ¬ x = y) : ifCond.holds .eq (lcmpW x y) = false ∧ ifCond.holds .ne (lcmpW x y) = true := by
  have q : ¬ lcmpW x y = 0 := by rw [lcW]; exact fun z => h ((lc_eq x y).mp z)
  exact ⟨(if0 _ _).trans (feq q).1, (if0 _ _).trans (feq q).2⟩
theorem own_lclt {x y : Int64} (h : x < y) : ifCond.holds .lt (lcmpW x y) = true ∧ ifCond.holds .ge (lcmpW x y) = false ∧ ifCond.holds .gt (lcmpW y x) = true ∧ ifCond.holds .le (lcmpW y x) = false := by
  have q : lcmpW x y < 0 := by rw [lcW]; exact (lc_lt x y).mpr h
  have q' : 0 < lcmpW y x := by rw [lcW]; exact (lc_gt y x).mpr h
  exact ⟨(if0 _ _).trans (tlt q).1, (if0 _ _).trans (tlt q).2.1, (if0 _ _).trans (tlt q').2.2.1, (if0 _ _).trans (tlt q').2.2.2⟩
theorem own_lcnl {x y : Int64} (h : ¬ x < y) : ifCond.holds .lt (lcmpW x y) = false ∧ ifCond.holds .ge (lcmpW x y) = true ∧ ifCond.holds .gt (lcmpW y x) = false ∧ ifCond.holds .le (lcmpW y x) = true := by
  have q : ¬ lcmpW x y < 0 := by rw [lcW]; exact fun z => h ((lc_lt x y).mp z)
  have q' : ¬ 0 < lcmpW y x := by rw [lcW]; exact fun z => h ((lc_gt y x).mp z)
  exact ⟨(if0 _ _).trans (flt q).1, (if0 _ _).trans (flt q).2.1, (if0 _ _).trans (flt q').2.2.1, (if0 _ _).trans (flt q').2.2.2⟩
theorem own_ord {args : Array Value} {s : State} {t : Term} {a : Addr} {C n d : String} {k : Int32} (ev : t.eval args s none [] s = some (.ref a)) (h : (Jvm.Cond.eq (.field t C n d) (.int k)).value args s none s [] = some true) : s.fieldOf? a C n d = some (.int k) := by
  have h1 := fld_at (C := C) (n := n) (dd := d) ev
  obtain ⟨x, y, e1, e2, -, k2⟩ := cmp_v (Or.inl h)
  obtain rfl : y = .int k := (Option.some.inj e2).symm
  obtain ⟨z, rfl⟩ := k2
  have q : z = k := by simpa [Jvm.Cond.value, e1, e2] using h
  rw [← h1, e1, q]
theorem own_apart {s : State} {a b : Addr} {C n d : String} {k j : Int32} (h1 : s.fieldOf? a C n d = some (.int k)) (h2 : s.fieldOf? b C n d = some (.int j)) (hk : k ≠ j) : ¬ a = b := fun e => by
  subst e; rw [h1] at h2; exact hk (Value.int.inj (Option.some.inj h2))

theorem d1_0 : decode prog_107_method_5_code 0 = .ok (.iload_n 0, 1) := by decide +kernel
theorem d1_1 : decode prog_107_method_5_code 1 = .ok (.ifCond .eq 10, 3) := by decide +kernel
theorem d1_4 : decode prog_107_method_5_code 4 = .ok (.getstatic 3, 3) := by decide +kernel
theorem d1_7 : decode prog_107_method_5_code 7 = .ok (.astore_n 2, 1) := by decide +kernel
theorem d1_8 : decode prog_107_method_5_code 8 = .ok (.goto 18, 3) := by decide +kernel
theorem d1_11 : decode prog_107_method_5_code 11 = .ok (.iload_n 1, 1) := by decide +kernel
theorem d1_12 : decode prog_107_method_5_code 12 = .ok (.ifCond .eq 10, 3) := by decide +kernel
theorem d1_15 : decode prog_107_method_5_code 15 = .ok (.getstatic 10, 3) := by decide +kernel
theorem d1_18 : decode prog_107_method_5_code 18 = .ok (.astore_n 2, 1) := by decide +kernel
theorem d1_19 : decode prog_107_method_5_code 19 = .ok (.goto 7, 3) := by decide +kernel
theorem d1_22 : decode prog_107_method_5_code 22 = .ok (.getstatic 7, 3) := by decide +kernel
theorem d1_25 : decode prog_107_method_5_code 25 = .ok (.astore_n 2, 1) := by decide +kernel
theorem d1_26 : decode prog_107_method_5_code 26 = .ok (.aload_n 2, 1) := by decide +kernel
theorem d1_27 : decode prog_107_method_5_code 27 = .ok (.areturn, 1) := by decide +kernel
theorem pn_1 : plainName "com/example/inchworm/inchworm/lang/Truth" = true := by first | (simp [plainName, overriddenIn]; done) | decide +kernel
theorem ef_rm1 (m : MethodId) (x0 : Int32) (x1 : Int32) : entryFrame m #[(.int x0), (.int x1)] 3 = mkF m 0 #[.val (.int x0), .val (.int x1), .unset] [] := by first | (simp [entryFrame, mkF, argsToLocals, Value.category]; done) | rfl
def own_of2 (p1 p2 : Int32) (aT aF aU : Addr) : Addr := (if p1 = (0 : Int32) then (if p2 = (0 : Int32) then aF else aU) else aT)
def Q1 (p1 p2 : Int32) (aT aF aU : Addr) (h0 : Heap) (n0 : Nat) (v : Option Value) (h : Heap) (L : List Loc) : Prop := v = some (.ref (own_of2 p1 p2 aT aF aU)) ∧ Fr n0 L ∧ h = h0
set_option maxRecDepth 65536 in
set_option maxHeartbeats 40000000 in
theorem rm1 (l : Launch) (Z : State) (a0 : Array Value) (hw : ∀ d ∈ tables_1, d.before a0 Z = true) (ws : List Jvm.Cond) (p1 : Int32) (p2 : Int32) (h0 : Heap) (n0 : Nat) (Z0 : n0 ≤ h0.size) (aT aF aU : Addr) (S_T : Sta Z h0 "com/example/inchworm/inchworm/lang/Truth" "TRUE" "Lcom/example/inchworm/inchworm/lang/Truth;" (.ref aT)) (S_F : Sta Z h0 "com/example/inchworm/inchworm/lang/Truth" "FALSE" "Lcom/example/inchworm/inchworm/lang/Truth;" (.ref aF)) (S_U : Sta Z h0 "com/example/inchworm/inchworm/lang/Truth" "UNKNOWN" "Lcom/example/inchworm/inchworm/lang/Truth;" (.ref aU)) :
    MetFree l (⟨"com/example/inchworm/inchworm/lang/Truth", "of", "(ZZ)Lcom/example/inchworm/inchworm/lang/Truth;"⟩ : MethodName) (head1 (Jvm.Cond.code (⟨"com/example/inchworm/inchworm/lang/Truth", "of", "(ZZ)Lcom/example/inchworm/inchworm/lang/Truth;"⟩ : MethodName) prog_107_method_5_code 3 (some (.object "com/example/inchworm/inchworm/lang/Truth")) :: ws) ({ frames := 0, cells := 0, slots := 0, locals := 0 } : Room)) (fun a U => a = #[(.int p1), (.int p2)] ∧ Z.Warmed39 U.vm ∧ U.heap = h0) (fun _ _ _ _ _ => True) (fun _ U o U' => ∃ v L, o = .returned v ∧ Q1 p1 p2 aT aF aU h0 n0 v U'.heap L ∧ FrameEnd U o U' L ({ frames := 0, cells := 0, slots := 0, locals := 0 } : Room).cells ({ frames := 0, cells := 0, slots := 0, locals := 0 } : Room).slots) := by
  refine MetFree.of_bodySF (plainFor_of_name pn_1) hisR ?_
  intro p e s m args below meth c s₁ Bd hml0 hP hK
  obtain ⟨rfl, hZ, hh⟩ := hP
  have hx := Bd.exec
  have hby := Bd.bytes
  have hlk : meth.locks = false := BodyLoose.notSynchronized Bd
  have hml : c.maxLocals = 3 := hml0
  have hown : s.vm.findClass "com/example/inchworm/inchworm/lang/Truth" = some m.cls := findClass_of_methodNamed Bd.named
  have hnm := (name_of_methodNamed Bd.named Bd.method).1
  have X0 : Stand p l e ({ frames := 0, cells := 0, slots := 0, locals := 0 } : Room) s m #[(.int p1), (.int p2)] below meth c s₁ [] 0 0 := Stand.of_body Bd
  have e0 : s₁.heap = h0 := by rw [← hh, Bd.state]; rfl
  have N0 := Fr.nil n0
  show OwnEnds p e below s (Q1 p1 p2 aT aF aU h0 n0) ({ frames := 0, cells := 0, slots := 0, locals := 0 } : Room).cells ({ frames := 0, cells := 0, slots := 0, locals := 0 } : Room).slots s₁ (entryFrame m #[(.int p1), (.int p2)] 3)
  refine own_step (T' := s₁) (f' := (mkF m 0 #[.val (.int p1), .val (.int p2), .unset] [])) (fun t k => castTop (ef_rm1 m p1 p2) k) ?_
  refine own_step (T' := s₁) (f' := (mkF m 1 #[.val (.int p1), .val (.int p2), .unset] [(.int p1)])) (fun t k => XS.iloadN X0.here hx rfl (hb hby d1_0) rfl k) ?_
  by_cases hc1_1 : p1 = (0 : Int32)
  · skip
    refine own_step (T' := s₁) (f' := (mkF m 11 #[.val (.int p1), .val (.int p2), .unset] [])) (fun t k => XS.ifYes X0.here hx rfl (pc0 := 1) (pc' := 11) rfl (hb hby d1_1) rfl ((if0 _ _).trans (teq hc1_1).1) (by decide) (by decide) k) ?_
    refine own_step (T' := s₁) (f' := (mkF m 12 #[.val (.int p1), .val (.int p2), .unset] [(.int p2)])) (fun t k => XS.iloadN X0.here hx rfl (hb hby d1_11) rfl k) ?_
    by_cases hc12_2 : p2 = (0 : Int32)
    · skip
      refine own_step (T' := s₁) (f' := (mkF m 22 #[.val (.int p1), .val (.int p2), .unset] [])) (fun t k => XS.ifYes X0.here hx rfl (pc0 := 12) (pc' := 22) rfl (hb hby d1_12) rfl ((if0 _ _).trans (teq hc12_2).1) (by decide) (by decide) k) ?_
      obtain ⟨T3, X3, e3, st3⟩ := getS2 X0 hx hZ hown (host := "") (Or.inl (hw _ (List.mem_of_getElem? (i := 10) rfl))) Via.refl e0 S_F (g := (mkF m 22 #[.val (.int p1), .val (.int p2), .unset] [])) rfl (hb hby d1_22)
      refine own_step (T' := T3) (f' := (mkF m 25 #[.val (.int p1), .val (.int p2), .unset] [(.ref aF)])) (fun t k => st3 t k) ?_
      refine own_step (T' := T3) (f' := (mkF m 26 #[.val (.int p1), .val (.int p2), .val (.ref aF)] [])) (fun t k => XS.astoreN X3.here hx rfl (hb hby d1_25) rfl rfl (l' := #[.val (.int p1), .val (.int p2), .val (.ref aF)]) rfl k) ?_
      refine own_step (T' := T3) (f' := (mkF m 27 #[.val (.int p1), .val (.int p2), .val (.ref aF)] [(.ref aF)])) (fun t k => XS.aloadN X3.here hx rfl (hb hby d1_26) rfl rfl k) ?_
      exact own_retO X3 hx hlk Bd.returns rfl (Or.inr (Or.inr (Or.inr (Or.inr ⟨rfl, rfl, rfl⟩)))) (hb hby d1_27) (by decide) (by decide) ⟨by unfold own_of2; rw [if_pos hc1_1, if_pos hc12_2]; try rfl, N0, e3⟩
    · skip
      refine own_step (T' := s₁) (f' := (mkF m 15 #[.val (.int p1), .val (.int p2), .unset] [])) (fun t k => XS.ifNo X0.here hx rfl (hb hby d1_12) rfl ((if0 _ _).trans (feq hc12_2).1) k) ?_
      obtain ⟨T4, X4, e4, st4⟩ := getS2 X0 hx hZ hown (host := "") (Or.inl (hw _ (List.mem_of_getElem? (i := 4) rfl))) Via.refl e0 S_U (g := (mkF m 15 #[.val (.int p1), .val (.int p2), .unset] [])) rfl (hb hby d1_15)
      refine own_step (T' := T4) (f' := (mkF m 18 #[.val (.int p1), .val (.int p2), .unset] [(.ref aU)])) (fun t k => st4 t k) ?_
      refine own_step (T' := T4) (f' := (mkF m 19 #[.val (.int p1), .val (.int p2), .val (.ref aU)] [])) (fun t k => XS.astoreN X4.here hx rfl (hb hby d1_18) rfl rfl (l' := #[.val (.int p1), .val (.int p2), .val (.ref aU)]) rfl k) ?_
      refine own_step (T' := T4) (f' := (mkF m 26 #[.val (.int p1), .val (.int p2), .val (.ref aU)] [])) (fun t k => XS.goto X4.here hx rfl (pc0 := 19) (pc' := 26) rfl (hb hby d1_19) (by decide) (by decide) k) ?_
      refine own_step (T' := T4) (f' := (mkF m 27 #[.val (.int p1), .val (.int p2), .val (.ref aU)] [(.ref aU)])) (fun t k => XS.aloadN X4.here hx rfl (hb hby d1_26) rfl rfl k) ?_
      exact own_retO X4 hx hlk Bd.returns rfl (Or.inr (Or.inr (Or.inr (Or.inr ⟨rfl, rfl, rfl⟩)))) (hb hby d1_27) (by decide) (by decide) ⟨by unfold own_of2; rw [if_pos hc1_1, if_neg hc12_2]; try rfl, N0, e4⟩
  · skip
    refine own_step (T' := s₁) (f' := (mkF m 4 #[.val (.int p1), .val (.int p2), .unset] [])) (fun t k => XS.ifNo X0.here hx rfl (hb hby d1_1) rfl ((if0 _ _).trans (feq hc1_1).1) k) ?_
    obtain ⟨T5, X5, e5, st5⟩ := getS2 X0 hx hZ hown (host := "") (Or.inl (hw _ (List.mem_of_getElem? (i := 14) rfl))) Via.refl e0 S_T (g := (mkF m 4 #[.val (.int p1), .val (.int p2), .unset] [])) rfl (hb hby d1_4)
    refine own_step (T' := T5) (f' := (mkF m 7 #[.val (.int p1), .val (.int p2), .unset] [(.ref aT)])) (fun t k => st5 t k) ?_
    refine own_step (T' := T5) (f' := (mkF m 8 #[.val (.int p1), .val (.int p2), .val (.ref aT)] [])) (fun t k => XS.astoreN X5.here hx rfl (hb hby d1_7) rfl rfl (l' := #[.val (.int p1), .val (.int p2), .val (.ref aT)]) rfl k) ?_
    refine own_step (T' := T5) (f' := (mkF m 26 #[.val (.int p1), .val (.int p2), .val (.ref aT)] [])) (fun t k => XS.goto X5.here hx rfl (pc0 := 8) (pc' := 26) rfl (hb hby d1_8) (by decide) (by decide) k) ?_
    refine own_step (T' := T5) (f' := (mkF m 27 #[.val (.int p1), .val (.int p2), .val (.ref aT)] [(.ref aT)])) (fun t k => XS.aloadN X5.here hx rfl (hb hby d1_26) rfl rfl k) ?_
    exact own_retO X5 hx hlk Bd.returns rfl (Or.inr (Or.inr (Or.inr (Or.inr ⟨rfl, rfl, rfl⟩)))) (hb hby d1_27) (by decide) (by decide) ⟨by unfold own_of2; rw [if_neg hc1_1]; try rfl, N0, e5⟩

theorem d2_0 : decode prog_107_method_4_code 0 = .ok (.iload_n 0, 1) := by decide +kernel
theorem d2_1 : decode prog_107_method_4_code 1 = .ok (.ifCond .eq 9, 3) := by decide +kernel
theorem d2_4 : decode prog_107_method_4_code 4 = .ok (.getstatic 3, 3) := by decide +kernel
theorem d2_7 : decode prog_107_method_4_code 7 = .ok (.goto 6, 3) := by decide +kernel
theorem d2_10 : decode prog_107_method_4_code 10 = .ok (.getstatic 7, 3) := by decide +kernel
theorem d2_13 : decode prog_107_method_4_code 13 = .ok (.areturn, 1) := by decide +kernel
theorem pn_2 : plainName "com/example/inchworm/inchworm/lang/Truth" = true := by first | (simp [plainName, overriddenIn]; done) | decide +kernel
theorem ef_rm2 (m : MethodId) (x0 : Int32) : entryFrame m #[(.int x0)] 1 = mkF m 0 #[.val (.int x0)] [] := by first | (simp [entryFrame, mkF, argsToLocals, Value.category]; done) | rfl
def own_of1 (p1 : Int32) (aT aF aU : Addr) : Addr := (if p1 = (0 : Int32) then aF else aT)
def Q2 (p1 : Int32) (aT aF aU : Addr) (h0 : Heap) (n0 : Nat) (v : Option Value) (h : Heap) (L : List Loc) : Prop := v = some (.ref (own_of1 p1 aT aF aU)) ∧ Fr n0 L ∧ h = h0
set_option maxRecDepth 65536 in
set_option maxHeartbeats 40000000 in
theorem rm2 (l : Launch) (Z : State) (a0 : Array Value) (hw : ∀ d ∈ tables_1, d.before a0 Z = true) (ws : List Jvm.Cond) (p1 : Int32) (h0 : Heap) (n0 : Nat) (Z0 : n0 ≤ h0.size) (aT aF aU : Addr) (S_T : Sta Z h0 "com/example/inchworm/inchworm/lang/Truth" "TRUE" "Lcom/example/inchworm/inchworm/lang/Truth;" (.ref aT)) (S_F : Sta Z h0 "com/example/inchworm/inchworm/lang/Truth" "FALSE" "Lcom/example/inchworm/inchworm/lang/Truth;" (.ref aF)) (S_U : Sta Z h0 "com/example/inchworm/inchworm/lang/Truth" "UNKNOWN" "Lcom/example/inchworm/inchworm/lang/Truth;" (.ref aU)) :
    MetFree l (⟨"com/example/inchworm/inchworm/lang/Truth", "of", "(Z)Lcom/example/inchworm/inchworm/lang/Truth;"⟩ : MethodName) (head1 (Jvm.Cond.code (⟨"com/example/inchworm/inchworm/lang/Truth", "of", "(Z)Lcom/example/inchworm/inchworm/lang/Truth;"⟩ : MethodName) prog_107_method_4_code 1 (some (.object "com/example/inchworm/inchworm/lang/Truth")) :: ws) ({ frames := 0, cells := 0, slots := 0, locals := 0 } : Room)) (fun a U => a = #[(.int p1)] ∧ Z.Warmed39 U.vm ∧ U.heap = h0) (fun _ _ _ _ _ => True) (fun _ U o U' => ∃ v L, o = .returned v ∧ Q2 p1 aT aF aU h0 n0 v U'.heap L ∧ FrameEnd U o U' L ({ frames := 0, cells := 0, slots := 0, locals := 0 } : Room).cells ({ frames := 0, cells := 0, slots := 0, locals := 0 } : Room).slots) := by
  refine MetFree.of_bodySF (plainFor_of_name pn_2) hisR ?_
  intro p e s m args below meth c s₁ Bd hml0 hP hK
  obtain ⟨rfl, hZ, hh⟩ := hP
  have hx := Bd.exec
  have hby := Bd.bytes
  have hlk : meth.locks = false := BodyLoose.notSynchronized Bd
  have hml : c.maxLocals = 1 := hml0
  have hown : s.vm.findClass "com/example/inchworm/inchworm/lang/Truth" = some m.cls := findClass_of_methodNamed Bd.named
  have hnm := (name_of_methodNamed Bd.named Bd.method).1
  have X0 : Stand p l e ({ frames := 0, cells := 0, slots := 0, locals := 0 } : Room) s m #[(.int p1)] below meth c s₁ [] 0 0 := Stand.of_body Bd
  have e0 : s₁.heap = h0 := by rw [← hh, Bd.state]; rfl
  have N0 := Fr.nil n0
  show OwnEnds p e below s (Q2 p1 aT aF aU h0 n0) ({ frames := 0, cells := 0, slots := 0, locals := 0 } : Room).cells ({ frames := 0, cells := 0, slots := 0, locals := 0 } : Room).slots s₁ (entryFrame m #[(.int p1)] 1)
  refine own_step (T' := s₁) (f' := (mkF m 0 #[.val (.int p1)] [])) (fun t k => castTop (ef_rm2 m p1) k) ?_
  refine own_step (T' := s₁) (f' := (mkF m 1 #[.val (.int p1)] [(.int p1)])) (fun t k => XS.iloadN X0.here hx rfl (hb hby d2_0) rfl k) ?_
  by_cases hc1_1 : p1 = (0 : Int32)
  · skip
    refine own_step (T' := s₁) (f' := (mkF m 10 #[.val (.int p1)] [])) (fun t k => XS.ifYes X0.here hx rfl (pc0 := 1) (pc' := 10) rfl (hb hby d2_1) rfl ((if0 _ _).trans (teq hc1_1).1) (by decide) (by decide) k) ?_
    obtain ⟨T2, X2, e2, st2⟩ := getS2 X0 hx hZ hown (host := "") (Or.inl (hw _ (List.mem_of_getElem? (i := 10) rfl))) Via.refl e0 S_F (g := (mkF m 10 #[.val (.int p1)] [])) rfl (hb hby d2_10)
    refine own_step (T' := T2) (f' := (mkF m 13 #[.val (.int p1)] [(.ref aF)])) (fun t k => st2 t k) ?_
    exact own_retO X2 hx hlk Bd.returns rfl (Or.inr (Or.inr (Or.inr (Or.inr ⟨rfl, rfl, rfl⟩)))) (hb hby d2_13) (by decide) (by decide) ⟨by unfold own_of1; rw [if_pos hc1_1]; try rfl, N0, e2⟩
  · skip
    refine own_step (T' := s₁) (f' := (mkF m 4 #[.val (.int p1)] [])) (fun t k => XS.ifNo X0.here hx rfl (hb hby d2_1) rfl ((if0 _ _).trans (feq hc1_1).1) k) ?_
    obtain ⟨T3, X3, e3, st3⟩ := getS2 X0 hx hZ hown (host := "") (Or.inl (hw _ (List.mem_of_getElem? (i := 14) rfl))) Via.refl e0 S_T (g := (mkF m 4 #[.val (.int p1)] [])) rfl (hb hby d2_4)
    refine own_step (T' := T3) (f' := (mkF m 7 #[.val (.int p1)] [(.ref aT)])) (fun t k => st3 t k) ?_
    refine own_step (T' := T3) (f' := (mkF m 13 #[.val (.int p1)] [(.ref aT)])) (fun t k => XS.goto X3.here hx rfl (pc0 := 7) (pc' := 13) rfl (hb hby d2_7) (by decide) (by decide) k) ?_
    exact own_retO X3 hx hlk Bd.returns rfl (Or.inr (Or.inr (Or.inr (Or.inr ⟨rfl, rfl, rfl⟩)))) (hb hby d2_13) (by decide) (by decide) ⟨by unfold own_of1; rw [if_neg hc1_1]; try rfl, N0, e3⟩

theorem pn_0 : plainName "com/example/inchworm/inchworm/lang/TruthOfPinLaw" = true := by first | (simp [plainName, overriddenIn]; done) | decide +kernel
theorem pd_0_0 : parseMethodDescriptor "(ZZ)Lcom/example/inchworm/inchworm/lang/Truth;" = some ⟨[.boolean, .boolean], some (.object "com/example/inchworm/inchworm/lang/Truth")⟩ := by decide +kernel
theorem pd_0_1 : parseMethodDescriptor "(Z)Lcom/example/inchworm/inchworm/lang/Truth;" = some ⟨[.boolean], some (.object "com/example/inchworm/inchworm/lang/Truth")⟩ := by decide +kernel
theorem ef_rm0 (m : MethodId) (x0 : Int32) (x1 : Int32) : entryFrame m #[(.int x0), (.int x1)] maxLocals = mkF m 0 #[.val (.int x0), .val (.int x1), .unset, .unset, .unset, .unset, .unset, .unset] [] := by first | (simp [entryFrame, mkF, argsToLocals, Value.category, maxLocals]; done) | rfl
def Q0 (n0 : Nat) (v : Option Value) (h : Heap) (L : List Loc) : Prop := v = some (.int 1) ∧ Fr n0 L
set_option maxRecDepth 65536 in
set_option maxHeartbeats 40000000 in
theorem rm0 (l : Launch) (Z : State) (a0 : Array Value) (hw : ∀ d ∈ tables_1, d.before a0 Z = true) (ws : List Jvm.Cond) (p1 : Int32) (p2 : Int32) (h0 : Heap) (n0 : Nat) (Z0 : n0 ≤ h0.size) (aT aF aU : Addr) (S_T : Sta Z h0 "com/example/inchworm/inchworm/lang/Truth" "TRUE" "Lcom/example/inchworm/inchworm/lang/Truth;" (.ref aT)) (S_F : Sta Z h0 "com/example/inchworm/inchworm/lang/Truth" "FALSE" "Lcom/example/inchworm/inchworm/lang/Truth;" (.ref aF)) (S_U : Sta Z h0 "com/example/inchworm/inchworm/lang/Truth" "UNKNOWN" "Lcom/example/inchworm/inchworm/lang/Truth;" (.ref aU)) (nFT : ¬ aF = aT) (nUT : ¬ aU = aT) (nUF : ¬ aU = aF) (nTF : ¬ aT = aF) :
    MetFree l x (head1 (Jvm.Cond.code x code maxLocals ret :: ws) room_1) (fun a U => a = #[(.int p1), (.int p2)] ∧ Z.Warmed39 U.vm ∧ U.heap = h0) (fun _ _ _ _ _ => True) (fun _ U o U' => ∃ v L, o = .returned v ∧ Q0 n0 v U'.heap L ∧ FrameEnd U o U' L room_1.cells room_1.slots) := by
  refine MetFree.of_bodySF (plainFor_of_name pn_0) hisR ?_
  intro p e s m args below meth c s₁ Bd hml0 hP hK
  obtain ⟨rfl, hZ, hh⟩ := hP
  have hx := Bd.exec
  have hby := Bd.bytes
  have hlk : meth.locks = false := BodyLoose.notSynchronized Bd
  have hml : c.maxLocals = 8 := hml0
  have hown : s.vm.findClass "com/example/inchworm/inchworm/lang/TruthOfPinLaw" = some m.cls := findClass_of_methodNamed Bd.named
  have hnm := (name_of_methodNamed Bd.named Bd.method).1
  have X0 : Stand p l e room_1 s m #[(.int p1), (.int p2)] below meth c s₁ [] 0 0 := Stand.of_body Bd
  have e0 : s₁.heap = h0 := by rw [← hh, Bd.state]; rfl
  have N0 := Fr.nil n0
  show OwnEnds p e below s (Q0 n0) room_1.cells room_1.slots s₁ (entryFrame m #[(.int p1), (.int p2)] maxLocals)
  refine own_step (T' := s₁) (f' := (mkF m 0 #[.val (.int p1), .val (.int p2), .unset, .unset, .unset, .unset, .unset, .unset] [])) (fun t k => castTop (ef_rm0 m p1 p2) k) ?_
  refine own_step (T' := s₁) (f' := (mkF m 1 #[.val (.int p1), .val (.int p2), .unset, .unset, .unset, .unset, .unset, .unset] [(.int p1)])) (fun t k => XS.iloadN X0.here hx rfl (hb hby at_0) rfl k) ?_
  refine own_step (T' := s₁) (f' := (mkF m 2 #[.val (.int p1), .val (.int p2), .unset, .unset, .unset, .unset, .unset, .unset] [(.int (1 : Int32)), (.int p1)])) (fun t k => XS.iconst X0.here hx rfl (hb hby at_1) k) ?_
  refine own_step (T' := s₁) (f' := (mkF m 3 #[.val (.int p1), .val (.int p2), .unset, .unset, .unset, .unset, .unset, .unset] [(.int (p1 &&& (1 : Int32)))])) (fun t k => XS.iand X0.here hx rfl (hb hby at_2) rfl k) ?_
  by_cases hc3_1 : (p1 &&& (1 : Int32)) = (0 : Int32)
  · skip
    refine own_step (T' := s₁) (f' := (mkF m 10 #[.val (.int p1), .val (.int p2), .unset, .unset, .unset, .unset, .unset, .unset] [])) (fun t k => XS.ifYes X0.here hx rfl (pc0 := 3) (pc' := 10) rfl (hb hby at_3) rfl ((if0 _ _).trans (teq hc3_1).1) (by decide) (by decide) k) ?_
    refine own_step (T' := s₁) (f' := (mkF m 11 #[.val (.int p1), .val (.int p2), .unset, .unset, .unset, .unset, .unset, .unset] [(.int (0 : Int32))])) (fun t k => XS.iconst X0.here hx rfl (hb hby at_10) k) ?_
    refine own_step (T' := s₁) (f' := (mkF m 12 #[.val (.int p1), .val (.int p2), .val (.int (0 : Int32)), .unset, .unset, .unset, .unset, .unset] [])) (fun t k => XS.istoreN X0.here hx rfl (hb hby at_11) rfl (l' := #[.val (.int p1), .val (.int p2), .val (.int (0 : Int32)), .unset, .unset, .unset, .unset, .unset]) rfl k) ?_
    refine own_step (T' := s₁) (f' := (mkF m 13 #[.val (.int p1), .val (.int p2), .val (.int (0 : Int32)), .unset, .unset, .unset, .unset, .unset] [(.int p2)])) (fun t k => XS.iloadN X0.here hx rfl (hb hby at_12) rfl k) ?_
    refine own_step (T' := s₁) (f' := (mkF m 14 #[.val (.int p1), .val (.int p2), .val (.int (0 : Int32)), .unset, .unset, .unset, .unset, .unset] [(.int (1 : Int32)), (.int p2)])) (fun t k => XS.iconst X0.here hx rfl (hb hby at_13) k) ?_
    refine own_step (T' := s₁) (f' := (mkF m 15 #[.val (.int p1), .val (.int p2), .val (.int (0 : Int32)), .unset, .unset, .unset, .unset, .unset] [(.int (p2 &&& (1 : Int32)))])) (fun t k => XS.iand X0.here hx rfl (hb hby at_14) rfl k) ?_
    by_cases hc15_2 : (p2 &&& (1 : Int32)) = (0 : Int32)
    · skip
      refine own_step (T' := s₁) (f' := (mkF m 22 #[.val (.int p1), .val (.int p2), .val (.int (0 : Int32)), .unset, .unset, .unset, .unset, .unset] [])) (fun t k => XS.ifYes X0.here hx rfl (pc0 := 15) (pc' := 22) rfl (hb hby at_15) rfl ((if0 _ _).trans (teq hc15_2).1) (by decide) (by decide) k) ?_
      refine own_step (T' := s₁) (f' := (mkF m 23 #[.val (.int p1), .val (.int p2), .val (.int (0 : Int32)), .unset, .unset, .unset, .unset, .unset] [(.int (0 : Int32))])) (fun t k => XS.iconst X0.here hx rfl (hb hby at_22) k) ?_
      refine own_step (T' := s₁) (f' := (mkF m 24 #[.val (.int p1), .val (.int p2), .val (.int (0 : Int32)), .val (.int (0 : Int32)), .unset, .unset, .unset, .unset] [])) (fun t k => XS.istoreN X0.here hx rfl (hb hby at_23) rfl (l' := #[.val (.int p1), .val (.int p2), .val (.int (0 : Int32)), .val (.int (0 : Int32)), .unset, .unset, .unset, .unset]) rfl k) ?_
      refine own_step (T' := s₁) (f' := (mkF m 25 #[.val (.int p1), .val (.int p2), .val (.int (0 : Int32)), .val (.int (0 : Int32)), .unset, .unset, .unset, .unset] [(.int (0 : Int32))])) (fun t k => XS.iloadN X0.here hx rfl (hb hby at_24) rfl k) ?_
      refine own_step (T' := s₁) (f' := (mkF m 26 #[.val (.int p1), .val (.int p2), .val (.int (0 : Int32)), .val (.int (0 : Int32)), .unset, .unset, .unset, .unset] [(.int (0 : Int32)), (.int (0 : Int32))])) (fun t k => XS.iloadN X0.here hx rfl (hb hby at_25) rfl k) ?_
      obtain ⟨_, _, ⟨T3, L3, k3, n3⟩, -, X3, ⟨Lc3, hQ3, l3, y3, z3⟩, st3⟩ := Jvm.LawKit.callS X0 hx (y := (⟨"com/example/inchworm/inchworm/lang/Truth", "of", "(ZZ)Lcom/example/inchworm/inchworm/lang/Truth;"⟩ : MethodName)) hown (mvT hZ (hw _ (List.mem_of_getElem? (i := 0) rfl))) (mvT hZ (hw _ (List.mem_of_getElem? (i := 1) rfl))) (mvT hZ (hw _ (List.mem_of_getElem? (i := 2) rfl))) (mvT hZ (hw _ (List.mem_of_getElem? (i := 3) rfl))) (by decide) (backOf (W := 0) (rm1 l Z a0 hw [] (0 : Int32) (0 : Int32) h0 n0 Z0 aT aF aU S_T S_F S_U) hZ (hw _ (List.mem_of_getElem? (i := 3) rfl)) (hw _ (List.mem_of_getElem? (i := 2) rfl)) (by decide) (by decide)) (g := (mkF m 26 #[.val (.int p1), .val (.int p2), .val (.int (0 : Int32)), .val (.int (0 : Int32)), .unset, .unset, .unset, .unset] [(.int (0 : Int32)), (.int (0 : Int32))])) rfl (by rw [hml]; rfl) (argsL := [(.int (0 : Int32)), (.int (0 : Int32))]) (rest := []) (lenOf pd_0_0 rfl) rfl (by show 2 * 0 + _ ≤ _; exact Nat.le_of_eq rfl) (hb hby at_26) (fun _ _ => ⟨rfl, e0, (by decide : 0 + 0 ≤ _), (by decide : 0 + 0 ≤ _)⟩)
      dsimp only [Pt.U, Pt.locs, Pt.cells, Pt.slots] at X3 l3 y3 z3 st3 hQ3
      subst l3 y3 z3
      obtain ⟨rfl, N3q, E3⟩ := hQ3
      have N3 := Fr.app N0 N3q
      have v3 : own_of2 (0 : Int32) (0 : Int32) aT aF aU = aF := by unfold own_of2; simp
      rw [v3] at st3
      refine own_step (T' := T3) (f' := (mkF m 29 #[.val (.int p1), .val (.int p2), .val (.int (0 : Int32)), .val (.int (0 : Int32)), .unset, .unset, .unset, .unset] [(.ref aF)])) (fun t k => st3 t k) ?_
      refine own_step (T' := T3) (f' := (mkF m 31 #[.val (.int p1), .val (.int p2), .val (.int (0 : Int32)), .val (.int (0 : Int32)), .val (.ref aF), .unset, .unset, .unset] [])) (fun t k => XS.astore X3.here hx rfl (hb hby at_29) rfl rfl (l' := #[.val (.int p1), .val (.int p2), .val (.int (0 : Int32)), .val (.int (0 : Int32)), .val (.ref aF), .unset, .unset, .unset]) rfl k) ?_
      refine own_step (T' := T3) (f' := (mkF m 33 #[.val (.int p1), .val (.int p2), .val (.int (0 : Int32)), .val (.int (0 : Int32)), .val (.ref aF), .unset, .unset, .unset] [(.ref aF)])) (fun t k => XS.aload X3.here hx rfl (hb hby at_31) rfl rfl k) ?_
      refine own_step (T' := T3) (f' := (mkF m 38 #[.val (.int p1), .val (.int p2), .val (.int (0 : Int32)), .val (.int (0 : Int32)), .val (.ref aF), .unset, .unset, .unset] [])) (fun t k => XS.ifnonnullYes X3.here hx rfl (pc0 := 33) (pc' := 38) rfl (hb hby at_33) rfl (by decide) (by decide) k) ?_
      refine own_step (T' := T3) (f' := (mkF m 40 #[.val (.int p1), .val (.int p2), .val (.int (0 : Int32)), .val (.int (0 : Int32)), .val (.ref aF), .unset, .unset, .unset] [(.ref aF)])) (fun t k => XS.aload X3.here hx rfl (hb hby at_38) rfl rfl k) ?_
      obtain ⟨T4, X4, e4, st4⟩ := getS2 X3 hx hZ hown (host := "") (Or.inl (hw _ (List.mem_of_getElem? (i := 6) rfl))) Via.refl E3 S_T (g := (mkF m 40 #[.val (.int p1), .val (.int p2), .val (.int (0 : Int32)), .val (.int (0 : Int32)), .val (.ref aF), .unset, .unset, .unset] [(.ref aF)])) rfl (hb hby at_40)
      refine own_step (T' := T4) (f' := (mkF m 43 #[.val (.int p1), .val (.int p2), .val (.int (0 : Int32)), .val (.int (0 : Int32)), .val (.ref aF), .unset, .unset, .unset] [(.ref aT), (.ref aF)])) (fun t k => st4 t k) ?_
      refine own_step (T' := T4) (f' := (mkF m 50 #[.val (.int p1), .val (.int p2), .val (.int (0 : Int32)), .val (.int (0 : Int32)), .val (.ref aF), .unset, .unset, .unset] [])) (fun t k => Jvm.RoadKit.acmp (g := (mkF m 43 #[.val (.int p1), .val (.int p2), .val (.int (0 : Int32)), .val (.int (0 : Int32)), .val (.ref aF), .unset, .unset, .unset] [(.ref aT), (.ref aF)])) X4 hx rfl rfl rfl (pc0 := 43) (pc' := 50) (same := false) rfl (hb hby at_43) rfl (decide_eq_false fun q => nFT (Value.ref.inj q)) (by decide) (by decide) k) ?_
      refine own_step (T' := T4) (f' := (mkF m 51 #[.val (.int p1), .val (.int p2), .val (.int (0 : Int32)), .val (.int (0 : Int32)), .val (.ref aF), .unset, .unset, .unset] [(.int (0 : Int32))])) (fun t k => XS.iconst X4.here hx rfl (hb hby at_50) k) ?_
      refine own_step (T' := T4) (f' := (mkF m 53 #[.val (.int p1), .val (.int p2), .val (.int (0 : Int32)), .val (.int (0 : Int32)), .val (.ref aF), .val (.int (0 : Int32)), .unset, .unset] [])) (fun t k => XS.istore X4.here hx rfl (hb hby at_51) rfl (l' := #[.val (.int p1), .val (.int p2), .val (.int (0 : Int32)), .val (.int (0 : Int32)), .val (.ref aF), .val (.int (0 : Int32)), .unset, .unset]) rfl k) ?_
      refine own_step (T' := T4) (f' := (mkF m 55 #[.val (.int p1), .val (.int p2), .val (.int (0 : Int32)), .val (.int (0 : Int32)), .val (.ref aF), .val (.int (0 : Int32)), .unset, .unset] [(.ref aF)])) (fun t k => XS.aload X4.here hx rfl (hb hby at_53) rfl rfl k) ?_
      obtain ⟨T5, X5, e5, st5⟩ := getS2 X4 hx hZ hown (host := "") (Or.inl (hw _ (List.mem_of_getElem? (i := 8) rfl))) Via.refl e4 S_F (g := (mkF m 55 #[.val (.int p1), .val (.int p2), .val (.int (0 : Int32)), .val (.int (0 : Int32)), .val (.ref aF), .val (.int (0 : Int32)), .unset, .unset] [(.ref aF)])) rfl (hb hby at_55)
      refine own_step (T' := T5) (f' := (mkF m 58 #[.val (.int p1), .val (.int p2), .val (.int (0 : Int32)), .val (.int (0 : Int32)), .val (.ref aF), .val (.int (0 : Int32)), .unset, .unset] [(.ref aF), (.ref aF)])) (fun t k => st5 t k) ?_
      refine own_step (T' := T5) (f' := (mkF m 65 #[.val (.int p1), .val (.int p2), .val (.int (0 : Int32)), .val (.int (0 : Int32)), .val (.ref aF), .val (.int (0 : Int32)), .unset, .unset] [])) (fun t k => Jvm.RoadKit.acmp (g := (mkF m 58 #[.val (.int p1), .val (.int p2), .val (.int (0 : Int32)), .val (.int (0 : Int32)), .val (.ref aF), .val (.int (0 : Int32)), .unset, .unset] [(.ref aF), (.ref aF)])) X5 hx rfl rfl rfl (pc0 := 58) (pc' := 65) (same := true) rfl (hb hby at_58) rfl (decide_eq_true rfl) (by decide) (by decide) k) ?_
      refine own_step (T' := T5) (f' := (mkF m 66 #[.val (.int p1), .val (.int p2), .val (.int (0 : Int32)), .val (.int (0 : Int32)), .val (.ref aF), .val (.int (0 : Int32)), .unset, .unset] [(.int (0 : Int32))])) (fun t k => XS.iconst X5.here hx rfl (hb hby at_65) k) ?_
      refine own_step (T' := T5) (f' := (mkF m 68 #[.val (.int p1), .val (.int p2), .val (.int (0 : Int32)), .val (.int (0 : Int32)), .val (.ref aF), .val (.int (0 : Int32)), .val (.int (0 : Int32)), .unset] [])) (fun t k => XS.istore X5.here hx rfl (hb hby at_66) rfl (l' := #[.val (.int p1), .val (.int p2), .val (.int (0 : Int32)), .val (.int (0 : Int32)), .val (.ref aF), .val (.int (0 : Int32)), .val (.int (0 : Int32)), .unset]) rfl k) ?_
      refine own_step (T' := T5) (f' := (mkF m 70 #[.val (.int p1), .val (.int p2), .val (.int (0 : Int32)), .val (.int (0 : Int32)), .val (.ref aF), .val (.int (0 : Int32)), .val (.int (0 : Int32)), .unset] [(.int (0 : Int32))])) (fun t k => XS.iload X5.here hx rfl (hb hby at_68) rfl k) ?_
      refine own_step (T' := T5) (f' := (mkF m 71 #[.val (.int p1), .val (.int p2), .val (.int (0 : Int32)), .val (.int (0 : Int32)), .val (.ref aF), .val (.int (0 : Int32)), .val (.int (0 : Int32)), .unset] [(.int (0 : Int32)), (.int (0 : Int32))])) (fun t k => XS.iloadN X5.here hx rfl (hb hby at_70) rfl k) ?_
      refine own_step (T' := T5) (f' := (mkF m 74 #[.val (.int p1), .val (.int p2), .val (.int (0 : Int32)), .val (.int (0 : Int32)), .val (.ref aF), .val (.int (0 : Int32)), .val (.int (0 : Int32)), .unset] [])) (fun t k => XS.icmpNo X5.here hx rfl (hb hby at_71) rfl (teq (by decide : (0 : Int32) = (0 : Int32))).2 k) ?_
      refine own_step (T' := T5) (f' := (mkF m 76 #[.val (.int p1), .val (.int p2), .val (.int (0 : Int32)), .val (.int (0 : Int32)), .val (.ref aF), .val (.int (0 : Int32)), .val (.int (0 : Int32)), .unset] [(.int (0 : Int32))])) (fun t k => XS.iload X5.here hx rfl (hb hby at_74) rfl k) ?_
      refine own_step (T' := T5) (f' := (mkF m 77 #[.val (.int p1), .val (.int p2), .val (.int (0 : Int32)), .val (.int (0 : Int32)), .val (.ref aF), .val (.int (0 : Int32)), .val (.int (0 : Int32)), .unset] [(.int (0 : Int32)), (.int (0 : Int32))])) (fun t k => XS.iloadN X5.here hx rfl (hb hby at_76) rfl k) ?_
      refine own_step (T' := T5) (f' := (mkF m 80 #[.val (.int p1), .val (.int p2), .val (.int (0 : Int32)), .val (.int (0 : Int32)), .val (.ref aF), .val (.int (0 : Int32)), .val (.int (0 : Int32)), .unset] [(.int (0 : Int32))])) (fun t k => XS.ifNo X5.here hx rfl (hb hby at_77) rfl ((if0 _ _).trans (teq (by decide : (0 : Int32) = (0 : Int32))).2) k) ?_
      refine own_step (T' := T5) (f' := (mkF m 81 #[.val (.int p1), .val (.int p2), .val (.int (0 : Int32)), .val (.int (0 : Int32)), .val (.ref aF), .val (.int (0 : Int32)), .val (.int (0 : Int32)), .unset] [(.int (0 : Int32)), (.int (0 : Int32))])) (fun t k => XS.iloadN X5.here hx rfl (hb hby at_80) rfl k) ?_
      refine own_step (T' := T5) (f' := (mkF m 88 #[.val (.int p1), .val (.int p2), .val (.int (0 : Int32)), .val (.int (0 : Int32)), .val (.ref aF), .val (.int (0 : Int32)), .val (.int (0 : Int32)), .unset] [(.int (0 : Int32))])) (fun t k => XS.ifYes X5.here hx rfl (pc0 := 81) (pc' := 88) rfl (hb hby at_81) rfl ((if0 _ _).trans (teq (by decide : (0 : Int32) = (0 : Int32))).1) (by decide) (by decide) k) ?_
      refine own_step (T' := T5) (f' := (mkF m 89 #[.val (.int p1), .val (.int p2), .val (.int (0 : Int32)), .val (.int (0 : Int32)), .val (.ref aF), .val (.int (0 : Int32)), .val (.int (0 : Int32)), .unset] [(.int (0 : Int32)), (.int (0 : Int32))])) (fun t k => XS.iconst X5.here hx rfl (hb hby at_88) k) ?_
      refine own_step (T' := T5) (f' := (mkF m 92 #[.val (.int p1), .val (.int p2), .val (.int (0 : Int32)), .val (.int (0 : Int32)), .val (.ref aF), .val (.int (0 : Int32)), .val (.int (0 : Int32)), .unset] [])) (fun t k => XS.icmpNo X5.here hx rfl (hb hby at_89) rfl (teq (by decide : (0 : Int32) = (0 : Int32))).2 k) ?_
      refine own_step (T' := T5) (f' := (mkF m 93 #[.val (.int p1), .val (.int p2), .val (.int (0 : Int32)), .val (.int (0 : Int32)), .val (.ref aF), .val (.int (0 : Int32)), .val (.int (0 : Int32)), .unset] [(.int (1 : Int32))])) (fun t k => XS.iconst X5.here hx rfl (hb hby at_92) k) ?_
      refine own_step (T' := T5) (f' := (mkF m 97 #[.val (.int p1), .val (.int p2), .val (.int (0 : Int32)), .val (.int (0 : Int32)), .val (.ref aF), .val (.int (0 : Int32)), .val (.int (0 : Int32)), .unset] [(.int (1 : Int32))])) (fun t k => XS.goto X5.here hx rfl (pc0 := 93) (pc' := 97) rfl (hb hby at_93) (by decide) (by decide) k) ?_
      refine own_step (T' := T5) (f' := (mkF m 99 #[.val (.int p1), .val (.int p2), .val (.int (0 : Int32)), .val (.int (0 : Int32)), .val (.ref aF), .val (.int (0 : Int32)), .val (.int (0 : Int32)), .val (.int (1 : Int32))] [])) (fun t k => XS.istore X5.here hx rfl (hb hby at_97) rfl (l' := #[.val (.int p1), .val (.int p2), .val (.int (0 : Int32)), .val (.int (0 : Int32)), .val (.ref aF), .val (.int (0 : Int32)), .val (.int (0 : Int32)), .val (.int (1 : Int32))]) rfl k) ?_
      refine own_step (T' := T5) (f' := (mkF m 100 #[.val (.int p1), .val (.int p2), .val (.int (0 : Int32)), .val (.int (0 : Int32)), .val (.ref aF), .val (.int (0 : Int32)), .val (.int (0 : Int32)), .val (.int (1 : Int32))] [(.int (0 : Int32))])) (fun t k => XS.iloadN X5.here hx rfl (hb hby at_99) rfl k) ?_
      refine own_step (T' := T5) (f' := (mkF m 101 #[.val (.int p1), .val (.int p2), .val (.int (0 : Int32)), .val (.int (0 : Int32)), .val (.ref aF), .val (.int (0 : Int32)), .val (.int (0 : Int32)), .val (.int (1 : Int32))] [(.int (0 : Int32)), (.int (0 : Int32))])) (fun t k => XS.iloadN X5.here hx rfl (hb hby at_100) rfl k) ?_
      refine own_step (T' := T5) (f' := (mkF m 104 #[.val (.int p1), .val (.int p2), .val (.int (0 : Int32)), .val (.int (0 : Int32)), .val (.ref aF), .val (.int (0 : Int32)), .val (.int (0 : Int32)), .val (.int (1 : Int32))] [])) (fun t k => XS.icmpNo X5.here hx rfl (hb hby at_101) rfl (teq (by decide : (0 : Int32) = (0 : Int32))).2 k) ?_
      refine own_step (T' := T5) (f' := (mkF m 106 #[.val (.int p1), .val (.int p2), .val (.int (0 : Int32)), .val (.int (0 : Int32)), .val (.ref aF), .val (.int (0 : Int32)), .val (.int (0 : Int32)), .val (.int (1 : Int32))] [(.int (1 : Int32))])) (fun t k => XS.iload X5.here hx rfl (hb hby at_104) rfl k) ?_
      refine own_step (T' := T5) (f' := (mkF m 109 #[.val (.int p1), .val (.int p2), .val (.int (0 : Int32)), .val (.int (0 : Int32)), .val (.ref aF), .val (.int (0 : Int32)), .val (.int (0 : Int32)), .val (.int (1 : Int32))] [])) (fun t k => XS.ifNo X5.here hx rfl (hb hby at_106) rfl ((if0 _ _).trans (feq (by decide : ¬ ((1 : Int32) = (0 : Int32)))).1) k) ?_
      refine own_step (T' := T5) (f' := (mkF m 111 #[.val (.int p1), .val (.int p2), .val (.int (0 : Int32)), .val (.int (0 : Int32)), .val (.ref aF), .val (.int (0 : Int32)), .val (.int (0 : Int32)), .val (.int (1 : Int32))] [(.ref aF)])) (fun t k => XS.aload X5.here hx rfl (hb hby at_109) rfl rfl k) ?_
      refine own_step (T' := T5) (f' := (mkF m 112 #[.val (.int p1), .val (.int p2), .val (.int (0 : Int32)), .val (.int (0 : Int32)), .val (.ref aF), .val (.int (0 : Int32)), .val (.int (0 : Int32)), .val (.int (1 : Int32))] [(.int (0 : Int32)), (.ref aF)])) (fun t k => XS.iloadN X5.here hx rfl (hb hby at_111) rfl k) ?_
      obtain ⟨_, _, ⟨T6, L6, k6, n6⟩, -, X6, ⟨Lc6, hQ6, l6, y6, z6⟩, st6⟩ := Jvm.LawKit.callS X5 hx (y := (⟨"com/example/inchworm/inchworm/lang/Truth", "of", "(Z)Lcom/example/inchworm/inchworm/lang/Truth;"⟩ : MethodName)) hown (mvT hZ (hw _ (List.mem_of_getElem? (i := 11) rfl))) (mvT hZ (hw _ (List.mem_of_getElem? (i := 12) rfl))) (mvT hZ (hw _ (List.mem_of_getElem? (i := 2) rfl))) (mvT hZ (hw _ (List.mem_of_getElem? (i := 13) rfl))) (by decide) (backOf (W := 1) (rm2 l Z a0 hw [] (0 : Int32) h0 n0 Z0 aT aF aU S_T S_F S_U) hZ (hw _ (List.mem_of_getElem? (i := 13) rfl)) (hw _ (List.mem_of_getElem? (i := 2) rfl)) (by decide) (by decide)) (g := (mkF m 112 #[.val (.int p1), .val (.int p2), .val (.int (0 : Int32)), .val (.int (0 : Int32)), .val (.ref aF), .val (.int (0 : Int32)), .val (.int (0 : Int32)), .val (.int (1 : Int32))] [(.int (0 : Int32)), (.ref aF)])) rfl (by rw [hml]; rfl) (argsL := [(.int (0 : Int32))]) (rest := [(.ref aF)]) (lenOf pd_0_1 rfl) rfl (by show 2 * 0 + _ ≤ _; exact Nat.le_of_eq rfl) (hb hby at_112) (fun _ _ => ⟨rfl, e5, (by decide : 0 + 0 ≤ _), (by decide : 0 + 0 ≤ _)⟩)
      dsimp only [Pt.U, Pt.locs, Pt.cells, Pt.slots] at X6 l6 y6 z6 st6 hQ6
      subst l6 y6 z6
      obtain ⟨rfl, N6q, E6⟩ := hQ6
      have N6 := Fr.app N3 N6q
      have v6 : own_of1 (0 : Int32) aT aF aU = aF := by unfold own_of1; simp
      rw [v6] at st6
      refine own_step (T' := T6) (f' := (mkF m 115 #[.val (.int p1), .val (.int p2), .val (.int (0 : Int32)), .val (.int (0 : Int32)), .val (.ref aF), .val (.int (0 : Int32)), .val (.int (0 : Int32)), .val (.int (1 : Int32))] [(.ref aF), (.ref aF)])) (fun t k => st6 t k) ?_
      refine own_step (T' := T6) (f' := (mkF m 118 #[.val (.int p1), .val (.int p2), .val (.int (0 : Int32)), .val (.int (0 : Int32)), .val (.ref aF), .val (.int (0 : Int32)), .val (.int (0 : Int32)), .val (.int (1 : Int32))] [])) (fun t k => Jvm.RoadKit.acmp (g := (mkF m 115 #[.val (.int p1), .val (.int p2), .val (.int (0 : Int32)), .val (.int (0 : Int32)), .val (.ref aF), .val (.int (0 : Int32)), .val (.int (0 : Int32)), .val (.int (1 : Int32))] [(.ref aF), (.ref aF)])) X6 hx rfl rfl rfl (pc0 := 115) (pc' := 118) (same := true) rfl (hb hby at_115) rfl (decide_eq_true rfl) (by decide) (by decide) k) ?_
      refine own_step (T' := T6) (f' := (mkF m 119 #[.val (.int p1), .val (.int p2), .val (.int (0 : Int32)), .val (.int (0 : Int32)), .val (.ref aF), .val (.int (0 : Int32)), .val (.int (0 : Int32)), .val (.int (1 : Int32))] [(.int (1 : Int32))])) (fun t k => XS.iconst X6.here hx rfl (hb hby at_118) k) ?_
      refine own_step (T' := T6) (f' := (mkF m 123 #[.val (.int p1), .val (.int p2), .val (.int (0 : Int32)), .val (.int (0 : Int32)), .val (.ref aF), .val (.int (0 : Int32)), .val (.int (0 : Int32)), .val (.int (1 : Int32))] [(.int (1 : Int32))])) (fun t k => XS.goto X6.here hx rfl (pc0 := 119) (pc' := 123) rfl (hb hby at_119) (by decide) (by decide) k) ?_
      refine own_step (T' := T6) (f' := (mkF m 125 #[.val (.int p1), .val (.int p2), .val (.int (0 : Int32)), .val (.int (0 : Int32)), .val (.ref aF), .val (.int (0 : Int32)), .val (.int (0 : Int32)), .val (.int (1 : Int32))] [])) (fun t k => XS.istore X6.here hx rfl (hb hby at_123) rfl (l' := #[.val (.int p1), .val (.int p2), .val (.int (0 : Int32)), .val (.int (0 : Int32)), .val (.ref aF), .val (.int (0 : Int32)), .val (.int (0 : Int32)), .val (.int (1 : Int32))]) rfl k) ?_
      refine own_step (T' := T6) (f' := (mkF m 127 #[.val (.int p1), .val (.int p2), .val (.int (0 : Int32)), .val (.int (0 : Int32)), .val (.ref aF), .val (.int (0 : Int32)), .val (.int (0 : Int32)), .val (.int (1 : Int32))] [(.int (1 : Int32))])) (fun t k => XS.iload X6.here hx rfl (hb hby at_125) rfl k) ?_
      exact own_retN X6 hx hlk (t := .boolean) Bd.returns (by simp) (hb hby at_127) (by decide) (by decide) ⟨rfl, N6⟩
    · skip
      refine own_step (T' := s₁) (f' := (mkF m 18 #[.val (.int p1), .val (.int p2), .val (.int (0 : Int32)), .unset, .unset, .unset, .unset, .unset] [])) (fun t k => XS.ifNo X0.here hx rfl (hb hby at_15) rfl ((if0 _ _).trans (feq hc15_2).1) k) ?_
      refine own_step (T' := s₁) (f' := (mkF m 19 #[.val (.int p1), .val (.int p2), .val (.int (0 : Int32)), .unset, .unset, .unset, .unset, .unset] [(.int (1 : Int32))])) (fun t k => XS.iconst X0.here hx rfl (hb hby at_18) k) ?_
      refine own_step (T' := s₁) (f' := (mkF m 23 #[.val (.int p1), .val (.int p2), .val (.int (0 : Int32)), .unset, .unset, .unset, .unset, .unset] [(.int (1 : Int32))])) (fun t k => XS.goto X0.here hx rfl (pc0 := 19) (pc' := 23) rfl (hb hby at_19) (by decide) (by decide) k) ?_
      refine own_step (T' := s₁) (f' := (mkF m 24 #[.val (.int p1), .val (.int p2), .val (.int (0 : Int32)), .val (.int (1 : Int32)), .unset, .unset, .unset, .unset] [])) (fun t k => XS.istoreN X0.here hx rfl (hb hby at_23) rfl (l' := #[.val (.int p1), .val (.int p2), .val (.int (0 : Int32)), .val (.int (1 : Int32)), .unset, .unset, .unset, .unset]) rfl k) ?_
      refine own_step (T' := s₁) (f' := (mkF m 25 #[.val (.int p1), .val (.int p2), .val (.int (0 : Int32)), .val (.int (1 : Int32)), .unset, .unset, .unset, .unset] [(.int (0 : Int32))])) (fun t k => XS.iloadN X0.here hx rfl (hb hby at_24) rfl k) ?_
      refine own_step (T' := s₁) (f' := (mkF m 26 #[.val (.int p1), .val (.int p2), .val (.int (0 : Int32)), .val (.int (1 : Int32)), .unset, .unset, .unset, .unset] [(.int (1 : Int32)), (.int (0 : Int32))])) (fun t k => XS.iloadN X0.here hx rfl (hb hby at_25) rfl k) ?_
      obtain ⟨_, _, ⟨T7, L7, k7, n7⟩, -, X7, ⟨Lc7, hQ7, l7, y7, z7⟩, st7⟩ := Jvm.LawKit.callS X0 hx (y := (⟨"com/example/inchworm/inchworm/lang/Truth", "of", "(ZZ)Lcom/example/inchworm/inchworm/lang/Truth;"⟩ : MethodName)) hown (mvT hZ (hw _ (List.mem_of_getElem? (i := 0) rfl))) (mvT hZ (hw _ (List.mem_of_getElem? (i := 1) rfl))) (mvT hZ (hw _ (List.mem_of_getElem? (i := 2) rfl))) (mvT hZ (hw _ (List.mem_of_getElem? (i := 3) rfl))) (by decide) (backOf (W := 0) (rm1 l Z a0 hw [] (0 : Int32) (1 : Int32) h0 n0 Z0 aT aF aU S_T S_F S_U) hZ (hw _ (List.mem_of_getElem? (i := 3) rfl)) (hw _ (List.mem_of_getElem? (i := 2) rfl)) (by decide) (by decide)) (g := (mkF m 26 #[.val (.int p1), .val (.int p2), .val (.int (0 : Int32)), .val (.int (1 : Int32)), .unset, .unset, .unset, .unset] [(.int (1 : Int32)), (.int (0 : Int32))])) rfl (by rw [hml]; rfl) (argsL := [(.int (0 : Int32)), (.int (1 : Int32))]) (rest := []) (lenOf pd_0_0 rfl) rfl (by show 2 * 0 + _ ≤ _; exact Nat.le_of_eq rfl) (hb hby at_26) (fun _ _ => ⟨rfl, e0, (by decide : 0 + 0 ≤ _), (by decide : 0 + 0 ≤ _)⟩)
      dsimp only [Pt.U, Pt.locs, Pt.cells, Pt.slots] at X7 l7 y7 z7 st7 hQ7
      subst l7 y7 z7
      obtain ⟨rfl, N7q, E7⟩ := hQ7
      have N7 := Fr.app N0 N7q
      have v7 : own_of2 (0 : Int32) (1 : Int32) aT aF aU = aU := by unfold own_of2; simp
      rw [v7] at st7
      refine own_step (T' := T7) (f' := (mkF m 29 #[.val (.int p1), .val (.int p2), .val (.int (0 : Int32)), .val (.int (1 : Int32)), .unset, .unset, .unset, .unset] [(.ref aU)])) (fun t k => st7 t k) ?_
      refine own_step (T' := T7) (f' := (mkF m 31 #[.val (.int p1), .val (.int p2), .val (.int (0 : Int32)), .val (.int (1 : Int32)), .val (.ref aU), .unset, .unset, .unset] [])) (fun t k => XS.astore X7.here hx rfl (hb hby at_29) rfl rfl (l' := #[.val (.int p1), .val (.int p2), .val (.int (0 : Int32)), .val (.int (1 : Int32)), .val (.ref aU), .unset, .unset, .unset]) rfl k) ?_
      refine own_step (T' := T7) (f' := (mkF m 33 #[.val (.int p1), .val (.int p2), .val (.int (0 : Int32)), .val (.int (1 : Int32)), .val (.ref aU), .unset, .unset, .unset] [(.ref aU)])) (fun t k => XS.aload X7.here hx rfl (hb hby at_31) rfl rfl k) ?_
      refine own_step (T' := T7) (f' := (mkF m 38 #[.val (.int p1), .val (.int p2), .val (.int (0 : Int32)), .val (.int (1 : Int32)), .val (.ref aU), .unset, .unset, .unset] [])) (fun t k => XS.ifnonnullYes X7.here hx rfl (pc0 := 33) (pc' := 38) rfl (hb hby at_33) rfl (by decide) (by decide) k) ?_
      refine own_step (T' := T7) (f' := (mkF m 40 #[.val (.int p1), .val (.int p2), .val (.int (0 : Int32)), .val (.int (1 : Int32)), .val (.ref aU), .unset, .unset, .unset] [(.ref aU)])) (fun t k => XS.aload X7.here hx rfl (hb hby at_38) rfl rfl k) ?_
      obtain ⟨T8, X8, e8, st8⟩ := getS2 X7 hx hZ hown (host := "") (Or.inl (hw _ (List.mem_of_getElem? (i := 6) rfl))) Via.refl E7 S_T (g := (mkF m 40 #[.val (.int p1), .val (.int p2), .val (.int (0 : Int32)), .val (.int (1 : Int32)), .val (.ref aU), .unset, .unset, .unset] [(.ref aU)])) rfl (hb hby at_40)
      refine own_step (T' := T8) (f' := (mkF m 43 #[.val (.int p1), .val (.int p2), .val (.int (0 : Int32)), .val (.int (1 : Int32)), .val (.ref aU), .unset, .unset, .unset] [(.ref aT), (.ref aU)])) (fun t k => st8 t k) ?_
      refine own_step (T' := T8) (f' := (mkF m 50 #[.val (.int p1), .val (.int p2), .val (.int (0 : Int32)), .val (.int (1 : Int32)), .val (.ref aU), .unset, .unset, .unset] [])) (fun t k => Jvm.RoadKit.acmp (g := (mkF m 43 #[.val (.int p1), .val (.int p2), .val (.int (0 : Int32)), .val (.int (1 : Int32)), .val (.ref aU), .unset, .unset, .unset] [(.ref aT), (.ref aU)])) X8 hx rfl rfl rfl (pc0 := 43) (pc' := 50) (same := false) rfl (hb hby at_43) rfl (decide_eq_false fun q => nUT (Value.ref.inj q)) (by decide) (by decide) k) ?_
      refine own_step (T' := T8) (f' := (mkF m 51 #[.val (.int p1), .val (.int p2), .val (.int (0 : Int32)), .val (.int (1 : Int32)), .val (.ref aU), .unset, .unset, .unset] [(.int (0 : Int32))])) (fun t k => XS.iconst X8.here hx rfl (hb hby at_50) k) ?_
      refine own_step (T' := T8) (f' := (mkF m 53 #[.val (.int p1), .val (.int p2), .val (.int (0 : Int32)), .val (.int (1 : Int32)), .val (.ref aU), .val (.int (0 : Int32)), .unset, .unset] [])) (fun t k => XS.istore X8.here hx rfl (hb hby at_51) rfl (l' := #[.val (.int p1), .val (.int p2), .val (.int (0 : Int32)), .val (.int (1 : Int32)), .val (.ref aU), .val (.int (0 : Int32)), .unset, .unset]) rfl k) ?_
      refine own_step (T' := T8) (f' := (mkF m 55 #[.val (.int p1), .val (.int p2), .val (.int (0 : Int32)), .val (.int (1 : Int32)), .val (.ref aU), .val (.int (0 : Int32)), .unset, .unset] [(.ref aU)])) (fun t k => XS.aload X8.here hx rfl (hb hby at_53) rfl rfl k) ?_
      obtain ⟨T9, X9, e9, st9⟩ := getS2 X8 hx hZ hown (host := "") (Or.inl (hw _ (List.mem_of_getElem? (i := 8) rfl))) Via.refl e8 S_F (g := (mkF m 55 #[.val (.int p1), .val (.int p2), .val (.int (0 : Int32)), .val (.int (1 : Int32)), .val (.ref aU), .val (.int (0 : Int32)), .unset, .unset] [(.ref aU)])) rfl (hb hby at_55)
      refine own_step (T' := T9) (f' := (mkF m 58 #[.val (.int p1), .val (.int p2), .val (.int (0 : Int32)), .val (.int (1 : Int32)), .val (.ref aU), .val (.int (0 : Int32)), .unset, .unset] [(.ref aF), (.ref aU)])) (fun t k => st9 t k) ?_
      refine own_step (T' := T9) (f' := (mkF m 61 #[.val (.int p1), .val (.int p2), .val (.int (0 : Int32)), .val (.int (1 : Int32)), .val (.ref aU), .val (.int (0 : Int32)), .unset, .unset] [])) (fun t k => Jvm.RoadKit.acmp (g := (mkF m 58 #[.val (.int p1), .val (.int p2), .val (.int (0 : Int32)), .val (.int (1 : Int32)), .val (.ref aU), .val (.int (0 : Int32)), .unset, .unset] [(.ref aF), (.ref aU)])) X9 hx rfl rfl rfl (pc0 := 58) (pc' := 61) (same := false) rfl (hb hby at_58) rfl (decide_eq_false fun q => nUF (Value.ref.inj q)) (by decide) (by decide) k) ?_
      refine own_step (T' := T9) (f' := (mkF m 62 #[.val (.int p1), .val (.int p2), .val (.int (0 : Int32)), .val (.int (1 : Int32)), .val (.ref aU), .val (.int (0 : Int32)), .unset, .unset] [(.int (1 : Int32))])) (fun t k => XS.iconst X9.here hx rfl (hb hby at_61) k) ?_
      refine own_step (T' := T9) (f' := (mkF m 66 #[.val (.int p1), .val (.int p2), .val (.int (0 : Int32)), .val (.int (1 : Int32)), .val (.ref aU), .val (.int (0 : Int32)), .unset, .unset] [(.int (1 : Int32))])) (fun t k => XS.goto X9.here hx rfl (pc0 := 62) (pc' := 66) rfl (hb hby at_62) (by decide) (by decide) k) ?_
      refine own_step (T' := T9) (f' := (mkF m 68 #[.val (.int p1), .val (.int p2), .val (.int (0 : Int32)), .val (.int (1 : Int32)), .val (.ref aU), .val (.int (0 : Int32)), .val (.int (1 : Int32)), .unset] [])) (fun t k => XS.istore X9.here hx rfl (hb hby at_66) rfl (l' := #[.val (.int p1), .val (.int p2), .val (.int (0 : Int32)), .val (.int (1 : Int32)), .val (.ref aU), .val (.int (0 : Int32)), .val (.int (1 : Int32)), .unset]) rfl k) ?_
      refine own_step (T' := T9) (f' := (mkF m 70 #[.val (.int p1), .val (.int p2), .val (.int (0 : Int32)), .val (.int (1 : Int32)), .val (.ref aU), .val (.int (0 : Int32)), .val (.int (1 : Int32)), .unset] [(.int (0 : Int32))])) (fun t k => XS.iload X9.here hx rfl (hb hby at_68) rfl k) ?_
      refine own_step (T' := T9) (f' := (mkF m 71 #[.val (.int p1), .val (.int p2), .val (.int (0 : Int32)), .val (.int (1 : Int32)), .val (.ref aU), .val (.int (0 : Int32)), .val (.int (1 : Int32)), .unset] [(.int (0 : Int32)), (.int (0 : Int32))])) (fun t k => XS.iloadN X9.here hx rfl (hb hby at_70) rfl k) ?_
      refine own_step (T' := T9) (f' := (mkF m 74 #[.val (.int p1), .val (.int p2), .val (.int (0 : Int32)), .val (.int (1 : Int32)), .val (.ref aU), .val (.int (0 : Int32)), .val (.int (1 : Int32)), .unset] [])) (fun t k => XS.icmpNo X9.here hx rfl (hb hby at_71) rfl (teq (by decide : (0 : Int32) = (0 : Int32))).2 k) ?_
      refine own_step (T' := T9) (f' := (mkF m 76 #[.val (.int p1), .val (.int p2), .val (.int (0 : Int32)), .val (.int (1 : Int32)), .val (.ref aU), .val (.int (0 : Int32)), .val (.int (1 : Int32)), .unset] [(.int (1 : Int32))])) (fun t k => XS.iload X9.here hx rfl (hb hby at_74) rfl k) ?_
      refine own_step (T' := T9) (f' := (mkF m 77 #[.val (.int p1), .val (.int p2), .val (.int (0 : Int32)), .val (.int (1 : Int32)), .val (.ref aU), .val (.int (0 : Int32)), .val (.int (1 : Int32)), .unset] [(.int (0 : Int32)), (.int (1 : Int32))])) (fun t k => XS.iloadN X9.here hx rfl (hb hby at_76) rfl k) ?_
      refine own_step (T' := T9) (f' := (mkF m 80 #[.val (.int p1), .val (.int p2), .val (.int (0 : Int32)), .val (.int (1 : Int32)), .val (.ref aU), .val (.int (0 : Int32)), .val (.int (1 : Int32)), .unset] [(.int (1 : Int32))])) (fun t k => XS.ifNo X9.here hx rfl (hb hby at_77) rfl ((if0 _ _).trans (teq (by decide : (0 : Int32) = (0 : Int32))).2) k) ?_
      refine own_step (T' := T9) (f' := (mkF m 81 #[.val (.int p1), .val (.int p2), .val (.int (0 : Int32)), .val (.int (1 : Int32)), .val (.ref aU), .val (.int (0 : Int32)), .val (.int (1 : Int32)), .unset] [(.int (1 : Int32)), (.int (1 : Int32))])) (fun t k => XS.iloadN X9.here hx rfl (hb hby at_80) rfl k) ?_
      refine own_step (T' := T9) (f' := (mkF m 84 #[.val (.int p1), .val (.int p2), .val (.int (0 : Int32)), .val (.int (1 : Int32)), .val (.ref aU), .val (.int (0 : Int32)), .val (.int (1 : Int32)), .unset] [(.int (1 : Int32))])) (fun t k => XS.ifNo X9.here hx rfl (hb hby at_81) rfl ((if0 _ _).trans (feq (by decide : ¬ ((1 : Int32) = (0 : Int32)))).1) k) ?_
      refine own_step (T' := T9) (f' := (mkF m 85 #[.val (.int p1), .val (.int p2), .val (.int (0 : Int32)), .val (.int (1 : Int32)), .val (.ref aU), .val (.int (0 : Int32)), .val (.int (1 : Int32)), .unset] [(.int (1 : Int32)), (.int (1 : Int32))])) (fun t k => XS.iconst X9.here hx rfl (hb hby at_84) k) ?_
      refine own_step (T' := T9) (f' := (mkF m 89 #[.val (.int p1), .val (.int p2), .val (.int (0 : Int32)), .val (.int (1 : Int32)), .val (.ref aU), .val (.int (0 : Int32)), .val (.int (1 : Int32)), .unset] [(.int (1 : Int32)), (.int (1 : Int32))])) (fun t k => XS.goto X9.here hx rfl (pc0 := 85) (pc' := 89) rfl (hb hby at_85) (by decide) (by decide) k) ?_
      refine own_step (T' := T9) (f' := (mkF m 92 #[.val (.int p1), .val (.int p2), .val (.int (0 : Int32)), .val (.int (1 : Int32)), .val (.ref aU), .val (.int (0 : Int32)), .val (.int (1 : Int32)), .unset] [])) (fun t k => XS.icmpNo X9.here hx rfl (hb hby at_89) rfl (teq (by decide : (1 : Int32) = (1 : Int32))).2 k) ?_
      refine own_step (T' := T9) (f' := (mkF m 93 #[.val (.int p1), .val (.int p2), .val (.int (0 : Int32)), .val (.int (1 : Int32)), .val (.ref aU), .val (.int (0 : Int32)), .val (.int (1 : Int32)), .unset] [(.int (1 : Int32))])) (fun t k => XS.iconst X9.here hx rfl (hb hby at_92) k) ?_
      refine own_step (T' := T9) (f' := (mkF m 97 #[.val (.int p1), .val (.int p2), .val (.int (0 : Int32)), .val (.int (1 : Int32)), .val (.ref aU), .val (.int (0 : Int32)), .val (.int (1 : Int32)), .unset] [(.int (1 : Int32))])) (fun t k => XS.goto X9.here hx rfl (pc0 := 93) (pc' := 97) rfl (hb hby at_93) (by decide) (by decide) k) ?_
      refine own_step (T' := T9) (f' := (mkF m 99 #[.val (.int p1), .val (.int p2), .val (.int (0 : Int32)), .val (.int (1 : Int32)), .val (.ref aU), .val (.int (0 : Int32)), .val (.int (1 : Int32)), .val (.int (1 : Int32))] [])) (fun t k => XS.istore X9.here hx rfl (hb hby at_97) rfl (l' := #[.val (.int p1), .val (.int p2), .val (.int (0 : Int32)), .val (.int (1 : Int32)), .val (.ref aU), .val (.int (0 : Int32)), .val (.int (1 : Int32)), .val (.int (1 : Int32))]) rfl k) ?_
      refine own_step (T' := T9) (f' := (mkF m 100 #[.val (.int p1), .val (.int p2), .val (.int (0 : Int32)), .val (.int (1 : Int32)), .val (.ref aU), .val (.int (0 : Int32)), .val (.int (1 : Int32)), .val (.int (1 : Int32))] [(.int (0 : Int32))])) (fun t k => XS.iloadN X9.here hx rfl (hb hby at_99) rfl k) ?_
      refine own_step (T' := T9) (f' := (mkF m 101 #[.val (.int p1), .val (.int p2), .val (.int (0 : Int32)), .val (.int (1 : Int32)), .val (.ref aU), .val (.int (0 : Int32)), .val (.int (1 : Int32)), .val (.int (1 : Int32))] [(.int (1 : Int32)), (.int (0 : Int32))])) (fun t k => XS.iloadN X9.here hx rfl (hb hby at_100) rfl k) ?_
      refine own_step (T' := T9) (f' := (mkF m 125 #[.val (.int p1), .val (.int p2), .val (.int (0 : Int32)), .val (.int (1 : Int32)), .val (.ref aU), .val (.int (0 : Int32)), .val (.int (1 : Int32)), .val (.int (1 : Int32))] [])) (fun t k => XS.icmpYes X9.here hx rfl (pc0 := 101) (pc' := 125) rfl (hb hby at_101) rfl (feq (by decide : ¬ ((0 : Int32) = (1 : Int32)))).2 (by decide) (by decide) k) ?_
      refine own_step (T' := T9) (f' := (mkF m 127 #[.val (.int p1), .val (.int p2), .val (.int (0 : Int32)), .val (.int (1 : Int32)), .val (.ref aU), .val (.int (0 : Int32)), .val (.int (1 : Int32)), .val (.int (1 : Int32))] [(.int (1 : Int32))])) (fun t k => XS.iload X9.here hx rfl (hb hby at_125) rfl k) ?_
      exact own_retN X9 hx hlk (t := .boolean) Bd.returns (by simp) (hb hby at_127) (by decide) (by decide) ⟨rfl, N7⟩
  · skip
    refine own_step (T' := s₁) (f' := (mkF m 6 #[.val (.int p1), .val (.int p2), .unset, .unset, .unset, .unset, .unset, .unset] [])) (fun t k => XS.ifNo X0.here hx rfl (hb hby at_3) rfl ((if0 _ _).trans (feq hc3_1).1) k) ?_
    refine own_step (T' := s₁) (f' := (mkF m 7 #[.val (.int p1), .val (.int p2), .unset, .unset, .unset, .unset, .unset, .unset] [(.int (1 : Int32))])) (fun t k => XS.iconst X0.here hx rfl (hb hby at_6) k) ?_
    refine own_step (T' := s₁) (f' := (mkF m 11 #[.val (.int p1), .val (.int p2), .unset, .unset, .unset, .unset, .unset, .unset] [(.int (1 : Int32))])) (fun t k => XS.goto X0.here hx rfl (pc0 := 7) (pc' := 11) rfl (hb hby at_7) (by decide) (by decide) k) ?_
    refine own_step (T' := s₁) (f' := (mkF m 12 #[.val (.int p1), .val (.int p2), .val (.int (1 : Int32)), .unset, .unset, .unset, .unset, .unset] [])) (fun t k => XS.istoreN X0.here hx rfl (hb hby at_11) rfl (l' := #[.val (.int p1), .val (.int p2), .val (.int (1 : Int32)), .unset, .unset, .unset, .unset, .unset]) rfl k) ?_
    refine own_step (T' := s₁) (f' := (mkF m 13 #[.val (.int p1), .val (.int p2), .val (.int (1 : Int32)), .unset, .unset, .unset, .unset, .unset] [(.int p2)])) (fun t k => XS.iloadN X0.here hx rfl (hb hby at_12) rfl k) ?_
    refine own_step (T' := s₁) (f' := (mkF m 14 #[.val (.int p1), .val (.int p2), .val (.int (1 : Int32)), .unset, .unset, .unset, .unset, .unset] [(.int (1 : Int32)), (.int p2)])) (fun t k => XS.iconst X0.here hx rfl (hb hby at_13) k) ?_
    refine own_step (T' := s₁) (f' := (mkF m 15 #[.val (.int p1), .val (.int p2), .val (.int (1 : Int32)), .unset, .unset, .unset, .unset, .unset] [(.int (p2 &&& (1 : Int32)))])) (fun t k => XS.iand X0.here hx rfl (hb hby at_14) rfl k) ?_
    by_cases hc15_10 : (p2 &&& (1 : Int32)) = (0 : Int32)
    · skip
      refine own_step (T' := s₁) (f' := (mkF m 22 #[.val (.int p1), .val (.int p2), .val (.int (1 : Int32)), .unset, .unset, .unset, .unset, .unset] [])) (fun t k => XS.ifYes X0.here hx rfl (pc0 := 15) (pc' := 22) rfl (hb hby at_15) rfl ((if0 _ _).trans (teq hc15_10).1) (by decide) (by decide) k) ?_
      refine own_step (T' := s₁) (f' := (mkF m 23 #[.val (.int p1), .val (.int p2), .val (.int (1 : Int32)), .unset, .unset, .unset, .unset, .unset] [(.int (0 : Int32))])) (fun t k => XS.iconst X0.here hx rfl (hb hby at_22) k) ?_
      refine own_step (T' := s₁) (f' := (mkF m 24 #[.val (.int p1), .val (.int p2), .val (.int (1 : Int32)), .val (.int (0 : Int32)), .unset, .unset, .unset, .unset] [])) (fun t k => XS.istoreN X0.here hx rfl (hb hby at_23) rfl (l' := #[.val (.int p1), .val (.int p2), .val (.int (1 : Int32)), .val (.int (0 : Int32)), .unset, .unset, .unset, .unset]) rfl k) ?_
      refine own_step (T' := s₁) (f' := (mkF m 25 #[.val (.int p1), .val (.int p2), .val (.int (1 : Int32)), .val (.int (0 : Int32)), .unset, .unset, .unset, .unset] [(.int (1 : Int32))])) (fun t k => XS.iloadN X0.here hx rfl (hb hby at_24) rfl k) ?_
      refine own_step (T' := s₁) (f' := (mkF m 26 #[.val (.int p1), .val (.int p2), .val (.int (1 : Int32)), .val (.int (0 : Int32)), .unset, .unset, .unset, .unset] [(.int (0 : Int32)), (.int (1 : Int32))])) (fun t k => XS.iloadN X0.here hx rfl (hb hby at_25) rfl k) ?_
      obtain ⟨_, _, ⟨T11, L11, k11, n11⟩, -, X11, ⟨Lc11, hQ11, l11, y11, z11⟩, st11⟩ := Jvm.LawKit.callS X0 hx (y := (⟨"com/example/inchworm/inchworm/lang/Truth", "of", "(ZZ)Lcom/example/inchworm/inchworm/lang/Truth;"⟩ : MethodName)) hown (mvT hZ (hw _ (List.mem_of_getElem? (i := 0) rfl))) (mvT hZ (hw _ (List.mem_of_getElem? (i := 1) rfl))) (mvT hZ (hw _ (List.mem_of_getElem? (i := 2) rfl))) (mvT hZ (hw _ (List.mem_of_getElem? (i := 3) rfl))) (by decide) (backOf (W := 0) (rm1 l Z a0 hw [] (1 : Int32) (0 : Int32) h0 n0 Z0 aT aF aU S_T S_F S_U) hZ (hw _ (List.mem_of_getElem? (i := 3) rfl)) (hw _ (List.mem_of_getElem? (i := 2) rfl)) (by decide) (by decide)) (g := (mkF m 26 #[.val (.int p1), .val (.int p2), .val (.int (1 : Int32)), .val (.int (0 : Int32)), .unset, .unset, .unset, .unset] [(.int (0 : Int32)), (.int (1 : Int32))])) rfl (by rw [hml]; rfl) (argsL := [(.int (1 : Int32)), (.int (0 : Int32))]) (rest := []) (lenOf pd_0_0 rfl) rfl (by show 2 * 0 + _ ≤ _; exact Nat.le_of_eq rfl) (hb hby at_26) (fun _ _ => ⟨rfl, e0, (by decide : 0 + 0 ≤ _), (by decide : 0 + 0 ≤ _)⟩)
      dsimp only [Pt.U, Pt.locs, Pt.cells, Pt.slots] at X11 l11 y11 z11 st11 hQ11
      subst l11 y11 z11
      obtain ⟨rfl, N11q, E11⟩ := hQ11
      have N11 := Fr.app N0 N11q
      have v11 : own_of2 (1 : Int32) (0 : Int32) aT aF aU = aT := by unfold own_of2; simp
      rw [v11] at st11
      refine own_step (T' := T11) (f' := (mkF m 29 #[.val (.int p1), .val (.int p2), .val (.int (1 : Int32)), .val (.int (0 : Int32)), .unset, .unset, .unset, .unset] [(.ref aT)])) (fun t k => st11 t k) ?_
      refine own_step (T' := T11) (f' := (mkF m 31 #[.val (.int p1), .val (.int p2), .val (.int (1 : Int32)), .val (.int (0 : Int32)), .val (.ref aT), .unset, .unset, .unset] [])) (fun t k => XS.astore X11.here hx rfl (hb hby at_29) rfl rfl (l' := #[.val (.int p1), .val (.int p2), .val (.int (1 : Int32)), .val (.int (0 : Int32)), .val (.ref aT), .unset, .unset, .unset]) rfl k) ?_
      refine own_step (T' := T11) (f' := (mkF m 33 #[.val (.int p1), .val (.int p2), .val (.int (1 : Int32)), .val (.int (0 : Int32)), .val (.ref aT), .unset, .unset, .unset] [(.ref aT)])) (fun t k => XS.aload X11.here hx rfl (hb hby at_31) rfl rfl k) ?_
      refine own_step (T' := T11) (f' := (mkF m 38 #[.val (.int p1), .val (.int p2), .val (.int (1 : Int32)), .val (.int (0 : Int32)), .val (.ref aT), .unset, .unset, .unset] [])) (fun t k => XS.ifnonnullYes X11.here hx rfl (pc0 := 33) (pc' := 38) rfl (hb hby at_33) rfl (by decide) (by decide) k) ?_
      refine own_step (T' := T11) (f' := (mkF m 40 #[.val (.int p1), .val (.int p2), .val (.int (1 : Int32)), .val (.int (0 : Int32)), .val (.ref aT), .unset, .unset, .unset] [(.ref aT)])) (fun t k => XS.aload X11.here hx rfl (hb hby at_38) rfl rfl k) ?_
      obtain ⟨T12, X12, e12, st12⟩ := getS2 X11 hx hZ hown (host := "") (Or.inl (hw _ (List.mem_of_getElem? (i := 6) rfl))) Via.refl E11 S_T (g := (mkF m 40 #[.val (.int p1), .val (.int p2), .val (.int (1 : Int32)), .val (.int (0 : Int32)), .val (.ref aT), .unset, .unset, .unset] [(.ref aT)])) rfl (hb hby at_40)
      refine own_step (T' := T12) (f' := (mkF m 43 #[.val (.int p1), .val (.int p2), .val (.int (1 : Int32)), .val (.int (0 : Int32)), .val (.ref aT), .unset, .unset, .unset] [(.ref aT), (.ref aT)])) (fun t k => st12 t k) ?_
      refine own_step (T' := T12) (f' := (mkF m 46 #[.val (.int p1), .val (.int p2), .val (.int (1 : Int32)), .val (.int (0 : Int32)), .val (.ref aT), .unset, .unset, .unset] [])) (fun t k => Jvm.RoadKit.acmp (g := (mkF m 43 #[.val (.int p1), .val (.int p2), .val (.int (1 : Int32)), .val (.int (0 : Int32)), .val (.ref aT), .unset, .unset, .unset] [(.ref aT), (.ref aT)])) X12 hx rfl rfl rfl (pc0 := 43) (pc' := 46) (same := true) rfl (hb hby at_43) rfl (decide_eq_true rfl) (by decide) (by decide) k) ?_
      refine own_step (T' := T12) (f' := (mkF m 47 #[.val (.int p1), .val (.int p2), .val (.int (1 : Int32)), .val (.int (0 : Int32)), .val (.ref aT), .unset, .unset, .unset] [(.int (1 : Int32))])) (fun t k => XS.iconst X12.here hx rfl (hb hby at_46) k) ?_
      refine own_step (T' := T12) (f' := (mkF m 51 #[.val (.int p1), .val (.int p2), .val (.int (1 : Int32)), .val (.int (0 : Int32)), .val (.ref aT), .unset, .unset, .unset] [(.int (1 : Int32))])) (fun t k => XS.goto X12.here hx rfl (pc0 := 47) (pc' := 51) rfl (hb hby at_47) (by decide) (by decide) k) ?_
      refine own_step (T' := T12) (f' := (mkF m 53 #[.val (.int p1), .val (.int p2), .val (.int (1 : Int32)), .val (.int (0 : Int32)), .val (.ref aT), .val (.int (1 : Int32)), .unset, .unset] [])) (fun t k => XS.istore X12.here hx rfl (hb hby at_51) rfl (l' := #[.val (.int p1), .val (.int p2), .val (.int (1 : Int32)), .val (.int (0 : Int32)), .val (.ref aT), .val (.int (1 : Int32)), .unset, .unset]) rfl k) ?_
      refine own_step (T' := T12) (f' := (mkF m 55 #[.val (.int p1), .val (.int p2), .val (.int (1 : Int32)), .val (.int (0 : Int32)), .val (.ref aT), .val (.int (1 : Int32)), .unset, .unset] [(.ref aT)])) (fun t k => XS.aload X12.here hx rfl (hb hby at_53) rfl rfl k) ?_
      obtain ⟨T13, X13, e13, st13⟩ := getS2 X12 hx hZ hown (host := "") (Or.inl (hw _ (List.mem_of_getElem? (i := 8) rfl))) Via.refl e12 S_F (g := (mkF m 55 #[.val (.int p1), .val (.int p2), .val (.int (1 : Int32)), .val (.int (0 : Int32)), .val (.ref aT), .val (.int (1 : Int32)), .unset, .unset] [(.ref aT)])) rfl (hb hby at_55)
      refine own_step (T' := T13) (f' := (mkF m 58 #[.val (.int p1), .val (.int p2), .val (.int (1 : Int32)), .val (.int (0 : Int32)), .val (.ref aT), .val (.int (1 : Int32)), .unset, .unset] [(.ref aF), (.ref aT)])) (fun t k => st13 t k) ?_
      refine own_step (T' := T13) (f' := (mkF m 61 #[.val (.int p1), .val (.int p2), .val (.int (1 : Int32)), .val (.int (0 : Int32)), .val (.ref aT), .val (.int (1 : Int32)), .unset, .unset] [])) (fun t k => Jvm.RoadKit.acmp (g := (mkF m 58 #[.val (.int p1), .val (.int p2), .val (.int (1 : Int32)), .val (.int (0 : Int32)), .val (.ref aT), .val (.int (1 : Int32)), .unset, .unset] [(.ref aF), (.ref aT)])) X13 hx rfl rfl rfl (pc0 := 58) (pc' := 61) (same := false) rfl (hb hby at_58) rfl (decide_eq_false fun q => nTF (Value.ref.inj q)) (by decide) (by decide) k) ?_
      refine own_step (T' := T13) (f' := (mkF m 62 #[.val (.int p1), .val (.int p2), .val (.int (1 : Int32)), .val (.int (0 : Int32)), .val (.ref aT), .val (.int (1 : Int32)), .unset, .unset] [(.int (1 : Int32))])) (fun t k => XS.iconst X13.here hx rfl (hb hby at_61) k) ?_
      refine own_step (T' := T13) (f' := (mkF m 66 #[.val (.int p1), .val (.int p2), .val (.int (1 : Int32)), .val (.int (0 : Int32)), .val (.ref aT), .val (.int (1 : Int32)), .unset, .unset] [(.int (1 : Int32))])) (fun t k => XS.goto X13.here hx rfl (pc0 := 62) (pc' := 66) rfl (hb hby at_62) (by decide) (by decide) k) ?_
      refine own_step (T' := T13) (f' := (mkF m 68 #[.val (.int p1), .val (.int p2), .val (.int (1 : Int32)), .val (.int (0 : Int32)), .val (.ref aT), .val (.int (1 : Int32)), .val (.int (1 : Int32)), .unset] [])) (fun t k => XS.istore X13.here hx rfl (hb hby at_66) rfl (l' := #[.val (.int p1), .val (.int p2), .val (.int (1 : Int32)), .val (.int (0 : Int32)), .val (.ref aT), .val (.int (1 : Int32)), .val (.int (1 : Int32)), .unset]) rfl k) ?_
      refine own_step (T' := T13) (f' := (mkF m 70 #[.val (.int p1), .val (.int p2), .val (.int (1 : Int32)), .val (.int (0 : Int32)), .val (.ref aT), .val (.int (1 : Int32)), .val (.int (1 : Int32)), .unset] [(.int (1 : Int32))])) (fun t k => XS.iload X13.here hx rfl (hb hby at_68) rfl k) ?_
      refine own_step (T' := T13) (f' := (mkF m 71 #[.val (.int p1), .val (.int p2), .val (.int (1 : Int32)), .val (.int (0 : Int32)), .val (.ref aT), .val (.int (1 : Int32)), .val (.int (1 : Int32)), .unset] [(.int (1 : Int32)), (.int (1 : Int32))])) (fun t k => XS.iloadN X13.here hx rfl (hb hby at_70) rfl k) ?_
      refine own_step (T' := T13) (f' := (mkF m 74 #[.val (.int p1), .val (.int p2), .val (.int (1 : Int32)), .val (.int (0 : Int32)), .val (.ref aT), .val (.int (1 : Int32)), .val (.int (1 : Int32)), .unset] [])) (fun t k => XS.icmpNo X13.here hx rfl (hb hby at_71) rfl (teq (by decide : (1 : Int32) = (1 : Int32))).2 k) ?_
      refine own_step (T' := T13) (f' := (mkF m 76 #[.val (.int p1), .val (.int p2), .val (.int (1 : Int32)), .val (.int (0 : Int32)), .val (.ref aT), .val (.int (1 : Int32)), .val (.int (1 : Int32)), .unset] [(.int (1 : Int32))])) (fun t k => XS.iload X13.here hx rfl (hb hby at_74) rfl k) ?_
      refine own_step (T' := T13) (f' := (mkF m 77 #[.val (.int p1), .val (.int p2), .val (.int (1 : Int32)), .val (.int (0 : Int32)), .val (.ref aT), .val (.int (1 : Int32)), .val (.int (1 : Int32)), .unset] [(.int (1 : Int32)), (.int (1 : Int32))])) (fun t k => XS.iloadN X13.here hx rfl (hb hby at_76) rfl k) ?_
      refine own_step (T' := T13) (f' := (mkF m 84 #[.val (.int p1), .val (.int p2), .val (.int (1 : Int32)), .val (.int (0 : Int32)), .val (.ref aT), .val (.int (1 : Int32)), .val (.int (1 : Int32)), .unset] [(.int (1 : Int32))])) (fun t k => XS.ifYes X13.here hx rfl (pc0 := 77) (pc' := 84) rfl (hb hby at_77) rfl ((if0 _ _).trans (feq (by decide : ¬ ((1 : Int32) = (0 : Int32)))).2) (by decide) (by decide) k) ?_
      refine own_step (T' := T13) (f' := (mkF m 85 #[.val (.int p1), .val (.int p2), .val (.int (1 : Int32)), .val (.int (0 : Int32)), .val (.ref aT), .val (.int (1 : Int32)), .val (.int (1 : Int32)), .unset] [(.int (1 : Int32)), (.int (1 : Int32))])) (fun t k => XS.iconst X13.here hx rfl (hb hby at_84) k) ?_
      refine own_step (T' := T13) (f' := (mkF m 89 #[.val (.int p1), .val (.int p2), .val (.int (1 : Int32)), .val (.int (0 : Int32)), .val (.ref aT), .val (.int (1 : Int32)), .val (.int (1 : Int32)), .unset] [(.int (1 : Int32)), (.int (1 : Int32))])) (fun t k => XS.goto X13.here hx rfl (pc0 := 85) (pc' := 89) rfl (hb hby at_85) (by decide) (by decide) k) ?_
      refine own_step (T' := T13) (f' := (mkF m 92 #[.val (.int p1), .val (.int p2), .val (.int (1 : Int32)), .val (.int (0 : Int32)), .val (.ref aT), .val (.int (1 : Int32)), .val (.int (1 : Int32)), .unset] [])) (fun t k => XS.icmpNo X13.here hx rfl (hb hby at_89) rfl (teq (by decide : (1 : Int32) = (1 : Int32))).2 k) ?_
      refine own_step (T' := T13) (f' := (mkF m 93 #[.val (.int p1), .val (.int p2), .val (.int (1 : Int32)), .val (.int (0 : Int32)), .val (.ref aT), .val (.int (1 : Int32)), .val (.int (1 : Int32)), .unset] [(.int (1 : Int32))])) (fun t k => XS.iconst X13.here hx rfl (hb hby at_92) k) ?_
      refine own_step (T' := T13) (f' := (mkF m 97 #[.val (.int p1), .val (.int p2), .val (.int (1 : Int32)), .val (.int (0 : Int32)), .val (.ref aT), .val (.int (1 : Int32)), .val (.int (1 : Int32)), .unset] [(.int (1 : Int32))])) (fun t k => XS.goto X13.here hx rfl (pc0 := 93) (pc' := 97) rfl (hb hby at_93) (by decide) (by decide) k) ?_
      refine own_step (T' := T13) (f' := (mkF m 99 #[.val (.int p1), .val (.int p2), .val (.int (1 : Int32)), .val (.int (0 : Int32)), .val (.ref aT), .val (.int (1 : Int32)), .val (.int (1 : Int32)), .val (.int (1 : Int32))] [])) (fun t k => XS.istore X13.here hx rfl (hb hby at_97) rfl (l' := #[.val (.int p1), .val (.int p2), .val (.int (1 : Int32)), .val (.int (0 : Int32)), .val (.ref aT), .val (.int (1 : Int32)), .val (.int (1 : Int32)), .val (.int (1 : Int32))]) rfl k) ?_
      refine own_step (T' := T13) (f' := (mkF m 100 #[.val (.int p1), .val (.int p2), .val (.int (1 : Int32)), .val (.int (0 : Int32)), .val (.ref aT), .val (.int (1 : Int32)), .val (.int (1 : Int32)), .val (.int (1 : Int32))] [(.int (1 : Int32))])) (fun t k => XS.iloadN X13.here hx rfl (hb hby at_99) rfl k) ?_
      refine own_step (T' := T13) (f' := (mkF m 101 #[.val (.int p1), .val (.int p2), .val (.int (1 : Int32)), .val (.int (0 : Int32)), .val (.ref aT), .val (.int (1 : Int32)), .val (.int (1 : Int32)), .val (.int (1 : Int32))] [(.int (0 : Int32)), (.int (1 : Int32))])) (fun t k => XS.iloadN X13.here hx rfl (hb hby at_100) rfl k) ?_
      refine own_step (T' := T13) (f' := (mkF m 125 #[.val (.int p1), .val (.int p2), .val (.int (1 : Int32)), .val (.int (0 : Int32)), .val (.ref aT), .val (.int (1 : Int32)), .val (.int (1 : Int32)), .val (.int (1 : Int32))] [])) (fun t k => XS.icmpYes X13.here hx rfl (pc0 := 101) (pc' := 125) rfl (hb hby at_101) rfl (feq (by decide : ¬ ((1 : Int32) = (0 : Int32)))).2 (by decide) (by decide) k) ?_
      refine own_step (T' := T13) (f' := (mkF m 127 #[.val (.int p1), .val (.int p2), .val (.int (1 : Int32)), .val (.int (0 : Int32)), .val (.ref aT), .val (.int (1 : Int32)), .val (.int (1 : Int32)), .val (.int (1 : Int32))] [(.int (1 : Int32))])) (fun t k => XS.iload X13.here hx rfl (hb hby at_125) rfl k) ?_
      exact own_retN X13 hx hlk (t := .boolean) Bd.returns (by simp) (hb hby at_127) (by decide) (by decide) ⟨rfl, N11⟩
    · skip
      refine own_step (T' := s₁) (f' := (mkF m 18 #[.val (.int p1), .val (.int p2), .val (.int (1 : Int32)), .unset, .unset, .unset, .unset, .unset] [])) (fun t k => XS.ifNo X0.here hx rfl (hb hby at_15) rfl ((if0 _ _).trans (feq hc15_10).1) k) ?_
      refine own_step (T' := s₁) (f' := (mkF m 19 #[.val (.int p1), .val (.int p2), .val (.int (1 : Int32)), .unset, .unset, .unset, .unset, .unset] [(.int (1 : Int32))])) (fun t k => XS.iconst X0.here hx rfl (hb hby at_18) k) ?_
      refine own_step (T' := s₁) (f' := (mkF m 23 #[.val (.int p1), .val (.int p2), .val (.int (1 : Int32)), .unset, .unset, .unset, .unset, .unset] [(.int (1 : Int32))])) (fun t k => XS.goto X0.here hx rfl (pc0 := 19) (pc' := 23) rfl (hb hby at_19) (by decide) (by decide) k) ?_
      refine own_step (T' := s₁) (f' := (mkF m 24 #[.val (.int p1), .val (.int p2), .val (.int (1 : Int32)), .val (.int (1 : Int32)), .unset, .unset, .unset, .unset] [])) (fun t k => XS.istoreN X0.here hx rfl (hb hby at_23) rfl (l' := #[.val (.int p1), .val (.int p2), .val (.int (1 : Int32)), .val (.int (1 : Int32)), .unset, .unset, .unset, .unset]) rfl k) ?_
      refine own_step (T' := s₁) (f' := (mkF m 25 #[.val (.int p1), .val (.int p2), .val (.int (1 : Int32)), .val (.int (1 : Int32)), .unset, .unset, .unset, .unset] [(.int (1 : Int32))])) (fun t k => XS.iloadN X0.here hx rfl (hb hby at_24) rfl k) ?_
      refine own_step (T' := s₁) (f' := (mkF m 26 #[.val (.int p1), .val (.int p2), .val (.int (1 : Int32)), .val (.int (1 : Int32)), .unset, .unset, .unset, .unset] [(.int (1 : Int32)), (.int (1 : Int32))])) (fun t k => XS.iloadN X0.here hx rfl (hb hby at_25) rfl k) ?_
      obtain ⟨_, _, ⟨T14, L14, k14, n14⟩, -, X14, ⟨Lc14, hQ14, l14, y14, z14⟩, st14⟩ := Jvm.LawKit.callS X0 hx (y := (⟨"com/example/inchworm/inchworm/lang/Truth", "of", "(ZZ)Lcom/example/inchworm/inchworm/lang/Truth;"⟩ : MethodName)) hown (mvT hZ (hw _ (List.mem_of_getElem? (i := 0) rfl))) (mvT hZ (hw _ (List.mem_of_getElem? (i := 1) rfl))) (mvT hZ (hw _ (List.mem_of_getElem? (i := 2) rfl))) (mvT hZ (hw _ (List.mem_of_getElem? (i := 3) rfl))) (by decide) (backOf (W := 0) (rm1 l Z a0 hw [] (1 : Int32) (1 : Int32) h0 n0 Z0 aT aF aU S_T S_F S_U) hZ (hw _ (List.mem_of_getElem? (i := 3) rfl)) (hw _ (List.mem_of_getElem? (i := 2) rfl)) (by decide) (by decide)) (g := (mkF m 26 #[.val (.int p1), .val (.int p2), .val (.int (1 : Int32)), .val (.int (1 : Int32)), .unset, .unset, .unset, .unset] [(.int (1 : Int32)), (.int (1 : Int32))])) rfl (by rw [hml]; rfl) (argsL := [(.int (1 : Int32)), (.int (1 : Int32))]) (rest := []) (lenOf pd_0_0 rfl) rfl (by show 2 * 0 + _ ≤ _; exact Nat.le_of_eq rfl) (hb hby at_26) (fun _ _ => ⟨rfl, e0, (by decide : 0 + 0 ≤ _), (by decide : 0 + 0 ≤ _)⟩)
      dsimp only [Pt.U, Pt.locs, Pt.cells, Pt.slots] at X14 l14 y14 z14 st14 hQ14
      subst l14 y14 z14
      obtain ⟨rfl, N14q, E14⟩ := hQ14
      have N14 := Fr.app N0 N14q
      have v14 : own_of2 (1 : Int32) (1 : Int32) aT aF aU = aT := by unfold own_of2; simp
      rw [v14] at st14
      refine own_step (T' := T14) (f' := (mkF m 29 #[.val (.int p1), .val (.int p2), .val (.int (1 : Int32)), .val (.int (1 : Int32)), .unset, .unset, .unset, .unset] [(.ref aT)])) (fun t k => st14 t k) ?_
      refine own_step (T' := T14) (f' := (mkF m 31 #[.val (.int p1), .val (.int p2), .val (.int (1 : Int32)), .val (.int (1 : Int32)), .val (.ref aT), .unset, .unset, .unset] [])) (fun t k => XS.astore X14.here hx rfl (hb hby at_29) rfl rfl (l' := #[.val (.int p1), .val (.int p2), .val (.int (1 : Int32)), .val (.int (1 : Int32)), .val (.ref aT), .unset, .unset, .unset]) rfl k) ?_
      refine own_step (T' := T14) (f' := (mkF m 33 #[.val (.int p1), .val (.int p2), .val (.int (1 : Int32)), .val (.int (1 : Int32)), .val (.ref aT), .unset, .unset, .unset] [(.ref aT)])) (fun t k => XS.aload X14.here hx rfl (hb hby at_31) rfl rfl k) ?_
      refine own_step (T' := T14) (f' := (mkF m 38 #[.val (.int p1), .val (.int p2), .val (.int (1 : Int32)), .val (.int (1 : Int32)), .val (.ref aT), .unset, .unset, .unset] [])) (fun t k => XS.ifnonnullYes X14.here hx rfl (pc0 := 33) (pc' := 38) rfl (hb hby at_33) rfl (by decide) (by decide) k) ?_
      refine own_step (T' := T14) (f' := (mkF m 40 #[.val (.int p1), .val (.int p2), .val (.int (1 : Int32)), .val (.int (1 : Int32)), .val (.ref aT), .unset, .unset, .unset] [(.ref aT)])) (fun t k => XS.aload X14.here hx rfl (hb hby at_38) rfl rfl k) ?_
      obtain ⟨T15, X15, e15, st15⟩ := getS2 X14 hx hZ hown (host := "") (Or.inl (hw _ (List.mem_of_getElem? (i := 6) rfl))) Via.refl E14 S_T (g := (mkF m 40 #[.val (.int p1), .val (.int p2), .val (.int (1 : Int32)), .val (.int (1 : Int32)), .val (.ref aT), .unset, .unset, .unset] [(.ref aT)])) rfl (hb hby at_40)
      refine own_step (T' := T15) (f' := (mkF m 43 #[.val (.int p1), .val (.int p2), .val (.int (1 : Int32)), .val (.int (1 : Int32)), .val (.ref aT), .unset, .unset, .unset] [(.ref aT), (.ref aT)])) (fun t k => st15 t k) ?_
      refine own_step (T' := T15) (f' := (mkF m 46 #[.val (.int p1), .val (.int p2), .val (.int (1 : Int32)), .val (.int (1 : Int32)), .val (.ref aT), .unset, .unset, .unset] [])) (fun t k => Jvm.RoadKit.acmp (g := (mkF m 43 #[.val (.int p1), .val (.int p2), .val (.int (1 : Int32)), .val (.int (1 : Int32)), .val (.ref aT), .unset, .unset, .unset] [(.ref aT), (.ref aT)])) X15 hx rfl rfl rfl (pc0 := 43) (pc' := 46) (same := true) rfl (hb hby at_43) rfl (decide_eq_true rfl) (by decide) (by decide) k) ?_
      refine own_step (T' := T15) (f' := (mkF m 47 #[.val (.int p1), .val (.int p2), .val (.int (1 : Int32)), .val (.int (1 : Int32)), .val (.ref aT), .unset, .unset, .unset] [(.int (1 : Int32))])) (fun t k => XS.iconst X15.here hx rfl (hb hby at_46) k) ?_
      refine own_step (T' := T15) (f' := (mkF m 51 #[.val (.int p1), .val (.int p2), .val (.int (1 : Int32)), .val (.int (1 : Int32)), .val (.ref aT), .unset, .unset, .unset] [(.int (1 : Int32))])) (fun t k => XS.goto X15.here hx rfl (pc0 := 47) (pc' := 51) rfl (hb hby at_47) (by decide) (by decide) k) ?_
      refine own_step (T' := T15) (f' := (mkF m 53 #[.val (.int p1), .val (.int p2), .val (.int (1 : Int32)), .val (.int (1 : Int32)), .val (.ref aT), .val (.int (1 : Int32)), .unset, .unset] [])) (fun t k => XS.istore X15.here hx rfl (hb hby at_51) rfl (l' := #[.val (.int p1), .val (.int p2), .val (.int (1 : Int32)), .val (.int (1 : Int32)), .val (.ref aT), .val (.int (1 : Int32)), .unset, .unset]) rfl k) ?_
      refine own_step (T' := T15) (f' := (mkF m 55 #[.val (.int p1), .val (.int p2), .val (.int (1 : Int32)), .val (.int (1 : Int32)), .val (.ref aT), .val (.int (1 : Int32)), .unset, .unset] [(.ref aT)])) (fun t k => XS.aload X15.here hx rfl (hb hby at_53) rfl rfl k) ?_
      obtain ⟨T16, X16, e16, st16⟩ := getS2 X15 hx hZ hown (host := "") (Or.inl (hw _ (List.mem_of_getElem? (i := 8) rfl))) Via.refl e15 S_F (g := (mkF m 55 #[.val (.int p1), .val (.int p2), .val (.int (1 : Int32)), .val (.int (1 : Int32)), .val (.ref aT), .val (.int (1 : Int32)), .unset, .unset] [(.ref aT)])) rfl (hb hby at_55)
      refine own_step (T' := T16) (f' := (mkF m 58 #[.val (.int p1), .val (.int p2), .val (.int (1 : Int32)), .val (.int (1 : Int32)), .val (.ref aT), .val (.int (1 : Int32)), .unset, .unset] [(.ref aF), (.ref aT)])) (fun t k => st16 t k) ?_
      refine own_step (T' := T16) (f' := (mkF m 61 #[.val (.int p1), .val (.int p2), .val (.int (1 : Int32)), .val (.int (1 : Int32)), .val (.ref aT), .val (.int (1 : Int32)), .unset, .unset] [])) (fun t k => Jvm.RoadKit.acmp (g := (mkF m 58 #[.val (.int p1), .val (.int p2), .val (.int (1 : Int32)), .val (.int (1 : Int32)), .val (.ref aT), .val (.int (1 : Int32)), .unset, .unset] [(.ref aF), (.ref aT)])) X16 hx rfl rfl rfl (pc0 := 58) (pc' := 61) (same := false) rfl (hb hby at_58) rfl (decide_eq_false fun q => nTF (Value.ref.inj q)) (by decide) (by decide) k) ?_
      refine own_step (T' := T16) (f' := (mkF m 62 #[.val (.int p1), .val (.int p2), .val (.int (1 : Int32)), .val (.int (1 : Int32)), .val (.ref aT), .val (.int (1 : Int32)), .unset, .unset] [(.int (1 : Int32))])) (fun t k => XS.iconst X16.here hx rfl (hb hby at_61) k) ?_
      refine own_step (T' := T16) (f' := (mkF m 66 #[.val (.int p1), .val (.int p2), .val (.int (1 : Int32)), .val (.int (1 : Int32)), .val (.ref aT), .val (.int (1 : Int32)), .unset, .unset] [(.int (1 : Int32))])) (fun t k => XS.goto X16.here hx rfl (pc0 := 62) (pc' := 66) rfl (hb hby at_62) (by decide) (by decide) k) ?_
      refine own_step (T' := T16) (f' := (mkF m 68 #[.val (.int p1), .val (.int p2), .val (.int (1 : Int32)), .val (.int (1 : Int32)), .val (.ref aT), .val (.int (1 : Int32)), .val (.int (1 : Int32)), .unset] [])) (fun t k => XS.istore X16.here hx rfl (hb hby at_66) rfl (l' := #[.val (.int p1), .val (.int p2), .val (.int (1 : Int32)), .val (.int (1 : Int32)), .val (.ref aT), .val (.int (1 : Int32)), .val (.int (1 : Int32)), .unset]) rfl k) ?_
      refine own_step (T' := T16) (f' := (mkF m 70 #[.val (.int p1), .val (.int p2), .val (.int (1 : Int32)), .val (.int (1 : Int32)), .val (.ref aT), .val (.int (1 : Int32)), .val (.int (1 : Int32)), .unset] [(.int (1 : Int32))])) (fun t k => XS.iload X16.here hx rfl (hb hby at_68) rfl k) ?_
      refine own_step (T' := T16) (f' := (mkF m 71 #[.val (.int p1), .val (.int p2), .val (.int (1 : Int32)), .val (.int (1 : Int32)), .val (.ref aT), .val (.int (1 : Int32)), .val (.int (1 : Int32)), .unset] [(.int (1 : Int32)), (.int (1 : Int32))])) (fun t k => XS.iloadN X16.here hx rfl (hb hby at_70) rfl k) ?_
      refine own_step (T' := T16) (f' := (mkF m 74 #[.val (.int p1), .val (.int p2), .val (.int (1 : Int32)), .val (.int (1 : Int32)), .val (.ref aT), .val (.int (1 : Int32)), .val (.int (1 : Int32)), .unset] [])) (fun t k => XS.icmpNo X16.here hx rfl (hb hby at_71) rfl (teq (by decide : (1 : Int32) = (1 : Int32))).2 k) ?_
      refine own_step (T' := T16) (f' := (mkF m 76 #[.val (.int p1), .val (.int p2), .val (.int (1 : Int32)), .val (.int (1 : Int32)), .val (.ref aT), .val (.int (1 : Int32)), .val (.int (1 : Int32)), .unset] [(.int (1 : Int32))])) (fun t k => XS.iload X16.here hx rfl (hb hby at_74) rfl k) ?_
      refine own_step (T' := T16) (f' := (mkF m 77 #[.val (.int p1), .val (.int p2), .val (.int (1 : Int32)), .val (.int (1 : Int32)), .val (.ref aT), .val (.int (1 : Int32)), .val (.int (1 : Int32)), .unset] [(.int (1 : Int32)), (.int (1 : Int32))])) (fun t k => XS.iloadN X16.here hx rfl (hb hby at_76) rfl k) ?_
      refine own_step (T' := T16) (f' := (mkF m 84 #[.val (.int p1), .val (.int p2), .val (.int (1 : Int32)), .val (.int (1 : Int32)), .val (.ref aT), .val (.int (1 : Int32)), .val (.int (1 : Int32)), .unset] [(.int (1 : Int32))])) (fun t k => XS.ifYes X16.here hx rfl (pc0 := 77) (pc' := 84) rfl (hb hby at_77) rfl ((if0 _ _).trans (feq (by decide : ¬ ((1 : Int32) = (0 : Int32)))).2) (by decide) (by decide) k) ?_
      refine own_step (T' := T16) (f' := (mkF m 85 #[.val (.int p1), .val (.int p2), .val (.int (1 : Int32)), .val (.int (1 : Int32)), .val (.ref aT), .val (.int (1 : Int32)), .val (.int (1 : Int32)), .unset] [(.int (1 : Int32)), (.int (1 : Int32))])) (fun t k => XS.iconst X16.here hx rfl (hb hby at_84) k) ?_
      refine own_step (T' := T16) (f' := (mkF m 89 #[.val (.int p1), .val (.int p2), .val (.int (1 : Int32)), .val (.int (1 : Int32)), .val (.ref aT), .val (.int (1 : Int32)), .val (.int (1 : Int32)), .unset] [(.int (1 : Int32)), (.int (1 : Int32))])) (fun t k => XS.goto X16.here hx rfl (pc0 := 85) (pc' := 89) rfl (hb hby at_85) (by decide) (by decide) k) ?_
      refine own_step (T' := T16) (f' := (mkF m 92 #[.val (.int p1), .val (.int p2), .val (.int (1 : Int32)), .val (.int (1 : Int32)), .val (.ref aT), .val (.int (1 : Int32)), .val (.int (1 : Int32)), .unset] [])) (fun t k => XS.icmpNo X16.here hx rfl (hb hby at_89) rfl (teq (by decide : (1 : Int32) = (1 : Int32))).2 k) ?_
      refine own_step (T' := T16) (f' := (mkF m 93 #[.val (.int p1), .val (.int p2), .val (.int (1 : Int32)), .val (.int (1 : Int32)), .val (.ref aT), .val (.int (1 : Int32)), .val (.int (1 : Int32)), .unset] [(.int (1 : Int32))])) (fun t k => XS.iconst X16.here hx rfl (hb hby at_92) k) ?_
      refine own_step (T' := T16) (f' := (mkF m 97 #[.val (.int p1), .val (.int p2), .val (.int (1 : Int32)), .val (.int (1 : Int32)), .val (.ref aT), .val (.int (1 : Int32)), .val (.int (1 : Int32)), .unset] [(.int (1 : Int32))])) (fun t k => XS.goto X16.here hx rfl (pc0 := 93) (pc' := 97) rfl (hb hby at_93) (by decide) (by decide) k) ?_
      refine own_step (T' := T16) (f' := (mkF m 99 #[.val (.int p1), .val (.int p2), .val (.int (1 : Int32)), .val (.int (1 : Int32)), .val (.ref aT), .val (.int (1 : Int32)), .val (.int (1 : Int32)), .val (.int (1 : Int32))] [])) (fun t k => XS.istore X16.here hx rfl (hb hby at_97) rfl (l' := #[.val (.int p1), .val (.int p2), .val (.int (1 : Int32)), .val (.int (1 : Int32)), .val (.ref aT), .val (.int (1 : Int32)), .val (.int (1 : Int32)), .val (.int (1 : Int32))]) rfl k) ?_
      refine own_step (T' := T16) (f' := (mkF m 100 #[.val (.int p1), .val (.int p2), .val (.int (1 : Int32)), .val (.int (1 : Int32)), .val (.ref aT), .val (.int (1 : Int32)), .val (.int (1 : Int32)), .val (.int (1 : Int32))] [(.int (1 : Int32))])) (fun t k => XS.iloadN X16.here hx rfl (hb hby at_99) rfl k) ?_
      refine own_step (T' := T16) (f' := (mkF m 101 #[.val (.int p1), .val (.int p2), .val (.int (1 : Int32)), .val (.int (1 : Int32)), .val (.ref aT), .val (.int (1 : Int32)), .val (.int (1 : Int32)), .val (.int (1 : Int32))] [(.int (1 : Int32)), (.int (1 : Int32))])) (fun t k => XS.iloadN X16.here hx rfl (hb hby at_100) rfl k) ?_
      refine own_step (T' := T16) (f' := (mkF m 104 #[.val (.int p1), .val (.int p2), .val (.int (1 : Int32)), .val (.int (1 : Int32)), .val (.ref aT), .val (.int (1 : Int32)), .val (.int (1 : Int32)), .val (.int (1 : Int32))] [])) (fun t k => XS.icmpNo X16.here hx rfl (hb hby at_101) rfl (teq (by decide : (1 : Int32) = (1 : Int32))).2 k) ?_
      refine own_step (T' := T16) (f' := (mkF m 106 #[.val (.int p1), .val (.int p2), .val (.int (1 : Int32)), .val (.int (1 : Int32)), .val (.ref aT), .val (.int (1 : Int32)), .val (.int (1 : Int32)), .val (.int (1 : Int32))] [(.int (1 : Int32))])) (fun t k => XS.iload X16.here hx rfl (hb hby at_104) rfl k) ?_
      refine own_step (T' := T16) (f' := (mkF m 109 #[.val (.int p1), .val (.int p2), .val (.int (1 : Int32)), .val (.int (1 : Int32)), .val (.ref aT), .val (.int (1 : Int32)), .val (.int (1 : Int32)), .val (.int (1 : Int32))] [])) (fun t k => XS.ifNo X16.here hx rfl (hb hby at_106) rfl ((if0 _ _).trans (feq (by decide : ¬ ((1 : Int32) = (0 : Int32)))).1) k) ?_
      refine own_step (T' := T16) (f' := (mkF m 111 #[.val (.int p1), .val (.int p2), .val (.int (1 : Int32)), .val (.int (1 : Int32)), .val (.ref aT), .val (.int (1 : Int32)), .val (.int (1 : Int32)), .val (.int (1 : Int32))] [(.ref aT)])) (fun t k => XS.aload X16.here hx rfl (hb hby at_109) rfl rfl k) ?_
      refine own_step (T' := T16) (f' := (mkF m 112 #[.val (.int p1), .val (.int p2), .val (.int (1 : Int32)), .val (.int (1 : Int32)), .val (.ref aT), .val (.int (1 : Int32)), .val (.int (1 : Int32)), .val (.int (1 : Int32))] [(.int (1 : Int32)), (.ref aT)])) (fun t k => XS.iloadN X16.here hx rfl (hb hby at_111) rfl k) ?_
      obtain ⟨_, _, ⟨T17, L17, k17, n17⟩, -, X17, ⟨Lc17, hQ17, l17, y17, z17⟩, st17⟩ := Jvm.LawKit.callS X16 hx (y := (⟨"com/example/inchworm/inchworm/lang/Truth", "of", "(Z)Lcom/example/inchworm/inchworm/lang/Truth;"⟩ : MethodName)) hown (mvT hZ (hw _ (List.mem_of_getElem? (i := 11) rfl))) (mvT hZ (hw _ (List.mem_of_getElem? (i := 12) rfl))) (mvT hZ (hw _ (List.mem_of_getElem? (i := 2) rfl))) (mvT hZ (hw _ (List.mem_of_getElem? (i := 13) rfl))) (by decide) (backOf (W := 1) (rm2 l Z a0 hw [] (1 : Int32) h0 n0 Z0 aT aF aU S_T S_F S_U) hZ (hw _ (List.mem_of_getElem? (i := 13) rfl)) (hw _ (List.mem_of_getElem? (i := 2) rfl)) (by decide) (by decide)) (g := (mkF m 112 #[.val (.int p1), .val (.int p2), .val (.int (1 : Int32)), .val (.int (1 : Int32)), .val (.ref aT), .val (.int (1 : Int32)), .val (.int (1 : Int32)), .val (.int (1 : Int32))] [(.int (1 : Int32)), (.ref aT)])) rfl (by rw [hml]; rfl) (argsL := [(.int (1 : Int32))]) (rest := [(.ref aT)]) (lenOf pd_0_1 rfl) rfl (by show 2 * 0 + _ ≤ _; exact Nat.le_of_eq rfl) (hb hby at_112) (fun _ _ => ⟨rfl, e16, (by decide : 0 + 0 ≤ _), (by decide : 0 + 0 ≤ _)⟩)
      dsimp only [Pt.U, Pt.locs, Pt.cells, Pt.slots] at X17 l17 y17 z17 st17 hQ17
      subst l17 y17 z17
      obtain ⟨rfl, N17q, E17⟩ := hQ17
      have N17 := Fr.app N14 N17q
      have v17 : own_of1 (1 : Int32) aT aF aU = aT := by unfold own_of1; simp
      rw [v17] at st17
      refine own_step (T' := T17) (f' := (mkF m 115 #[.val (.int p1), .val (.int p2), .val (.int (1 : Int32)), .val (.int (1 : Int32)), .val (.ref aT), .val (.int (1 : Int32)), .val (.int (1 : Int32)), .val (.int (1 : Int32))] [(.ref aT), (.ref aT)])) (fun t k => st17 t k) ?_
      refine own_step (T' := T17) (f' := (mkF m 118 #[.val (.int p1), .val (.int p2), .val (.int (1 : Int32)), .val (.int (1 : Int32)), .val (.ref aT), .val (.int (1 : Int32)), .val (.int (1 : Int32)), .val (.int (1 : Int32))] [])) (fun t k => Jvm.RoadKit.acmp (g := (mkF m 115 #[.val (.int p1), .val (.int p2), .val (.int (1 : Int32)), .val (.int (1 : Int32)), .val (.ref aT), .val (.int (1 : Int32)), .val (.int (1 : Int32)), .val (.int (1 : Int32))] [(.ref aT), (.ref aT)])) X17 hx rfl rfl rfl (pc0 := 115) (pc' := 118) (same := true) rfl (hb hby at_115) rfl (decide_eq_true rfl) (by decide) (by decide) k) ?_
      refine own_step (T' := T17) (f' := (mkF m 119 #[.val (.int p1), .val (.int p2), .val (.int (1 : Int32)), .val (.int (1 : Int32)), .val (.ref aT), .val (.int (1 : Int32)), .val (.int (1 : Int32)), .val (.int (1 : Int32))] [(.int (1 : Int32))])) (fun t k => XS.iconst X17.here hx rfl (hb hby at_118) k) ?_
      refine own_step (T' := T17) (f' := (mkF m 123 #[.val (.int p1), .val (.int p2), .val (.int (1 : Int32)), .val (.int (1 : Int32)), .val (.ref aT), .val (.int (1 : Int32)), .val (.int (1 : Int32)), .val (.int (1 : Int32))] [(.int (1 : Int32))])) (fun t k => XS.goto X17.here hx rfl (pc0 := 119) (pc' := 123) rfl (hb hby at_119) (by decide) (by decide) k) ?_
      refine own_step (T' := T17) (f' := (mkF m 125 #[.val (.int p1), .val (.int p2), .val (.int (1 : Int32)), .val (.int (1 : Int32)), .val (.ref aT), .val (.int (1 : Int32)), .val (.int (1 : Int32)), .val (.int (1 : Int32))] [])) (fun t k => XS.istore X17.here hx rfl (hb hby at_123) rfl (l' := #[.val (.int p1), .val (.int p2), .val (.int (1 : Int32)), .val (.int (1 : Int32)), .val (.ref aT), .val (.int (1 : Int32)), .val (.int (1 : Int32)), .val (.int (1 : Int32))]) rfl k) ?_
      refine own_step (T' := T17) (f' := (mkF m 127 #[.val (.int p1), .val (.int p2), .val (.int (1 : Int32)), .val (.int (1 : Int32)), .val (.ref aT), .val (.int (1 : Int32)), .val (.int (1 : Int32)), .val (.int (1 : Int32))] [(.int (1 : Int32))])) (fun t k => XS.iload X17.here hx rfl (hb hby at_125) rfl k) ?_
      exact own_retN X17 hx hlk (t := .boolean) Bd.returns (by simp) (hb hby at_127) (by decide) (by decide) ⟨rfl, N17⟩

set_option maxRecDepth 65536 in
set_option maxHeartbeats 40000000 in
theorem comes_1 {Post : Tables → Env → Array Value → State → Outcome → State → Prop} (hpost : ∀ tb e args s v u, (limb_1_1.after args s (.returned v) u = true ∧ limb_1_2.after args s (.returned v) u = true ∧ True) → FrameEnd s (.returned v) u (Jvm.fieldLocs frame_1_writes args s ++ Jvm.arrayLocs frame_1_arrays args s ++ Jvm.staticLocs frame_1_statics s) 0 0 → Post tb e args s (.returned v) u) :
    ArmFor flags0 classFile x code maxLocals ret World_1 tables_1 room_1 Calls_1 rest_1 Pre_1 Post := by
  intro l hfl _ _ p e ha hc hk s m args below hf hA hF happ hP
  obtain ⟨hcalls, hrest, hpre⟩ := hP
  obtain ⟨-, -, -, hnamed, -, -, -, hat⟩ := (Spec.applies_iff hf).mp happ
  obtain ⟨hg, hn⟩ := and_e (Cond.before_iff.mp (show (Jvm.Cond.and given_1 narrow_1).before args s = true from hpre))
  obtain ⟨hcnt, hg0⟩ := and_e hg
  obtain ⟨ga0, hg1⟩ := and_e hg0
  have ga1 := hg1
  obtain ⟨w0, w1, rfl⟩ : ∃ w0 w1 : Value, args = #[w0, w1] := by
    have hs : args.size = 2 := by simpa [Cond.value, given_1] using hcnt
    obtain ⟨L⟩ := args
    match L, hs with
    | [w0, w1], _ => exact ⟨w0, w1, rfl⟩
  have hw := fun d (hd : d ∈ tables_1) => atoms_spec (ws := Jvm.Cond.code x code maxLocals ret :: tables_1) hat d (List.mem_cons_of_mem _ hd)
  obtain ⟨i0, ei0⟩ := is_v ga0
  obtain rfl : w0 = (.int i0) := Option.some.inj ei0
  obtain ⟨i1, ei1⟩ := is_v ga1
  obtain rfl : w1 = (.int i1) := Option.some.inj ei1
  obtain ⟨nr0, hn0⟩ := and_e hn
  obtain ⟨nr1, hn1⟩ := and_e hn0
  obtain ⟨nr2, hn2⟩ := and_e hn1
  obtain ⟨nr3, hn3⟩ := and_e hn2
  obtain ⟨nr4, hn4⟩ := and_e hn3
  have nr5 := hn4
  obtain ⟨aU, evU⟩ := exa_v nr0
  have S_U : Sta s s.heap "com/example/inchworm/inchworm/lang/Truth" "UNKNOWN" "Lcom/example/inchworm/inchworm/lang/Truth;" (.ref aU) := Sta.start evU (Or.inr ⟨(hw _ (List.mem_of_getElem? (i := 2) rfl)), (hw _ (List.mem_of_getElem? (i := 5) rfl))⟩)
  have X_U : Exa s s.heap aU "com/example/inchworm/inchworm/lang/Truth" := Exa.start evU nr0
  obtain ⟨aT, evT⟩ := exa_v nr1
  have S_T : Sta s s.heap "com/example/inchworm/inchworm/lang/Truth" "TRUE" "Lcom/example/inchworm/inchworm/lang/Truth;" (.ref aT) := Sta.start evT (Or.inr ⟨(hw _ (List.mem_of_getElem? (i := 2) rfl)), (hw _ (List.mem_of_getElem? (i := 7) rfl))⟩)
  have X_T : Exa s s.heap aT "com/example/inchworm/inchworm/lang/Truth" := Exa.start evT nr1
  obtain ⟨aF, evF⟩ := exa_v nr4
  have S_F : Sta s s.heap "com/example/inchworm/inchworm/lang/Truth" "FALSE" "Lcom/example/inchworm/inchworm/lang/Truth;" (.ref aF) := Sta.start evF (Or.inr ⟨(hw _ (List.mem_of_getElem? (i := 2) rfl)), (hw _ (List.mem_of_getElem? (i := 9) rfl))⟩)
  have X_F : Exa s s.heap aF "com/example/inchworm/inchworm/lang/Truth" := Exa.start evF nr4
  have oU := own_ord evU nr2
  have oT := own_ord evT nr3
  have oF := own_ord evF nr5
  obtain ⟨n, o, h1, h2, h3, _, L, rfl, ⟨rfl, N⟩, hq⟩ := rm0 l s _ hw tables_1 i0 i1 s.heap s.heap.size (Nat.le_refl _) aT aF aU S_T S_F S_U (own_apart oF oT (by decide)) (own_apart oU oT (by decide)) (own_apart oU oF (by decide)) (own_apart oT oF (by decide)) p e ha hc hk s m _ below hf ((Spec.applies_iff_loose hf).mp happ).1 ⟨rfl, State.Warmed39.refl s, rfl⟩ trivial
  refine ⟨n, _, h1, h2, h3, hpost _ _ _ _ _ _ ⟨Cond.after_iff.mpr rfl, Cond.after_iff.mpr (eq_i res_at (Term.int_eval (1)) rfl), trivial⟩ ⟨hq.1, hq.2.1, (hq.2.2.sift fun y hy => Or.inr (N y hy)).mono (by decide) (by decide)⟩⟩
theorem main_1_1 : Claimed_1_1 := comes_1 fun _ _ _ _ _ _ h hF => ⟨h.1, hF⟩
theorem main_1_2 : Claimed_1_2 := comes_1 fun _ _ _ _ _ _ h hF => ⟨h.2.1, hF⟩
end Jvm.Pilot.@@N@@
namespace Jvm.Pilot.@@N@@
open Jvm Jvm.ClassFile Sem Op Lib Jvm.Free Jvm.Stand Jvm.Pilot.@@N@@.Jvm.D
/-! MADE BY PROGRAM (witnessworld.py) out of the Statement's table words and the real class files: 12 classes; the members and pool entries that the words name. The judged class is class 1, her method 1. -/
namespace start1
open Jvm.ClassFile
def u (s : String) : CpInfo := .utf8 (stringToUtf16 s)
/-- a pool by its gaps: so many unusable entries, then the entry; so many at the end -/
def gap : Nat → List CpInfo → List CpInfo
  | 0, r => r
  | n + 1, r => .unusable :: gap n r
def poolList (es : List (Nat × CpInfo)) (last : Nat) : List CpInfo := es.foldr (fun e r => gap e.1 (e.2 :: r)) (gap last [])
def pool (es : List (Nat × CpInfo)) (last : Nat) : Array CpInfo := ⟨poolList es last⟩
def fileOf (pool : Array CpInfo) (this : Nat) (attrs : Array Attribute := #[]) (ms : Array MethodInfo := #[]) (fl : Nat := 33) (sup : Nat := 0) (ifs : Array Nat := #[]) (fds : Array FieldInfo := #[]) : ClassFile where
  minorVersion := 0
  majorVersion := 65
  constantPool := pool
  accessFlags := fl
  thisClass := this
  superClass := sup
  interfaces := ifs
  fields := fds
  methods := ms
  attributes := attrs
def plain (name : String) (sup : Option ClassId) : Class where
  name := name
  kind := .ordinary
  loader := none
  accessFlags := 33
  super := sup
  interfaces := #[]
  cf := none
  fields := #[]
  methods := #[]
  instanceTypes := #[]
  staticTypes := #[]
  resolved := #[]
  callSites := []
  init := .initialized
  statics := none
  mirror := none

def pool0 : Array CpInfo := pool [(5, u "<init>"), (0, u "()V"), (1, .class_ 10), (1, u "java/lang/Object")] 113

def k0m0 : Method := { name := "<init>", desc := "()V", sig := { parameters := [], returnType := none }, accessFlags := 1, code := none }
/-- java/lang/Object -/
def k0 : Class := { plain "java/lang/Object" none with
  accessFlags := 33
  interfaces := #[]
  cf := some (fileOf pool0 8 #[] #[{ accessFlags := 1, nameIndex := 5, descriptorIndex := 6, attributes := #[] }] 33 0 #[] #[])
  fields := #[]
  methods := #[k0m0]
  instanceTypes := #[]
  staticTypes := #[]
  resolved := Array.replicate 124 none
  statics := none }

def pool1 : Array CpInfo := pool [(2, .class_ 4), (1, u "java/lang/Object"), (0, u "<init>"), (0, u "()V"), (0, .methodref 8 9), (0, .class_ 10), (0, .nameAndType 11 12), (0, u "com/example/inchworm/inchworm/lang/Truth"), (0, u "of"), (0, u "(ZZ)Lcom/example/inchworm/inchworm/lang/Truth;"), (0, .fieldref 8 14), (0, .nameAndType 15 16), (0, u "TRUE"), (0, u "Lcom/example/inchworm/inchworm/lang/Truth;"), (0, .fieldref 8 18), (0, .nameAndType 19 16), (0, u "FALSE"), (0, .methodref 8 21), (0, .nameAndType 11 22), (0, u "(Z)Lcom/example/inchworm/inchworm/lang/Truth;"), (0, .class_ 24), (0, u "com/example/inchworm/inchworm/lang/TruthOfPinLaw"), (2, u "law"), (0, u "(II)Z")] 3

def k1m0 : Method := { name := "<init>", desc := "()V", sig := { parameters := [], returnType := none }, accessFlags := 1, code := none }
def k1c1 : Code := { maxStack := 2, maxLocals := 8, code := code, exceptionTable := #[], attributes := #[] }
def k1m1 : Method := { name := "law", desc := "(II)Z", sig := { parameters := [.int, .int], returnType := some .boolean }, accessFlags := 9, code := some k1c1 }
/-- com/example/inchworm/inchworm/lang/TruthOfPinLaw -/
def k1 : Class := { plain "com/example/inchworm/inchworm/lang/TruthOfPinLaw" (some 0) with
  accessFlags := 49
  interfaces := #[]
  cf := some (fileOf pool1 23 #[] #[{ accessFlags := 1, nameIndex := 5, descriptorIndex := 6, attributes := #[] }, { accessFlags := 9, nameIndex := 27, descriptorIndex := 28, attributes := #[] }] 49 2 #[] #[])
  fields := #[]
  methods := #[k1m0, k1m1]
  instanceTypes := #[]
  staticTypes := #[]
  resolved := Array.replicate 32 none
  statics := none }

def pool2 : Array CpInfo := pool [(1, .class_ 2), (0, u "java/lang/constant/Constable"), (0, .class_ 4), (0, u "java/lang/Object")] 6

/-- java/lang/constant/Constable -/
def k2 : Class := { plain "java/lang/constant/Constable" (some 0) with
  accessFlags := 1537
  interfaces := #[]
  cf := some (fileOf pool2 1 #[] #[] 1537 3 #[] #[])
  fields := #[]
  methods := #[]
  instanceTypes := #[]
  staticTypes := #[]
  resolved := Array.replicate 11 none
  statics := none }

def pool3 : Array CpInfo := pool [(1, .class_ 2), (0, u "java/lang/Comparable"), (0, .class_ 4), (0, u "java/lang/Object")] 7

/-- java/lang/Comparable -/
def k3 : Class := { plain "java/lang/Comparable" (some 0) with
  accessFlags := 1537
  interfaces := #[]
  cf := some (fileOf pool3 1 #[] #[] 1537 3 #[] #[])
  fields := #[]
  methods := #[]
  instanceTypes := #[]
  staticTypes := #[]
  resolved := Array.replicate 12 none
  statics := none }

def pool4 : Array CpInfo := pool [(1, .class_ 2), (0, u "java/io/Serializable"), (0, .class_ 4), (0, u "java/lang/Object")] 2

/-- java/io/Serializable -/
def k4 : Class := { plain "java/io/Serializable" (some 0) with
  accessFlags := 1537
  interfaces := #[]
  cf := some (fileOf pool4 1 #[] #[] 1537 3 #[] #[])
  fields := #[]
  methods := #[]
  instanceTypes := #[]
  staticTypes := #[]
  resolved := Array.replicate 7 none
  statics := none }

def pool5 : Array CpInfo := pool [(2, .class_ 4), (1, u "java/lang/Enum"), (0, u "name"), (0, u "Ljava/lang/String;"), (2, u "ordinal"), (0, u "I"), (1, .class_ 14), (1, u "java/lang/Object"), (4, u "hash"), (86, .class_ 108), (1, u "java/lang/Enum$EnumDesc"), (2, .class_ 112), (0, u "java/lang/constant/Constable"), (0, .class_ 114), (0, u "java/lang/Comparable"), (0, .class_ 116), (0, u "java/io/Serializable")] 87

/-- java/lang/Enum -/
def k5 : Class := { plain "java/lang/Enum" (some 0) with
  accessFlags := 1057
  interfaces := #[2, 3, 4]
  cf := some (fileOf pool5 2 #[.nestMembers #[106]] #[] 1057 12 #[111, 113, 115] #[{ accessFlags := 18, nameIndex := 5, descriptorIndex := 6, attributes := #[] }, { accessFlags := 18, nameIndex := 9, descriptorIndex := 10, attributes := #[] }, { accessFlags := 2, nameIndex := 19, descriptorIndex := 10, attributes := #[] }])
  fields := #[{ name := "name", type := (.object "java/lang/String"), accessFlags := 18, slot := 0, constantValue := 0 }, { name := "ordinal", type := .int, accessFlags := 18, slot := 1, constantValue := 0 }, { name := "hash", type := .int, accessFlags := 2, slot := 2, constantValue := 0 }]
  methods := #[]
  instanceTypes := #[(.object "java/lang/String"), .int, .int]
  staticTypes := #[]
  resolved := Array.replicate 204 none
  statics := none }

def pool6 : Array CpInfo := pool [(1, .class_ 2), (0, u "com/example/inchworm/inchworm/lang/Truth"), (0, .fieldref 1 4), (0, .nameAndType 5 6), (0, u "TRUE"), (0, u "Lcom/example/inchworm/inchworm/lang/Truth;"), (0, .fieldref 1 8), (0, .nameAndType 9 6), (0, u "FALSE"), (0, .fieldref 1 11), (0, .nameAndType 12 6), (0, u "UNKNOWN"), (2, u "$VALUES"), (0, u "[Lcom/example/inchworm/inchworm/lang/Truth;"), (6, .class_ 25), (1, u "java/lang/Enum"), (12, u "of"), (0, u "(ZZ)Lcom/example/inchworm/inchworm/lang/Truth;"), (6, u "(Z)Lcom/example/inchworm/inchworm/lang/Truth;")] 27

def k6c0 : Code := { maxStack := 1, maxLocals := 1, code := prog_107_method_4_code, exceptionTable := #[], attributes := #[] }
def k6m0 : Method := { name := "of", desc := "(Z)Lcom/example/inchworm/inchworm/lang/Truth;", sig := { parameters := [.boolean], returnType := some (.object "com/example/inchworm/inchworm/lang/Truth") }, accessFlags := 9, code := some k6c0 }
def k6c1 : Code := { maxStack := 1, maxLocals := 3, code := prog_107_method_5_code, exceptionTable := #[], attributes := #[] }
def k6m1 : Method := { name := "of", desc := "(ZZ)Lcom/example/inchworm/inchworm/lang/Truth;", sig := { parameters := [.boolean, .boolean], returnType := some (.object "com/example/inchworm/inchworm/lang/Truth") }, accessFlags := 9, code := some k6c1 }
/-- com/example/inchworm/inchworm/lang/Truth -/
def k6 : Class := { plain "com/example/inchworm/inchworm/lang/Truth" (some 5) with
  accessFlags := 16433
  interfaces := #[]
  cf := some (fileOf pool6 1 #[] #[{ accessFlags := 9, nameIndex := 38, descriptorIndex := 46, attributes := #[] }, { accessFlags := 9, nameIndex := 38, descriptorIndex := 39, attributes := #[] }] 16433 23 #[] #[{ accessFlags := 16409, nameIndex := 5, descriptorIndex := 6, attributes := #[] }, { accessFlags := 16409, nameIndex := 9, descriptorIndex := 6, attributes := #[] }, { accessFlags := 16409, nameIndex := 12, descriptorIndex := 6, attributes := #[] }, { accessFlags := 4122, nameIndex := 15, descriptorIndex := 16, attributes := #[] }])
  fields := #[{ name := "TRUE", type := (.object "com/example/inchworm/inchworm/lang/Truth"), accessFlags := 16409, slot := 0, constantValue := 0 }, { name := "FALSE", type := (.object "com/example/inchworm/inchworm/lang/Truth"), accessFlags := 16409, slot := 1, constantValue := 0 }, { name := "UNKNOWN", type := (.object "com/example/inchworm/inchworm/lang/Truth"), accessFlags := 16409, slot := 2, constantValue := 0 }, { name := "$VALUES", type := (.array (.object "com/example/inchworm/inchworm/lang/Truth")), accessFlags := 4122, slot := 3, constantValue := 0 }]
  methods := #[k6m0, k6m1]
  instanceTypes := #[(.object "java/lang/String"), .int, .int]
  staticTypes := #[(.object "com/example/inchworm/inchworm/lang/Truth"), (.object "com/example/inchworm/inchworm/lang/Truth"), (.object "com/example/inchworm/inchworm/lang/Truth"), (.array (.object "com/example/inchworm/inchworm/lang/Truth"))]
  resolved := Array.replicate 74 none
  statics := some 0 }

def pool7 : Array CpInfo := pool [(1, u "java/lang/Cloneable"), (0, .class_ 1), (0, u "java/lang/Object"), (0, .class_ 3)] 3

/-- java/lang/Cloneable -/
def k7 : Class := { plain "java/lang/Cloneable" (some 0) with
  accessFlags := 1537
  interfaces := #[]
  cf := some (fileOf pool7 2 #[] #[] 1537 4 #[] #[])
  fields := #[]
  methods := #[]
  instanceTypes := #[]
  staticTypes := #[]
  resolved := Array.replicate 8 none
  statics := none }

/-- the primitive byte -/
def k8 : Class := { plain "byte" none with kind := .primitive 'B', accessFlags := 0x411 }
/-- [B -/
def k9 : Class := { plain "[B" (some 0) with kind := .array 8 .byte, interfaces := #[7, 4], accessFlags := 1041 }

/-- the primitive int -/
def k10 : Class := { plain "int" none with kind := .primitive 'I', accessFlags := 0x411 }
/-- [I -/
def k11 : Class := { plain "[I" (some 0) with kind := .array 10 .int, interfaces := #[7, 4], accessFlags := 1041 }

def heap : Heap := #[{ cls := 6, slots := #[.ref 1, .ref 2, .ref 3, .null], vm := .statics 6 },
  { cls := 6, slots := #[.null, .int 0, .int 0], vm := .none },
  { cls := 6, slots := #[.null, .int 1, .int 0], vm := .none },
  { cls := 6, slots := #[.null, .int 2, .int 0], vm := .none }]
def classes : Array Class := #[k0, k1, k2, k3, k4, k5, k6, k7, k8, k9, k10, k11]
def interned : List (Array UInt16 × Addr) := []
def slotsUsed : Nat := 13
def theMethod : MethodId := ⟨1, 1⟩
def args0 : Array Value := #[.int 5, .int 7]
def aboutOver (below : List Frame) : State where
  vm := { classes := classes, interned := interned.toArray }
  heap := heap
  slotsUsed := slotsUsed
  threads := #[{ frames := .invoking theMethod args0 :: below }]
def below0 : List Frame := [.native { method := ⟨0, 0⟩, args := #[] }]
def about1 : State := aboutOver below0
def p0 : Program := .bare "" "" ""
def e0 : Env := launch0.env 0 0 0
theorem w_frames : about1.frames = Frame.invoking theMethod args0 :: below0 := rfl
set_option maxRecDepth 65536 in
theorem w_args : argsFit about1.vm theMethod args0 = true := by decide +kernel
set_option maxRecDepth 65536 in
theorem w_heap : heapFits about1 = true := by decide +kernel
set_option maxRecDepth 65536 in
theorem w_runnable : about1.curStatus? = some .runnable := by decide +kernel
set_option maxRecDepth 65536 in
theorem w_alone : about1.alone = true := by decide +kernel
set_option maxRecDepth 65536 in
theorem w_named : about1.methodNamed? x = some theMethod := by decide +kernel
set_option maxRecDepth 65536 in
theorem w_hears : about1.hears theMethod below0 = true := by decide +kernel
set_option maxRecDepth 65536 in
theorem w_ripe : about1.ripe theMethod args0 below0 = true := by decide +kernel
theorem w_running : about1.status = .running := rfl
set_option maxRecDepth 65536 in
theorem w_room : about1.hasRoom e0.platform room_1 = true :=
  launch0.hasRoom_least _ room_1 (by decide +kernel) (by decide +kernel) (by decide +kernel) (by decide +kernel) (by decide +kernel) (by decide +kernel)
theorem allAtoms_all (ts : List Jvm.Cond) (a : Array Jvm.Value) (st : Jvm.State) : (allAtoms ts).before a st = ts.all (fun c => c.before a st) := by
  induction ts with
  | nil => rfl
  | cons c t ih =>
    show (Jvm.Cond.and c (allAtoms t)).before a st = _
    rw [Jvm.Cond.before_and, ih, List.all_cons]
def words1 : List Jvm.Cond := Jvm.Cond.code x code maxLocals ret :: tables_1
/-- a 'code' word, met by the world's own term for the bytes: nothing is compared byte by byte -/
theorem code_word {y : MethodName} {bytes : ByteArray} {mx : Nat} {rt : Option FieldType} {a : Array Value} {s : State} {m : MethodId} {meth : Method} {c : Code} (h1 : s.methodNamed? y = some m) (h2 : s.vm.method? m = some meth) (h3 : meth.code = some c) (h4 : c.code = bytes)
    (h5 : (c.maxLocals == mx && c.exceptionTable.isEmpty && decide (c.maxStack ≤ mostOperands) && decide (meth.sig.returnType = rt) && !meth.locks && decide (parseMethodDescriptor y.desc = some meth.sig)) = true) : (Jvm.Cond.code y bytes mx rt).before a s = true := by
  simp only [Bool.and_eq_true, beq_iff_eq, Bool.not_eq_true', decide_eq_true_eq] at h5
  obtain ⟨⟨⟨⟨⟨g1, g2⟩, g3⟩, g4⟩, g5⟩, g6⟩ := h5
  simp [Cond.before, Cond.holds, Cond.value, h1, h2, h3, h4, g1, g2, g3, g4, g5, g6]
def isCode : Jvm.Cond → Bool
  | .code _ _ _ _ => true
  | _ => false
theorem all_split {L : List Jvm.Cond} {P : Jvm.Cond → Bool} (h1 : L.all (fun c => isCode c || P c) = true) (h2 : ∀ c ∈ L.filter isCode, P c = true) : L.all P = true := by
  refine List.all_eq_true.mpr fun c hc => ?_
  have h := List.all_eq_true.mp h1 c hc
  rcases Bool.eq_false_or_eq_true (isCode c) with hi | hi
  · exact h2 c (List.mem_filter.mpr ⟨hc, hi⟩)
  · simpa [hi] using h
set_option maxRecDepth 65536 in
theorem w_c0 : (Jvm.Cond.code x code maxLocals ret).before args0 about1 = true := code_word (m := ⟨1, 1⟩) (meth := k1m1) (c := k1c1) (by decide +kernel) rfl rfl rfl (by decide +kernel)
set_option maxRecDepth 65536 in
theorem w_c1 : (Jvm.Cond.code ({ cls := "com/example/inchworm/inchworm/lang/Truth", name := "of", desc := "(ZZ)Lcom/example/inchworm/inchworm/lang/Truth;" } : Jvm.MethodName) prog_107_method_5_code (3 : Nat) (Option.some (Jvm.ClassFile.FieldType.object "com/example/inchworm/inchworm/lang/Truth"))).before args0 about1 = true := code_word (m := ⟨6, 1⟩) (meth := k6m1) (c := k6c1) (by decide +kernel) rfl rfl rfl (by decide +kernel)
set_option maxRecDepth 65536 in
theorem w_c2 : (Jvm.Cond.code ({ cls := "com/example/inchworm/inchworm/lang/Truth", name := "of", desc := "(Z)Lcom/example/inchworm/inchworm/lang/Truth;" } : Jvm.MethodName) prog_107_method_4_code (1 : Nat) (Option.some (Jvm.ClassFile.FieldType.object "com/example/inchworm/inchworm/lang/Truth"))).before args0 about1 = true := code_word (m := ⟨6, 0⟩) (meth := k6m0) (c := k6c0) (by decide +kernel) rfl rfl rfl (by decide +kernel)
def codes1 : List Jvm.Cond := [Jvm.Cond.code x code maxLocals ret, Jvm.Cond.code ({ cls := "com/example/inchworm/inchworm/lang/Truth", name := "of", desc := "(ZZ)Lcom/example/inchworm/inchworm/lang/Truth;" } : Jvm.MethodName) prog_107_method_5_code (3 : Nat) (Option.some (Jvm.ClassFile.FieldType.object "com/example/inchworm/inchworm/lang/Truth")), Jvm.Cond.code ({ cls := "com/example/inchworm/inchworm/lang/Truth", name := "of", desc := "(Z)Lcom/example/inchworm/inchworm/lang/Truth;" } : Jvm.MethodName) prog_107_method_4_code (1 : Nat) (Option.some (Jvm.ClassFile.FieldType.object "com/example/inchworm/inchworm/lang/Truth"))]
set_option maxRecDepth 65536 in
theorem codes_eq : words1.filter isCode = codes1 := rfl
theorem w_codes : ∀ c ∈ words1.filter isCode, c.before args0 about1 = true := by
  rw [codes_eq]
  intro c hc
  simp only [codes1, List.mem_cons, List.not_mem_nil, or_false] at hc
  rcases hc with rfl | rfl | rfl
  · exact w_c0
  · exact w_c1
  · exact w_c2
set_option maxRecDepth 65536 in
theorem w_t1 : words1.all (fun c => isCode c || c.before args0 about1) = true := by decide +kernel
theorem w_tables : (allAtoms (Jvm.Cond.code x code maxLocals ret :: tables_1)).before args0 about1 = true := by
  rw [allAtoms_all]
  show words1.all (fun c => c.before args0 about1) = true
  refine all_split ?_ w_codes
  rw [w_t1]
set_option maxRecDepth 65536 in
theorem w_case : (Jvm.Cond.and given_1 narrow_1).before args0 about1 = true := by decide +kernel
theorem w_applies : (headSpec (Jvm.Cond.code x code maxLocals ret :: tables_1) room_1).applies x e0.platform about1 = true :=
  (Spec.applies_iff w_frames).mpr ⟨w_running, w_runnable, w_alone, w_named, w_hears, w_ripe, w_room, w_tables⟩
theorem atStart : AtStart classFile x code maxLocals ret World_1 tables_1 room_1 Calls_1 rest_1 Pre_1 launch0 p0 e0 about1 theMethod args0 below0 :=
  ⟨lists_1, trivial, launch0.admits_env _ _ _, launch0.least_env, fairChoices_fair.cas, fairChoices_fair.clock, w_frames, w_args, w_heap, w_applies, trivial, trivial, w_case⟩
end start1
theorem witness_1 : WitnessClaimed_1 := ⟨start1.p0, start1.e0, start1.about1, start1.theMethod, start1.args0, start1.below0, start1.atStart⟩
end Jvm.Pilot.@@N@@
