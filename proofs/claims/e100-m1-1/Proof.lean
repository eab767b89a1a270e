import JvmDerived
import JvmDerived.Pilot.@@N@@Statement
import JvmDerived.Pilot.@@N@@Code
set_option linter.unusedVariables false
set_option linter.unusedSimpArgs false
namespace Jvm.Pilot.@@N@@
open Jvm Jvm.ClassFile Sem Op Lib Jvm.Free Jvm.Stand Jvm.LawKit Jvm.RoadKit Bundle Jvm.Pilot.@@N@@.Jvm.D

section Own
variable {p : Program} {l : Launch} {e : Env} {R : Room} {s : State} {m : MethodId} {args : Array Value} {below : List Frame} {meth : Method} {c : Code} {T T' : State} {locs : List Loc} {cells slots : Nat}
/-- from the frame f over T the run comes to the method's return, with Q -/
def OwnEnds (p : Program) (e : Env) (below : List Frame) (s : State) (Q : Option Value → Heap → List Loc → Prop) (k n : Nat) (T : State) (f : JFrame) : Prop :=
  ∃ s₂ o, Steps p.tables e below (T.setTop f) s₂ ∧ s₂.status = .running ∧ Ended s₂ below o ∧ ∃ v L, o = .returned v ∧ Q v s₂.heap L ∧ FrameEnd s o s₂ L k n
theorem own_step {Q : Option Value → Heap → List Loc → Prop} {k n : Nat} {f f' : JFrame} (h : ∀ t, Steps p.tables e below (T'.setTop f') t → Steps p.tables e below (T.setTop f) t) (g : OwnEnds p e below s Q k n T' f') : OwnEnds p e below s Q k n T f := by
  obtain ⟨s2, o, h1, h2⟩ := g
  exact ⟨s2, o, h _ h1, h2⟩
theorem own_retN (X : Stand p l e R s m args below meth c T locs cells slots) (hx : p.tables.exec = Jvm.exec) (hlk : meth.locks = false) {pc : Nat} {Ls : Array Slot} {z : Int32} {t : FieldType} {rest : List Value} (hret : meth.sig.returnType = some t) (ht : t = .boolean ∨ t = .byte ∨ t = .char ∨ t = .short)
    (hd : decode c.code pc = .ok (.ireturn, 1)) {Q : Option Value → Heap → List Loc → Prop} {k n : Nat} (hk : cells ≤ k) (hn : slots ≤ n) (hQ : Q (some (.int (nar t z))) T.heap locs) : OwnEnds p e below s Q k n T (mkF m pc Ls (.int z :: rest)) := by
  obtain ⟨fs, hr, hrun, hended, hW, hsame⟩ := X.leave (v := some (.int (nar t z))) (fun h => by rw [hret] at h; cases h) hlk
  exact ⟨_, _, retN X hx hret ht hd hr, hrun, hended, _, _, rfl, hQ, ⟨_, rfl⟩, hW, hsame.mono hk hn⟩
theorem own_retO (X : Stand p l e R s m args below meth c T locs cells slots) (hx : p.tables.exec = Jvm.exec) (hlk : meth.locks = false) {pc : Nat} {Ls : Array Slot} {w : Value} {t : FieldType} {i : Instr} {rest : List Value} (hret : meth.sig.returnType = some t) (hnw : narrow t w = w)
    (hi : (i = .ireturn ∧ (t = .int ∨ t = .boolean ∨ t = .byte ∨ t = .char ∨ t = .short) ∧ ∃ z, w = .int z) ∨ (i = .lreturn ∧ t = .long ∧ ∃ z, w = .long z) ∨ (i = .dreturn ∧ t = .double ∧ ∃ z, w = .double z) ∨ (i = .freturn ∧ t = .float ∧ ∃ z, w = .float z) ∨ (i = .areturn ∧ t.isReference = true ∧ w.isRef = true))
    (hd : decode c.code pc = .ok (i, 1)) {Q : Option Value → Heap → List Loc → Prop} {k n : Nat} (hk : cells ≤ k) (hn : slots ≤ n) (hQ : Q (some w) T.heap locs) : OwnEnds p e below s Q k n T (mkF m pc Ls (w :: rest)) := by
  obtain ⟨fs, hr, hrun, hended, hW, hsame⟩ := X.leave (v := some w) (fun h => by rw [hret] at h; cases h) hlk
  exact ⟨_, _, retOut X hx hret hnw hi hd hr, hrun, hended, _, _, rfl, hQ, ⟨_, rfl⟩, hW, hsame.mono hk hn⟩
theorem own_retV (X : Stand p l e R s m args below meth c T locs cells slots) (hx : p.tables.exec = Jvm.exec) (hlk : meth.locks = false) {pc : Nat} {Ls : Array Slot} (hret : meth.sig.returnType = none)
    (hd : decode c.code pc = .ok (.return_, 1)) {Q : Option Value → Heap → List Loc → Prop} {k n : Nat} (hk : cells ≤ k) (hn : slots ≤ n) (hQ : Q none T.heap locs) : OwnEnds p e below s Q k n T (mkF m pc Ls []) := by
  obtain ⟨fs, hr, hrun, hended, hW, hsame⟩ := X.leave (v := none) (fun _ => rfl) hlk
  exact ⟨_, _, X.returnOut hx hret hd hr, hrun, hended, _, _, rfl, hQ, ⟨_, rfl⟩, hW, hsame.mono hk hn⟩
end Own
theorem own_mvM {Z s : State} {a0 args : Array Value} {own host : String} {index : Nat} {y : MethodName} (hZ : Z.Warmed39 s.vm) (w : (Jvm.Cond.methodLinkNest own index y host).before a0 Z = true) : (Jvm.Cond.methodLinkNest own index y host).before args s = true := (Cond.methodLinkNest_wide hZ w :)
theorem own_irr {x : Int32} : ¬ x < x := by rw [Int32.lt_iff_toInt_lt]; omega
theorem own_lceq {x y : Int64} (h : x = y) : ifCond.holds .eq (lcmpW x y) = true ∧ ifCond.holds .ne (lcmpW x y) = false := by
  have q : lcmpW x y = 0 := by rw [lcW]; exact (lc_eq x y).mpr h
  exact ⟨(if0 _ _).trans (teq q).1, (if0 _ _).trans (teq q).2⟩
theorem own_lcne {x y : Int64} (h : ¬ x = y) : ifCond.holds .eq (lcmpW x y) = false ∧ ifCond.holds .ne (lcmpW x y) = true := by
  have q : ¬ lcmpW x y = 0 := by rw [lcW]; exact fun z => h ((lc_eq x y).mp z)
  exact ⟨(if0 _ _).trans (feq q).1, (if0 _ _).trans (feq q).2⟩
theorem own_lclt {x y : Int64} (h : x < y) : ifCond.holds .lt (lcmpW x y) = true ∧ ifCond.holds .ge (lcmpW x y) = false ∧ ifCond.holds .gt (lcmpW y x) = true ∧ ifCond.holds .le (lcmpW y x) = false := by
  have q : lcmpW x y < 0 := by rw [lcW]; exact (lc_lt x y).mpr h
  have q' : 0 < lcmpW y x := by rw [lcW]; exact (lc_gt y x).mpr h
  exact ⟨(if0 _ _).trans (tlt q).1, (if0 _ _).trans (tlt q).2.1, (if0 _ _).trans (tlt q').2.2.1, (if0 _ _).trans (tlt q').2.2.2⟩
theorem own_lcnl {x y : Int64} (h : ¬ x < y) : ifCond.holds .lt (lcmpW x y) = false ∧ ifCond.holds .ge (lcmpW x y) = true ∧ ifCond.holds .gt (lcmpW y x) = false ∧ ifCond.holds .le (lcmpW y x) = true := by
  have q : ¬ lcmpW x y < 0 := by rw [lcW]; exact fun z => h ((lc_lt x y).mp z)
  have q' : ¬ 0 < lcmpW y x := by rw [lcW]; exact fun z => h ((lc_gt y x).mp z)
  exact ⟨(if0 _ _).trans (flt q).1, (if0 _ _).trans (flt q).2.1, (if0 _ _).trans (flt q').2.2.1, (if0 _ _).trans (flt q').2.2.2⟩
theorem own_ord {args : Array Value} {s : State} {t : Term} {a : Addr} {C n d : String} {k : Int32} (ev : t.eval args s none [] s = some (.ref a)) (h : (Jvm.Cond.eq (.field t C n d) (.int k)).value args s none s [] = some true) : s.fieldOf? a C n d = some (.int k) := by
  have h1 := fld_at (C := C) (n := n) (dd := d) ev
  obtain ⟨x, y, e1, e2, -, k2⟩ := cmp_v (Or.inl h)
  obtain rfl : y = .int k := (Option.some.inj e2).symm
  obtain ⟨z, rfl⟩ := k2
  have q : z = k := by simpa [Jvm.Cond.value, e1, e2] using h
  rw [← h1, e1, q]
theorem own_apart {s : State} {a b : Addr} {C n d : String} {k j : Int32} (h1 : s.fieldOf? a C n d = some (.int k)) (h2 : s.fieldOf? b C n d = some (.int j)) (hk : k ≠ j) : ¬ a = b := fun e => by
  subst e; rw [h1] at h2; exact hk (Value.int.inj (Option.some.inj h2))

theorem d1_0 : decode prog_44_method_6_code 0 = .ok (.lload_n 0, 1) := by decide +kernel
theorem d1_1 : decode prog_44_method_6_code 1 = .ok (.lconst 1, 1) := by decide +kernel
theorem d1_2 : decode prog_44_method_6_code 2 = .ok (.lcmp, 1) := by decide +kernel
theorem d1_3 : decode prog_44_method_6_code 3 = .ok (.ifCond .ne 15, 3) := by decide +kernel
theorem d1_6 : decode prog_44_method_6_code 6 = .ok (.lload_n 2, 1) := by decide +kernel
theorem d1_7 : decode prog_44_method_6_code 7 = .ok (.lconst 1, 1) := by decide +kernel
theorem d1_8 : decode prog_44_method_6_code 8 = .ok (.lcmp, 1) := by decide +kernel
theorem d1_9 : decode prog_44_method_6_code 9 = .ok (.ifCond .ne 9, 3) := by decide +kernel
theorem d1_12 : decode prog_44_method_6_code 12 = .ok (.lconst 0, 1) := by decide +kernel
theorem d1_13 : decode prog_44_method_6_code 13 = .ok (.lstore 5, 2) := by decide +kernel
theorem d1_15 : decode prog_44_method_6_code 15 = .ok (.goto 21, 3) := by decide +kernel
theorem d1_18 : decode prog_44_method_6_code 18 = .ok (.iload 4, 2) := by decide +kernel
theorem d1_20 : decode prog_44_method_6_code 20 = .ok (.ifCond .eq 11, 3) := by decide +kernel
theorem d1_23 : decode prog_44_method_6_code 23 = .ok (.lload_n 0, 1) := by decide +kernel
theorem d1_24 : decode prog_44_method_6_code 24 = .ok (.lload_n 2, 1) := by decide +kernel
theorem d1_25 : decode prog_44_method_6_code 25 = .ok (.ladd, 1) := by decide +kernel
theorem d1_26 : decode prog_44_method_6_code 26 = .ok (.lstore 5, 2) := by decide +kernel
theorem d1_28 : decode prog_44_method_6_code 28 = .ok (.goto 8, 3) := by decide +kernel
theorem d1_31 : decode prog_44_method_6_code 31 = .ok (.lload_n 0, 1) := by decide +kernel
theorem d1_32 : decode prog_44_method_6_code 32 = .ok (.lload_n 2, 1) := by decide +kernel
theorem d1_33 : decode prog_44_method_6_code 33 = .ok (.lmul, 1) := by decide +kernel
theorem d1_34 : decode prog_44_method_6_code 34 = .ok (.lstore 5, 2) := by decide +kernel
theorem d1_36 : decode prog_44_method_6_code 36 = .ok (.lload 5, 2) := by decide +kernel
theorem d1_38 : decode prog_44_method_6_code 38 = .ok (.lreturn, 1) := by decide +kernel
theorem pn_1 : plainName "com/example/umriss/umriss/runtime/NumberValue" = true := by first | (simp [plainName, overriddenIn]; done) | decide +kernel
theorem ef_rm1 (m : MethodId) (x0 : Int64) (x1 : Int64) (x2 : Int32) : entryFrame m #[(.long x0), (.long x1), (.int x2)] 7 = mkF m 0 #[.val (.long x0), .second, .val (.long x1), .second, .val (.int x2), .unset, .unset] [] := by first | (simp [entryFrame, mkF, argsToLocals, Value.category]; done) | rfl
def own_steps (q1 : Int64) (q2 : Int64) (p3 : Int32) : Int64 := (if q1 = (1 : Int64) then (if q2 = (1 : Int64) then (0 : Int64) else (if p3 = (0 : Int32) then (q1 * q2) else (q1 + q2))) else (if p3 = (0 : Int32) then (q1 * q2) else (q1 + q2)))
def Q1 (q1 q2 : Int64) (p3 : Int32) (h0 : Heap) (n0 : Nat) (v : Option Value) (h : Heap) (L : List Loc) : Prop := v = some (.long (own_steps q1 q2 p3)) ∧ Fr n0 L ∧ h = h0
set_option maxRecDepth 65536 in
set_option maxHeartbeats 40000000 in
theorem rm1 (l : Launch) (Z : State) (a0 : Array Value) (hw : ∀ d ∈ tables_1, d.before a0 Z = true) (ws : List Jvm.Cond) (q1 : Int64) (q2 : Int64) (p3 : Int32) (h0 : Heap) (n0 : Nat) (Z0 : n0 ≤ h0.size)  :
    MetFree l (⟨"com/example/umriss/umriss/runtime/NumberValue", "steps", "(JJZ)J"⟩ : MethodName) (head1 (Jvm.Cond.code (⟨"com/example/umriss/umriss/runtime/NumberValue", "steps", "(JJZ)J"⟩ : MethodName) prog_44_method_6_code 7 (some .long) :: ws) ({ frames := 0, cells := 0, slots := 0, locals := 0 } : Room)) (fun a U => a = #[(.long q1), (.long q2), (.int p3)] ∧ Z.Warmed39 U.vm ∧ U.heap = h0) (fun _ _ _ _ _ => True) (fun _ U o U' => ∃ v L, o = .returned v ∧ Q1 q1 q2 p3 h0 n0 v U'.heap L ∧ FrameEnd U o U' L ({ frames := 0, cells := 0, slots := 0, locals := 0 } : Room).cells ({ frames := 0, cells := 0, slots := 0, locals := 0 } : Room).slots) := by
  refine MetFree.of_bodySF (plainFor_of_name pn_1) hisR ?_
  intro p e s m args below meth c s₁ Bd hml0 hP hK
  obtain ⟨rfl, hZ, hh⟩ := hP
  have hx := Bd.exec
  have hby := Bd.bytes
  have hlk : meth.locks = false := BodyLoose.notSynchronized Bd
  have hml : c.maxLocals = 7 := hml0
  have hown : s.vm.findClass "com/example/umriss/umriss/runtime/NumberValue" = some m.cls := findClass_of_methodNamed Bd.named
  have hnm := (name_of_methodNamed Bd.named Bd.method).1
  have X0 : Stand p l e ({ frames := 0, cells := 0, slots := 0, locals := 0 } : Room) s m #[(.long q1), (.long q2), (.int p3)] below meth c s₁ [] 0 0 := Stand.of_body Bd
  have e0 : s₁.heap = h0 := by rw [← hh, Bd.state]; rfl
  have N0 := Fr.nil n0
  show OwnEnds p e below s (Q1 q1 q2 p3 h0 n0) ({ frames := 0, cells := 0, slots := 0, locals := 0 } : Room).cells ({ frames := 0, cells := 0, slots := 0, locals := 0 } : Room).slots s₁ (entryFrame m #[(.long q1), (.long q2), (.int p3)] 7)
  refine own_step (T' := s₁) (f' := (mkF m 0 #[.val (.long q1), .second, .val (.long q2), .second, .val (.int p3), .unset, .unset] [])) (fun t k => castTop (ef_rm1 m q1 q2 p3) k) ?_
  refine own_step (T' := s₁) (f' := (mkF m 1 #[.val (.long q1), .second, .val (.long q2), .second, .val (.int p3), .unset, .unset] [(.long q1)])) (fun t k => XS.lloadN X0.here hx rfl (hb hby d1_0) rfl k) ?_
  refine own_step (T' := s₁) (f' := (mkF m 2 #[.val (.long q1), .second, .val (.long q2), .second, .val (.int p3), .unset, .unset] [(.long (1 : Int64)), (.long q1)])) (fun t k => XS.lconst X0.here hx rfl (hb hby d1_1) k) ?_
  refine own_step (T' := s₁) (f' := (mkF m 3 #[.val (.long q1), .second, .val (.long q2), .second, .val (.int p3), .unset, .unset] [(.int (lcmpW q1 (1 : Int64)))])) (fun t k => XS.lcmp X0.here hx rfl (hb hby d1_2) rfl k) ?_
  by_cases hc3_1 : q1 = (1 : Int64)
  · skip
    refine own_step (T' := s₁) (f' := (mkF m 6 #[.val (.long q1), .second, .val (.long q2), .second, .val (.int p3), .unset, .unset] [])) (fun t k => XS.ifNo X0.here hx rfl (hb hby d1_3) rfl (own_lceq hc3_1).2 k) ?_
    refine own_step (T' := s₁) (f' := (mkF m 7 #[.val (.long q1), .second, .val (.long q2), .second, .val (.int p3), .unset, .unset] [(.long q2)])) (fun t k => XS.lloadN X0.here hx rfl (hb hby d1_6) rfl k) ?_
    refine own_step (T' := s₁) (f' := (mkF m 8 #[.val (.long q1), .second, .val (.long q2), .second, .val (.int p3), .unset, .unset] [(.long (1 : Int64)), (.long q2)])) (fun t k => XS.lconst X0.here hx rfl (hb hby d1_7) k) ?_
    refine own_step (T' := s₁) (f' := (mkF m 9 #[.val (.long q1), .second, .val (.long q2), .second, .val (.int p3), .unset, .unset] [(.int (lcmpW q2 (1 : Int64)))])) (fun t k => XS.lcmp X0.here hx rfl (hb hby d1_8) rfl k) ?_
    by_cases hc9_2 : q2 = (1 : Int64)
    · skip
      refine own_step (T' := s₁) (f' := (mkF m 12 #[.val (.long q1), .second, .val (.long q2), .second, .val (.int p3), .unset, .unset] [])) (fun t k => XS.ifNo X0.here hx rfl (hb hby d1_9) rfl (own_lceq hc9_2).2 k) ?_
      refine own_step (T' := s₁) (f' := (mkF m 13 #[.val (.long q1), .second, .val (.long q2), .second, .val (.int p3), .unset, .unset] [(.long (0 : Int64))])) (fun t k => XS.lconst X0.here hx rfl (hb hby d1_12) k) ?_
      refine own_step (T' := s₁) (f' := (mkF m 15 #[.val (.long q1), .second, .val (.long q2), .second, .val (.int p3), .val (.long (0 : Int64)), .second] [])) (fun t k => XS.lstore X0.here hx rfl (hb hby d1_13) rfl (l' := #[.val (.long q1), .second, .val (.long q2), .second, .val (.int p3), .val (.long (0 : Int64)), .second]) rfl k) ?_
      refine own_step (T' := s₁) (f' := (mkF m 36 #[.val (.long q1), .second, .val (.long q2), .second, .val (.int p3), .val (.long (0 : Int64)), .second] [])) (fun t k => XS.goto X0.here hx rfl (pc0 := 15) (pc' := 36) rfl (hb hby d1_15) (by decide) (by decide) k) ?_
      refine own_step (T' := s₁) (f' := (mkF m 38 #[.val (.long q1), .second, .val (.long q2), .second, .val (.int p3), .val (.long (0 : Int64)), .second] [(.long (0 : Int64))])) (fun t k => XS.lload X0.here hx rfl (hb hby d1_36) rfl k) ?_
      exact own_retO X0 hx hlk Bd.returns rfl (Or.inr (Or.inl ⟨rfl, rfl, _, rfl⟩)) (hb hby d1_38) (by decide) (by decide) ⟨by unfold own_steps; rw [if_pos hc3_1, if_pos hc9_2]; try rfl, N0, e0⟩
    · skip
      refine own_step (T' := s₁) (f' := (mkF m 18 #[.val (.long q1), .second, .val (.long q2), .second, .val (.int p3), .unset, .unset] [])) (fun t k => XS.ifYes X0.here hx rfl (pc0 := 9) (pc' := 18) rfl (hb hby d1_9) rfl (own_lcne hc9_2).2 (by decide) (by decide) k) ?_
      refine own_step (T' := s₁) (f' := (mkF m 20 #[.val (.long q1), .second, .val (.long q2), .second, .val (.int p3), .unset, .unset] [(.int p3)])) (fun t k => XS.iload X0.here hx rfl (hb hby d1_18) rfl k) ?_
      by_cases hc20_3 : p3 = (0 : Int32)
      · skip
        refine own_step (T' := s₁) (f' := (mkF m 31 #[.val (.long q1), .second, .val (.long q2), .second, .val (.int p3), .unset, .unset] [])) (fun t k => XS.ifYes X0.here hx rfl (pc0 := 20) (pc' := 31) rfl (hb hby d1_20) rfl ((if0 _ _).trans (teq hc20_3).1) (by decide) (by decide) k) ?_
        refine own_step (T' := s₁) (f' := (mkF m 32 #[.val (.long q1), .second, .val (.long q2), .second, .val (.int p3), .unset, .unset] [(.long q1)])) (fun t k => XS.lloadN X0.here hx rfl (hb hby d1_31) rfl k) ?_
        refine own_step (T' := s₁) (f' := (mkF m 33 #[.val (.long q1), .second, .val (.long q2), .second, .val (.int p3), .unset, .unset] [(.long q2), (.long q1)])) (fun t k => XS.lloadN X0.here hx rfl (hb hby d1_32) rfl k) ?_
        refine own_step (T' := s₁) (f' := (mkF m 34 #[.val (.long q1), .second, .val (.long q2), .second, .val (.int p3), .unset, .unset] [(.long (q1 * q2))])) (fun t k => XS.lmul X0.here hx rfl (hb hby d1_33) rfl k) ?_
        refine own_step (T' := s₁) (f' := (mkF m 36 #[.val (.long q1), .second, .val (.long q2), .second, .val (.int p3), .val (.long (q1 * q2)), .second] [])) (fun t k => XS.lstore X0.here hx rfl (hb hby d1_34) rfl (l' := #[.val (.long q1), .second, .val (.long q2), .second, .val (.int p3), .val (.long (q1 * q2)), .second]) rfl k) ?_
        refine own_step (T' := s₁) (f' := (mkF m 38 #[.val (.long q1), .second, .val (.long q2), .second, .val (.int p3), .val (.long (q1 * q2)), .second] [(.long (q1 * q2))])) (fun t k => XS.lload X0.here hx rfl (hb hby d1_36) rfl k) ?_
        exact own_retO X0 hx hlk Bd.returns rfl (Or.inr (Or.inl ⟨rfl, rfl, _, rfl⟩)) (hb hby d1_38) (by decide) (by decide) ⟨by unfold own_steps; rw [if_pos hc3_1, if_neg hc9_2, if_pos hc20_3]; try rfl, N0, e0⟩
      · skip
        refine own_step (T' := s₁) (f' := (mkF m 23 #[.val (.long q1), .second, .val (.long q2), .second, .val (.int p3), .unset, .unset] [])) (fun t k => XS.ifNo X0.here hx rfl (hb hby d1_20) rfl ((if0 _ _).trans (feq hc20_3).1) k) ?_
        refine own_step (T' := s₁) (f' := (mkF m 24 #[.val (.long q1), .second, .val (.long q2), .second, .val (.int p3), .unset, .unset] [(.long q1)])) (fun t k => XS.lloadN X0.here hx rfl (hb hby d1_23) rfl k) ?_
        refine own_step (T' := s₁) (f' := (mkF m 25 #[.val (.long q1), .second, .val (.long q2), .second, .val (.int p3), .unset, .unset] [(.long q2), (.long q1)])) (fun t k => XS.lloadN X0.here hx rfl (hb hby d1_24) rfl k) ?_
        refine own_step (T' := s₁) (f' := (mkF m 26 #[.val (.long q1), .second, .val (.long q2), .second, .val (.int p3), .unset, .unset] [(.long (q1 + q2))])) (fun t k => XS.ladd X0.here hx rfl (hb hby d1_25) rfl k) ?_
        refine own_step (T' := s₁) (f' := (mkF m 28 #[.val (.long q1), .second, .val (.long q2), .second, .val (.int p3), .val (.long (q1 + q2)), .second] [])) (fun t k => XS.lstore X0.here hx rfl (hb hby d1_26) rfl (l' := #[.val (.long q1), .second, .val (.long q2), .second, .val (.int p3), .val (.long (q1 + q2)), .second]) rfl k) ?_
        refine own_step (T' := s₁) (f' := (mkF m 36 #[.val (.long q1), .second, .val (.long q2), .second, .val (.int p3), .val (.long (q1 + q2)), .second] [])) (fun t k => XS.goto X0.here hx rfl (pc0 := 28) (pc' := 36) rfl (hb hby d1_28) (by decide) (by decide) k) ?_
        refine own_step (T' := s₁) (f' := (mkF m 38 #[.val (.long q1), .second, .val (.long q2), .second, .val (.int p3), .val (.long (q1 + q2)), .second] [(.long (q1 + q2))])) (fun t k => XS.lload X0.here hx rfl (hb hby d1_36) rfl k) ?_
        exact own_retO X0 hx hlk Bd.returns rfl (Or.inr (Or.inl ⟨rfl, rfl, _, rfl⟩)) (hb hby d1_38) (by decide) (by decide) ⟨by unfold own_steps; rw [if_pos hc3_1, if_neg hc9_2, if_neg hc20_3]; try rfl, N0, e0⟩
  · skip
    refine own_step (T' := s₁) (f' := (mkF m 18 #[.val (.long q1), .second, .val (.long q2), .second, .val (.int p3), .unset, .unset] [])) (fun t k => XS.ifYes X0.here hx rfl (pc0 := 3) (pc' := 18) rfl (hb hby d1_3) rfl (own_lcne hc3_1).2 (by decide) (by decide) k) ?_
    refine own_step (T' := s₁) (f' := (mkF m 20 #[.val (.long q1), .second, .val (.long q2), .second, .val (.int p3), .unset, .unset] [(.int p3)])) (fun t k => XS.iload X0.here hx rfl (hb hby d1_18) rfl k) ?_
    by_cases hc20_4 : p3 = (0 : Int32)
    · skip
      refine own_step (T' := s₁) (f' := (mkF m 31 #[.val (.long q1), .second, .val (.long q2), .second, .val (.int p3), .unset, .unset] [])) (fun t k => XS.ifYes X0.here hx rfl (pc0 := 20) (pc' := 31) rfl (hb hby d1_20) rfl ((if0 _ _).trans (teq hc20_4).1) (by decide) (by decide) k) ?_
      refine own_step (T' := s₁) (f' := (mkF m 32 #[.val (.long q1), .second, .val (.long q2), .second, .val (.int p3), .unset, .unset] [(.long q1)])) (fun t k => XS.lloadN X0.here hx rfl (hb hby d1_31) rfl k) ?_
      refine own_step (T' := s₁) (f' := (mkF m 33 #[.val (.long q1), .second, .val (.long q2), .second, .val (.int p3), .unset, .unset] [(.long q2), (.long q1)])) (fun t k => XS.lloadN X0.here hx rfl (hb hby d1_32) rfl k) ?_
      refine own_step (T' := s₁) (f' := (mkF m 34 #[.val (.long q1), .second, .val (.long q2), .second, .val (.int p3), .unset, .unset] [(.long (q1 * q2))])) (fun t k => XS.lmul X0.here hx rfl (hb hby d1_33) rfl k) ?_
      refine own_step (T' := s₁) (f' := (mkF m 36 #[.val (.long q1), .second, .val (.long q2), .second, .val (.int p3), .val (.long (q1 * q2)), .second] [])) (fun t k => XS.lstore X0.here hx rfl (hb hby d1_34) rfl (l' := #[.val (.long q1), .second, .val (.long q2), .second, .val (.int p3), .val (.long (q1 * q2)), .second]) rfl k) ?_
      refine own_step (T' := s₁) (f' := (mkF m 38 #[.val (.long q1), .second, .val (.long q2), .second, .val (.int p3), .val (.long (q1 * q2)), .second] [(.long (q1 * q2))])) (fun t k => XS.lload X0.here hx rfl (hb hby d1_36) rfl k) ?_
      exact own_retO X0 hx hlk Bd.returns rfl (Or.inr (Or.inl ⟨rfl, rfl, _, rfl⟩)) (hb hby d1_38) (by decide) (by decide) ⟨by unfold own_steps; rw [if_neg hc3_1, if_pos hc20_4]; try rfl, N0, e0⟩
    · skip
      refine own_step (T' := s₁) (f' := (mkF m 23 #[.val (.long q1), .second, .val (.long q2), .second, .val (.int p3), .unset, .unset] [])) (fun t k => XS.ifNo X0.here hx rfl (hb hby d1_20) rfl ((if0 _ _).trans (feq hc20_4).1) k) ?_
      refine own_step (T' := s₁) (f' := (mkF m 24 #[.val (.long q1), .second, .val (.long q2), .second, .val (.int p3), .unset, .unset] [(.long q1)])) (fun t k => XS.lloadN X0.here hx rfl (hb hby d1_23) rfl k) ?_
      refine own_step (T' := s₁) (f' := (mkF m 25 #[.val (.long q1), .second, .val (.long q2), .second, .val (.int p3), .unset, .unset] [(.long q2), (.long q1)])) (fun t k => XS.lloadN X0.here hx rfl (hb hby d1_24) rfl k) ?_
      refine own_step (T' := s₁) (f' := (mkF m 26 #[.val (.long q1), .second, .val (.long q2), .second, .val (.int p3), .unset, .unset] [(.long (q1 + q2))])) (fun t k => XS.ladd X0.here hx rfl (hb hby d1_25) rfl k) ?_
      refine own_step (T' := s₁) (f' := (mkF m 28 #[.val (.long q1), .second, .val (.long q2), .second, .val (.int p3), .val (.long (q1 + q2)), .second] [])) (fun t k => XS.lstore X0.here hx rfl (hb hby d1_26) rfl (l' := #[.val (.long q1), .second, .val (.long q2), .second, .val (.int p3), .val (.long (q1 + q2)), .second]) rfl k) ?_
      refine own_step (T' := s₁) (f' := (mkF m 36 #[.val (.long q1), .second, .val (.long q2), .second, .val (.int p3), .val (.long (q1 + q2)), .second] [])) (fun t k => XS.goto X0.here hx rfl (pc0 := 28) (pc' := 36) rfl (hb hby d1_28) (by decide) (by decide) k) ?_
      refine own_step (T' := s₁) (f' := (mkF m 38 #[.val (.long q1), .second, .val (.long q2), .second, .val (.int p3), .val (.long (q1 + q2)), .second] [(.long (q1 + q2))])) (fun t k => XS.lload X0.here hx rfl (hb hby d1_36) rfl k) ?_
      exact own_retO X0 hx hlk Bd.returns rfl (Or.inr (Or.inl ⟨rfl, rfl, _, rfl⟩)) (hb hby d1_38) (by decide) (by decide) ⟨by unfold own_steps; rw [if_neg hc3_1, if_neg hc20_4]; try rfl, N0, e0⟩

/-! the plain law -/
def OwnB (x : Int64) : Prop := 1 ≤ x.toInt ∧ x.toInt ≤ 1073741824
theorem own_b1 : OwnB 1 := by constructor <;> decide
theorem own_mask (x : Int64) : 0 ≤ (x &&& 1073741823).toInt ∧ (x &&& 1073741823).toInt ≤ 1073741823 := by
  have e : (x &&& 1073741823).toBitVec.toNat = x.toBitVec.toNat &&& 1073741823 := by
    rw [Int64.toBitVec_and, BitVec.toNat_and]; rfl
  have hle : (x &&& 1073741823).toBitVec.toNat ≤ 1073741823 := by rw [e]; exact Nat.and_le_right
  have e1 : (x &&& 1073741823).toInt = ((x &&& 1073741823).toBitVec.toNat : Int) := by
    show (x &&& 1073741823).toBitVec.toInt = _
    rw [BitVec.toInt_eq_toNat_cond]; split <;> omega
  rw [e1]; omega
theorem own_add {x y : Int64} (h1 : -9223372036854775808 ≤ x.toInt + y.toInt) (h2 : x.toInt + y.toInt < 9223372036854775808) : (x + y).toInt = x.toInt + y.toInt := by
  rw [Int64.toInt_add]; exact Int.bmod_eq_of_le (by omega) (by omega)
theorem own_mul {x y : Int64} (h1 : -9223372036854775808 ≤ x.toInt * y.toInt) (h2 : x.toInt * y.toInt < 9223372036854775808) : (x * y).toInt = x.toInt * y.toInt := by
  rw [Int64.toInt_mul]; exact Int.bmod_eq_of_le (by omega) (by omega)
theorem own_one : ((1 : Int64)).toInt = 1 := rfl
theorem own_b (x : Int64) : OwnB ((x &&& (1073741823 : Int64)) + (1 : Int64)) := by
  have h := own_mask x
  have e := own_add (x := x &&& 1073741823) (y := 1) (by rw [own_one]; omega) (by rw [own_one]; omega)
  rw [own_one] at e
  unfold OwnB; rw [e]; omega
theorem own_two {L R : Int64} (hL : OwnB L) (hR : OwnB R) : (L + R = 2) ↔ (L = 1 ∧ R = 1) := by
  obtain ⟨l1, l2⟩ := hL; obtain ⟨r1, r2⟩ := hR
  have e := own_add (x := L) (y := R) (by omega) (by omega)
  constructor
  · intro h
    rw [h] at e
    have : ((2 : Int64)).toInt = 2 := rfl
    rw [this] at e
    exact ⟨Int64.toInt_inj.mp (by rw [own_one]; omega), Int64.toInt_inj.mp (by rw [own_one]; omega)⟩
  · rintro ⟨rfl, rfl⟩; rfl
theorem own_s0 {L R : Int64} (hL : OwnB L) (hR : OwnB R) (h : L + R = 2) (F : Int32) : own_steps L R F = 0 := by
  obtain ⟨rfl, rfl⟩ := (own_two hL hR).mp h
  unfold own_steps; rw [if_pos rfl, if_pos rfl]
theorem own_s1 {L R : Int64} (hL : OwnB L) (hR : OwnB R) (h : ¬ L + R = 2) : own_steps L R (1 : Int32) = L + R := by
  have q := fun z => h ((own_two hL hR).mpr z)
  have n : ¬ ((1 : Int32) = 0) := by decide
  unfold own_steps
  by_cases h1 : L = 1
  · have h2 : ¬ R = 1 := fun z => q ⟨h1, z⟩
    rw [if_pos h1, if_neg h2, if_neg n]
  · rw [if_neg h1, if_neg n]
theorem own_s2 {L R : Int64} (hL : OwnB L) (hR : OwnB R) (h : ¬ L + R = 2) : own_steps L R (0 : Int32) = L * R := by
  have q := fun z => h ((own_two hL hR).mpr z)
  unfold own_steps
  by_cases h1 : L = 1
  · have h2 : ¬ R = 1 := fun z => q ⟨h1, z⟩
    rw [if_pos h1, if_neg h2, if_pos rfl]
  · rw [if_neg h1, if_pos rfl]
theorem own_sw (L R : Int64) (F : Int32) : own_steps R L F = own_steps L R F := by
  unfold own_steps
  by_cases h1 : L = 1 <;> by_cases h2 : R = 1 <;> by_cases h3 : F = 0 <;> simp [h1, h2, h3, Int64.mul_comm, Int64.add_comm]
theorem own_nn {L R : Int64} (hL : OwnB L) (hR : OwnB R) (F : Int32) : ¬ own_steps L R F < (0 : Int64) := by
  have z : ((0 : Int64)).toInt = 0 := rfl
  obtain ⟨l1, l2⟩ := hL; obtain ⟨r1, r2⟩ := hR
  have e := own_add (x := L) (y := R) (by omega) (by omega)
  have p1 : 0 ≤ L.toInt * R.toInt := Int.mul_nonneg (by omega) (by omega)
  have p2 : L.toInt * R.toInt ≤ 1073741824 * 1073741824 := Int.mul_le_mul l2 r2 (by omega) (by omega)
  have e2 := own_mul (x := L) (y := R) (by omega) (by omega)
  have a1 : ¬ ((0 : Int64) < 0) := by decide
  have a2 : ¬ (L + R < 0) := by rw [Int64.lt_iff_toInt_lt, e, z]; omega
  have a3 : ¬ (L * R < 0) := by rw [Int64.lt_iff_toInt_lt, e2, z]; omega
  unfold own_steps
  by_cases h1 : L = 1 <;> by_cases h2 : R = 1 <;> by_cases h3 : F = 0 <;> simp only [h1, h2, h3, if_true, if_false] at * <;> first | exact a1 | exact a2 | exact a3

theorem pn_0 : plainName "com/example/umriss/umriss/runtime/NumberValueStepsPinLaw" = true := by first | (simp [plainName, overriddenIn]; done) | decide +kernel
theorem pd_0_0 : parseMethodDescriptor "(JJZ)J" = some ⟨[.long, .long, .boolean], some .long⟩ := by decide +kernel
theorem ef_rm0 (m : MethodId) (x0 : Int64) (x1 : Int64) (x2 : Int32) : entryFrame m #[(.long x0), (.long x1), (.int x2)] maxLocals = mkF m 0 #[.val (.long x0), .second, .val (.long x1), .second, .val (.int x2), .unset, .unset, .unset, .unset, .unset, .unset, .unset, .unset, .unset, .unset, .unset, .unset, .unset, .unset, .unset, .unset] [] := by first | (simp [entryFrame, mkF, argsToLocals, Value.category, maxLocals]; done) | rfl
def Q0 (n0 : Nat) (v : Option Value) (h : Heap) (L : List Loc) : Prop := v = some (.int 1) ∧ Fr n0 L
set_option maxRecDepth 65536 in
set_option maxHeartbeats 40000000 in
theorem rm0 (l : Launch) (Z : State) (a0 : Array Value) (hw : ∀ d ∈ tables_1, d.before a0 Z = true) (ws : List Jvm.Cond) (q1 : Int64) (q2 : Int64) (p3 : Int32) (h0 : Heap) (n0 : Nat) (Z0 : n0 ≤ h0.size)  :
    MetFree l x (head1 (Jvm.Cond.code x code maxLocals ret :: ws) room_1) (fun a U => a = #[(.long q1), (.long q2), (.int p3)] ∧ Z.Warmed39 U.vm ∧ U.heap = h0) (fun _ _ _ _ _ => True) (fun _ U o U' => ∃ v L, o = .returned v ∧ Q0 n0 v U'.heap L ∧ FrameEnd U o U' L room_1.cells room_1.slots) := by
  refine MetFree.of_bodySF (plainFor_of_name pn_0) hisR ?_
  intro p e s m args below meth c s₁ Bd hml0 hP hK
  obtain ⟨rfl, hZ, hh⟩ := hP
  have hx := Bd.exec
  have hby := Bd.bytes
  have hlk : meth.locks = false := BodyLoose.notSynchronized Bd
  have hml : c.maxLocals = 21 := hml0
  have hown : s.vm.findClass "com/example/umriss/umriss/runtime/NumberValueStepsPinLaw" = some m.cls := findClass_of_methodNamed Bd.named
  have hnm := (name_of_methodNamed Bd.named Bd.method).1
  have X0 : Stand p l e room_1 s m #[(.long q1), (.long q2), (.int p3)] below meth c s₁ [] 0 0 := Stand.of_body Bd
  have e0 : s₁.heap = h0 := by rw [← hh, Bd.state]; rfl
  have N0 := Fr.nil n0
  have J40 : ∀ (T_40 : State) (l_40 : List Loc) (X_40 : Stand p l e room_1 s m #[(.long q1), (.long q2), (.int p3)] below meth c T_40 l_40 0 0) (e_40 : T_40.heap = h0) (N_40 : Fr n0 l_40) (x5 : Int64) (b5 : OwnB x5) (x7 : Int64) (b7 : OwnB x7), OwnEnds p e below s (Q0 n0) room_1.cells room_1.slots T_40 (mkF m 40 #[.val (.long q1), .second, .val (.long q2), .second, .val (.int p3), .val (.long x5), .second, .val (.long x7), .second, .unset, .unset, .unset, .unset, .unset, .unset, .unset, .unset, .unset, .unset, .unset, .unset] []) := by
    intro T_40 l_40 X_40 e_40 N_40 x5 b5 x7 b7
    refine own_step (T' := T_40) (f' := (mkF m 42 #[.val (.long q1), .second, .val (.long q2), .second, .val (.int p3), .val (.long x5), .second, .val (.long x7), .second, .unset, .unset, .unset, .unset, .unset, .unset, .unset, .unset, .unset, .unset, .unset, .unset] [(.int p3)])) (fun t k => XS.iload X_40.here hx rfl (hb hby at_40) rfl k) ?_
    refine own_step (T' := T_40) (f' := (mkF m 43 #[.val (.long q1), .second, .val (.long q2), .second, .val (.int p3), .val (.long x5), .second, .val (.long x7), .second, .unset, .unset, .unset, .unset, .unset, .unset, .unset, .unset, .unset, .unset, .unset, .unset] [(.int (4 : Int32)), (.int p3)])) (fun t k => XS.iconst X_40.here hx rfl (hb hby at_42) k) ?_
    refine own_step (T' := T_40) (f' := (mkF m 44 #[.val (.long q1), .second, .val (.long q2), .second, .val (.int p3), .val (.long x5), .second, .val (.long x7), .second, .unset, .unset, .unset, .unset, .unset, .unset, .unset, .unset, .unset, .unset, .unset, .unset] [(.int (p3 &&& (4 : Int32)))])) (fun t k => XS.iand X_40.here hx rfl (hb hby at_43) rfl k) ?_
    by_cases hc44_1 : (p3 &&& (4 : Int32)) = (0 : Int32)
    · skip
      refine own_step (T' := T_40) (f' := (mkF m 51 #[.val (.long q1), .second, .val (.long q2), .second, .val (.int p3), .val (.long x5), .second, .val (.long x7), .second, .unset, .unset, .unset, .unset, .unset, .unset, .unset, .unset, .unset, .unset, .unset, .unset] [])) (fun t k => XS.ifYes X_40.here hx rfl (pc0 := 44) (pc' := 51) rfl (hb hby at_44) rfl ((if0 _ _).trans (teq hc44_1).1) (by decide) (by decide) k) ?_
      refine own_step (T' := T_40) (f' := (mkF m 52 #[.val (.long q1), .second, .val (.long q2), .second, .val (.int p3), .val (.long x5), .second, .val (.long x7), .second, .unset, .unset, .unset, .unset, .unset, .unset, .unset, .unset, .unset, .unset, .unset, .unset] [(.int (0 : Int32))])) (fun t k => XS.iconst X_40.here hx rfl (hb hby at_51) k) ?_
      refine own_step (T' := T_40) (f' := (mkF m 54 #[.val (.long q1), .second, .val (.long q2), .second, .val (.int p3), .val (.long x5), .second, .val (.long x7), .second, .val (.int (0 : Int32)), .unset, .unset, .unset, .unset, .unset, .unset, .unset, .unset, .unset, .unset, .unset] [])) (fun t k => XS.istore X_40.here hx rfl (hb hby at_52) rfl (l' := #[.val (.long q1), .second, .val (.long q2), .second, .val (.int p3), .val (.long x5), .second, .val (.long x7), .second, .val (.int (0 : Int32)), .unset, .unset, .unset, .unset, .unset, .unset, .unset, .unset, .unset, .unset, .unset]) rfl k) ?_
      refine own_step (T' := T_40) (f' := (mkF m 56 #[.val (.long q1), .second, .val (.long q2), .second, .val (.int p3), .val (.long x5), .second, .val (.long x7), .second, .val (.int (0 : Int32)), .unset, .unset, .unset, .unset, .unset, .unset, .unset, .unset, .unset, .unset, .unset] [(.long x5)])) (fun t k => XS.lload X_40.here hx rfl (hb hby at_54) rfl k) ?_
      refine own_step (T' := T_40) (f' := (mkF m 58 #[.val (.long q1), .second, .val (.long q2), .second, .val (.int p3), .val (.long x5), .second, .val (.long x7), .second, .val (.int (0 : Int32)), .unset, .unset, .unset, .unset, .unset, .unset, .unset, .unset, .unset, .unset, .unset] [(.long x7), (.long x5)])) (fun t k => XS.lload X_40.here hx rfl (hb hby at_56) rfl k) ?_
      refine own_step (T' := T_40) (f' := (mkF m 59 #[.val (.long q1), .second, .val (.long q2), .second, .val (.int p3), .val (.long x5), .second, .val (.long x7), .second, .val (.int (0 : Int32)), .unset, .unset, .unset, .unset, .unset, .unset, .unset, .unset, .unset, .unset, .unset] [(.long (x5 + x7))])) (fun t k => XS.ladd X_40.here hx rfl (hb hby at_58) rfl k) ?_
      refine own_step (T' := T_40) (f' := (mkF m 61 #[.val (.long q1), .second, .val (.long q2), .second, .val (.int p3), .val (.long x5), .second, .val (.long x7), .second, .val (.int (0 : Int32)), .val (.long (x5 + x7)), .second, .unset, .unset, .unset, .unset, .unset, .unset, .unset, .unset, .unset] [])) (fun t k => XS.lstore X_40.here hx rfl (hb hby at_59) rfl (l' := #[.val (.long q1), .second, .val (.long q2), .second, .val (.int p3), .val (.long x5), .second, .val (.long x7), .second, .val (.int (0 : Int32)), .val (.long (x5 + x7)), .second, .unset, .unset, .unset, .unset, .unset, .unset, .unset, .unset, .unset]) rfl k) ?_
      refine own_step (T' := T_40) (f' := (mkF m 63 #[.val (.long q1), .second, .val (.long q2), .second, .val (.int p3), .val (.long x5), .second, .val (.long x7), .second, .val (.int (0 : Int32)), .val (.long (x5 + x7)), .second, .unset, .unset, .unset, .unset, .unset, .unset, .unset, .unset, .unset] [(.long x5)])) (fun t k => XS.lload X_40.here hx rfl (hb hby at_61) rfl k) ?_
      refine own_step (T' := T_40) (f' := (mkF m 65 #[.val (.long q1), .second, .val (.long q2), .second, .val (.int p3), .val (.long x5), .second, .val (.long x7), .second, .val (.int (0 : Int32)), .val (.long (x5 + x7)), .second, .unset, .unset, .unset, .unset, .unset, .unset, .unset, .unset, .unset] [(.long x7), (.long x5)])) (fun t k => XS.lload X_40.here hx rfl (hb hby at_63) rfl k) ?_
      refine own_step (T' := T_40) (f' := (mkF m 66 #[.val (.long q1), .second, .val (.long q2), .second, .val (.int p3), .val (.long x5), .second, .val (.long x7), .second, .val (.int (0 : Int32)), .val (.long (x5 + x7)), .second, .unset, .unset, .unset, .unset, .unset, .unset, .unset, .unset, .unset] [(.long (x5 * x7))])) (fun t k => XS.lmul X_40.here hx rfl (hb hby at_65) rfl k) ?_
      refine own_step (T' := T_40) (f' := (mkF m 68 #[.val (.long q1), .second, .val (.long q2), .second, .val (.int p3), .val (.long x5), .second, .val (.long x7), .second, .val (.int (0 : Int32)), .val (.long (x5 + x7)), .second, .val (.long (x5 * x7)), .second, .unset, .unset, .unset, .unset, .unset, .unset, .unset] [])) (fun t k => XS.lstore X_40.here hx rfl (hb hby at_66) rfl (l' := #[.val (.long q1), .second, .val (.long q2), .second, .val (.int p3), .val (.long x5), .second, .val (.long x7), .second, .val (.int (0 : Int32)), .val (.long (x5 + x7)), .second, .val (.long (x5 * x7)), .second, .unset, .unset, .unset, .unset, .unset, .unset, .unset]) rfl k) ?_
      refine own_step (T' := T_40) (f' := (mkF m 70 #[.val (.long q1), .second, .val (.long q2), .second, .val (.int p3), .val (.long x5), .second, .val (.long x7), .second, .val (.int (0 : Int32)), .val (.long (x5 + x7)), .second, .val (.long (x5 * x7)), .second, .unset, .unset, .unset, .unset, .unset, .unset, .unset] [(.long (x5 + x7))])) (fun t k => XS.lload X_40.here hx rfl (hb hby at_68) rfl k) ?_
      refine own_step (T' := T_40) (f' := (mkF m 73 #[.val (.long q1), .second, .val (.long q2), .second, .val (.int p3), .val (.long x5), .second, .val (.long x7), .second, .val (.int (0 : Int32)), .val (.long (x5 + x7)), .second, .val (.long (x5 * x7)), .second, .unset, .unset, .unset, .unset, .unset, .unset, .unset] [(.long (2 : Int64)), (.long (x5 + x7))])) (fun t k => X_40.ldc2Long hx hown (mvT hZ (hw _ (List.mem_of_getElem? (i := 1) rfl))) (g := (mkF m 70 #[.val (.long q1), .second, .val (.long q2), .second, .val (.int p3), .val (.long x5), .second, .val (.long x7), .second, .val (.int (0 : Int32)), .val (.long (x5 + x7)), .second, .val (.long (x5 * x7)), .second, .unset, .unset, .unset, .unset, .unset, .unset, .unset] [(.long (x5 + x7))])) rfl (hb hby at_70) _ k) ?_
      refine own_step (T' := T_40) (f' := (mkF m 74 #[.val (.long q1), .second, .val (.long q2), .second, .val (.int p3), .val (.long x5), .second, .val (.long x7), .second, .val (.int (0 : Int32)), .val (.long (x5 + x7)), .second, .val (.long (x5 * x7)), .second, .unset, .unset, .unset, .unset, .unset, .unset, .unset] [(.int (lcmpW (x5 + x7) (2 : Int64)))])) (fun t k => XS.lcmp X_40.here hx rfl (hb hby at_73) rfl k) ?_
      by_cases hc74_2 : (x5 + x7) = (2 : Int64)
      · skip
        refine own_step (T' := T_40) (f' := (mkF m 77 #[.val (.long q1), .second, .val (.long q2), .second, .val (.int p3), .val (.long x5), .second, .val (.long x7), .second, .val (.int (0 : Int32)), .val (.long (x5 + x7)), .second, .val (.long (x5 * x7)), .second, .unset, .unset, .unset, .unset, .unset, .unset, .unset] [])) (fun t k => XS.ifNo X_40.here hx rfl (hb hby at_74) rfl (own_lceq hc74_2).2 k) ?_
        refine own_step (T' := T_40) (f' := (mkF m 78 #[.val (.long q1), .second, .val (.long q2), .second, .val (.int p3), .val (.long x5), .second, .val (.long x7), .second, .val (.int (0 : Int32)), .val (.long (x5 + x7)), .second, .val (.long (x5 * x7)), .second, .unset, .unset, .unset, .unset, .unset, .unset, .unset] [(.int (1 : Int32))])) (fun t k => XS.iconst X_40.here hx rfl (hb hby at_77) k) ?_
        refine own_step (T' := T_40) (f' := (mkF m 82 #[.val (.long q1), .second, .val (.long q2), .second, .val (.int p3), .val (.long x5), .second, .val (.long x7), .second, .val (.int (0 : Int32)), .val (.long (x5 + x7)), .second, .val (.long (x5 * x7)), .second, .unset, .unset, .unset, .unset, .unset, .unset, .unset] [(.int (1 : Int32))])) (fun t k => XS.goto X_40.here hx rfl (pc0 := 78) (pc' := 82) rfl (hb hby at_78) (by decide) (by decide) k) ?_
        refine own_step (T' := T_40) (f' := (mkF m 84 #[.val (.long q1), .second, .val (.long q2), .second, .val (.int p3), .val (.long x5), .second, .val (.long x7), .second, .val (.int (0 : Int32)), .val (.long (x5 + x7)), .second, .val (.long (x5 * x7)), .second, .val (.int (1 : Int32)), .unset, .unset, .unset, .unset, .unset, .unset] [])) (fun t k => XS.istore X_40.here hx rfl (hb hby at_82) rfl (l' := #[.val (.long q1), .second, .val (.long q2), .second, .val (.int p3), .val (.long x5), .second, .val (.long x7), .second, .val (.int (0 : Int32)), .val (.long (x5 + x7)), .second, .val (.long (x5 * x7)), .second, .val (.int (1 : Int32)), .unset, .unset, .unset, .unset, .unset, .unset]) rfl k) ?_
        refine own_step (T' := T_40) (f' := (mkF m 86 #[.val (.long q1), .second, .val (.long q2), .second, .val (.int p3), .val (.long x5), .second, .val (.long x7), .second, .val (.int (0 : Int32)), .val (.long (x5 + x7)), .second, .val (.long (x5 * x7)), .second, .val (.int (1 : Int32)), .unset, .unset, .unset, .unset, .unset, .unset] [(.int (1 : Int32))])) (fun t k => XS.iload X_40.here hx rfl (hb hby at_84) rfl k) ?_
        refine own_step (T' := T_40) (f' := (mkF m 89 #[.val (.long q1), .second, .val (.long q2), .second, .val (.int p3), .val (.long x5), .second, .val (.long x7), .second, .val (.int (0 : Int32)), .val (.long (x5 + x7)), .second, .val (.long (x5 * x7)), .second, .val (.int (1 : Int32)), .unset, .unset, .unset, .unset, .unset, .unset] [])) (fun t k => XS.ifNo X_40.here hx rfl (hb hby at_86) rfl ((if0 _ _).trans (feq (by decide : ¬ ((1 : Int32) = (0 : Int32)))).1) k) ?_
        refine own_step (T' := T_40) (f' := (mkF m 90 #[.val (.long q1), .second, .val (.long q2), .second, .val (.int p3), .val (.long x5), .second, .val (.long x7), .second, .val (.int (0 : Int32)), .val (.long (x5 + x7)), .second, .val (.long (x5 * x7)), .second, .val (.int (1 : Int32)), .unset, .unset, .unset, .unset, .unset, .unset] [(.long (0 : Int64))])) (fun t k => XS.lconst X_40.here hx rfl (hb hby at_89) k) ?_
        refine own_step (T' := T_40) (f' := (mkF m 92 #[.val (.long q1), .second, .val (.long q2), .second, .val (.int p3), .val (.long x5), .second, .val (.long x7), .second, .val (.int (0 : Int32)), .val (.long (x5 + x7)), .second, .val (.long (x5 * x7)), .second, .val (.int (1 : Int32)), .val (.long (0 : Int64)), .second, .unset, .unset, .unset, .unset] [])) (fun t k => XS.lstore X_40.here hx rfl (hb hby at_90) rfl (l' := #[.val (.long q1), .second, .val (.long q2), .second, .val (.int p3), .val (.long x5), .second, .val (.long x7), .second, .val (.int (0 : Int32)), .val (.long (x5 + x7)), .second, .val (.long (x5 * x7)), .second, .val (.int (1 : Int32)), .val (.long (0 : Int64)), .second, .unset, .unset, .unset, .unset]) rfl k) ?_
        refine own_step (T' := T_40) (f' := (mkF m 111 #[.val (.long q1), .second, .val (.long q2), .second, .val (.int p3), .val (.long x5), .second, .val (.long x7), .second, .val (.int (0 : Int32)), .val (.long (x5 + x7)), .second, .val (.long (x5 * x7)), .second, .val (.int (1 : Int32)), .val (.long (0 : Int64)), .second, .unset, .unset, .unset, .unset] [])) (fun t k => XS.goto X_40.here hx rfl (pc0 := 92) (pc' := 111) rfl (hb hby at_92) (by decide) (by decide) k) ?_
        refine own_step (T' := T_40) (f' := (mkF m 113 #[.val (.long q1), .second, .val (.long q2), .second, .val (.int p3), .val (.long x5), .second, .val (.long x7), .second, .val (.int (0 : Int32)), .val (.long (x5 + x7)), .second, .val (.long (x5 * x7)), .second, .val (.int (1 : Int32)), .val (.long (0 : Int64)), .second, .unset, .unset, .unset, .unset] [(.long x5)])) (fun t k => XS.lload X_40.here hx rfl (hb hby at_111) rfl k) ?_
        refine own_step (T' := T_40) (f' := (mkF m 115 #[.val (.long q1), .second, .val (.long q2), .second, .val (.int p3), .val (.long x5), .second, .val (.long x7), .second, .val (.int (0 : Int32)), .val (.long (x5 + x7)), .second, .val (.long (x5 * x7)), .second, .val (.int (1 : Int32)), .val (.long (0 : Int64)), .second, .unset, .unset, .unset, .unset] [(.long x7), (.long x5)])) (fun t k => XS.lload X_40.here hx rfl (hb hby at_113) rfl k) ?_
        refine own_step (T' := T_40) (f' := (mkF m 117 #[.val (.long q1), .second, .val (.long q2), .second, .val (.int p3), .val (.long x5), .second, .val (.long x7), .second, .val (.int (0 : Int32)), .val (.long (x5 + x7)), .second, .val (.long (x5 * x7)), .second, .val (.int (1 : Int32)), .val (.long (0 : Int64)), .second, .unset, .unset, .unset, .unset] [(.int (0 : Int32)), (.long x7), (.long x5)])) (fun t k => XS.iload X_40.here hx rfl (hb hby at_115) rfl k) ?_
        obtain ⟨_, _, ⟨T3, L3, k3, n3⟩, -, X3, ⟨Lc3, hQ3, l3, y3, z3⟩, st3⟩ := Jvm.LawKit.callS X_40 hx (y := (⟨"com/example/umriss/umriss/runtime/NumberValue", "steps", "(JJZ)J"⟩ : MethodName)) hown (mvT hZ (hw _ (List.mem_of_getElem? (i := 2) rfl))) (mvT hZ (hw _ (List.mem_of_getElem? (i := 3) rfl))) (mvT hZ (hw _ (List.mem_of_getElem? (i := 4) rfl))) (mvT hZ (hw _ (List.mem_of_getElem? (i := 5) rfl))) (by decide) (backOf (W := 0) (rm1 l Z a0 hw [] x5 x7 (0 : Int32) h0 n0 Z0) hZ (hw _ (List.mem_of_getElem? (i := 5) rfl)) (hw _ (List.mem_of_getElem? (i := 4) rfl)) (by decide) (by decide)) (g := (mkF m 117 #[.val (.long q1), .second, .val (.long q2), .second, .val (.int p3), .val (.long x5), .second, .val (.long x7), .second, .val (.int (0 : Int32)), .val (.long (x5 + x7)), .second, .val (.long (x5 * x7)), .second, .val (.int (1 : Int32)), .val (.long (0 : Int64)), .second, .unset, .unset, .unset, .unset] [(.int (0 : Int32)), (.long x7), (.long x5)])) rfl (by rw [hml]; rfl) (argsL := [(.long x5), (.long x7), (.int (0 : Int32))]) (rest := []) (lenOf pd_0_0 rfl) rfl (by show 2 * 0 + _ ≤ _; exact Nat.le_of_eq rfl) (hb hby at_117) (fun _ _ => ⟨rfl, e_40, (by decide : 0 + 0 ≤ _), (by decide : 0 + 0 ≤ _)⟩)
        dsimp only [Pt.U, Pt.locs, Pt.cells, Pt.slots] at X3 l3 y3 z3 st3 hQ3
        subst l3 y3 z3
        obtain ⟨rfl, N3q, E3⟩ := hQ3
        have N3 := Fr.app N_40 N3q
        refine own_step (T' := T3) (f' := (mkF m 120 #[.val (.long q1), .second, .val (.long q2), .second, .val (.int p3), .val (.long x5), .second, .val (.long x7), .second, .val (.int (0 : Int32)), .val (.long (x5 + x7)), .second, .val (.long (x5 * x7)), .second, .val (.int (1 : Int32)), .val (.long (0 : Int64)), .second, .unset, .unset, .unset, .unset] [(.long (own_steps x5 x7 (0 : Int32)))])) (fun t k => st3 t k) ?_
        refine own_step (T' := T3) (f' := (mkF m 122 #[.val (.long q1), .second, .val (.long q2), .second, .val (.int p3), .val (.long x5), .second, .val (.long x7), .second, .val (.int (0 : Int32)), .val (.long (x5 + x7)), .second, .val (.long (x5 * x7)), .second, .val (.int (1 : Int32)), .val (.long (0 : Int64)), .second, .val (.long (own_steps x5 x7 (0 : Int32))), .second, .unset, .unset] [])) (fun t k => XS.lstore X3.here hx rfl (hb hby at_120) rfl (l' := #[.val (.long q1), .second, .val (.long q2), .second, .val (.int p3), .val (.long x5), .second, .val (.long x7), .second, .val (.int (0 : Int32)), .val (.long (x5 + x7)), .second, .val (.long (x5 * x7)), .second, .val (.int (1 : Int32)), .val (.long (0 : Int64)), .second, .val (.long (own_steps x5 x7 (0 : Int32))), .second, .unset, .unset]) rfl k) ?_
        refine own_step (T' := T3) (f' := (mkF m 124 #[.val (.long q1), .second, .val (.long q2), .second, .val (.int p3), .val (.long x5), .second, .val (.long x7), .second, .val (.int (0 : Int32)), .val (.long (x5 + x7)), .second, .val (.long (x5 * x7)), .second, .val (.int (1 : Int32)), .val (.long (0 : Int64)), .second, .val (.long (own_steps x5 x7 (0 : Int32))), .second, .unset, .unset] [(.long x7)])) (fun t k => XS.lload X3.here hx rfl (hb hby at_122) rfl k) ?_
        refine own_step (T' := T3) (f' := (mkF m 126 #[.val (.long q1), .second, .val (.long q2), .second, .val (.int p3), .val (.long x5), .second, .val (.long x7), .second, .val (.int (0 : Int32)), .val (.long (x5 + x7)), .second, .val (.long (x5 * x7)), .second, .val (.int (1 : Int32)), .val (.long (0 : Int64)), .second, .val (.long (own_steps x5 x7 (0 : Int32))), .second, .unset, .unset] [(.long x5), (.long x7)])) (fun t k => XS.lload X3.here hx rfl (hb hby at_124) rfl k) ?_
        refine own_step (T' := T3) (f' := (mkF m 128 #[.val (.long q1), .second, .val (.long q2), .second, .val (.int p3), .val (.long x5), .second, .val (.long x7), .second, .val (.int (0 : Int32)), .val (.long (x5 + x7)), .second, .val (.long (x5 * x7)), .second, .val (.int (1 : Int32)), .val (.long (0 : Int64)), .second, .val (.long (own_steps x5 x7 (0 : Int32))), .second, .unset, .unset] [(.int (0 : Int32)), (.long x5), (.long x7)])) (fun t k => XS.iload X3.here hx rfl (hb hby at_126) rfl k) ?_
        obtain ⟨_, _, ⟨T4, L4, k4, n4⟩, -, X4, ⟨Lc4, hQ4, l4, y4, z4⟩, st4⟩ := Jvm.LawKit.callS X3 hx (y := (⟨"com/example/umriss/umriss/runtime/NumberValue", "steps", "(JJZ)J"⟩ : MethodName)) hown (mvT hZ (hw _ (List.mem_of_getElem? (i := 2) rfl))) (mvT hZ (hw _ (List.mem_of_getElem? (i := 3) rfl))) (mvT hZ (hw _ (List.mem_of_getElem? (i := 4) rfl))) (mvT hZ (hw _ (List.mem_of_getElem? (i := 5) rfl))) (by decide) (backOf (W := 0) (rm1 l Z a0 hw [] x7 x5 (0 : Int32) h0 n0 Z0) hZ (hw _ (List.mem_of_getElem? (i := 5) rfl)) (hw _ (List.mem_of_getElem? (i := 4) rfl)) (by decide) (by decide)) (g := (mkF m 128 #[.val (.long q1), .second, .val (.long q2), .second, .val (.int p3), .val (.long x5), .second, .val (.long x7), .second, .val (.int (0 : Int32)), .val (.long (x5 + x7)), .second, .val (.long (x5 * x7)), .second, .val (.int (1 : Int32)), .val (.long (0 : Int64)), .second, .val (.long (own_steps x5 x7 (0 : Int32))), .second, .unset, .unset] [(.int (0 : Int32)), (.long x5), (.long x7)])) rfl (by rw [hml]; rfl) (argsL := [(.long x7), (.long x5), (.int (0 : Int32))]) (rest := []) (lenOf pd_0_0 rfl) rfl (by show 2 * 0 + _ ≤ _; exact Nat.le_of_eq rfl) (hb hby at_128) (fun _ _ => ⟨rfl, E3, (by decide : 0 + 0 ≤ _), (by decide : 0 + 0 ≤ _)⟩)
        dsimp only [Pt.U, Pt.locs, Pt.cells, Pt.slots] at X4 l4 y4 z4 st4 hQ4
        subst l4 y4 z4
        obtain ⟨rfl, N4q, E4⟩ := hQ4
        have N4 := Fr.app N3 N4q
        refine own_step (T' := T4) (f' := (mkF m 131 #[.val (.long q1), .second, .val (.long q2), .second, .val (.int p3), .val (.long x5), .second, .val (.long x7), .second, .val (.int (0 : Int32)), .val (.long (x5 + x7)), .second, .val (.long (x5 * x7)), .second, .val (.int (1 : Int32)), .val (.long (0 : Int64)), .second, .val (.long (own_steps x5 x7 (0 : Int32))), .second, .unset, .unset] [(.long (own_steps x7 x5 (0 : Int32)))])) (fun t k => st4 t k) ?_
        refine own_step (T' := T4) (f' := (mkF m 133 #[.val (.long q1), .second, .val (.long q2), .second, .val (.int p3), .val (.long x5), .second, .val (.long x7), .second, .val (.int (0 : Int32)), .val (.long (x5 + x7)), .second, .val (.long (x5 * x7)), .second, .val (.int (1 : Int32)), .val (.long (0 : Int64)), .second, .val (.long (own_steps x5 x7 (0 : Int32))), .second, .val (.long (own_steps x7 x5 (0 : Int32))), .second] [])) (fun t k => XS.lstore X4.here hx rfl (hb hby at_131) rfl (l' := #[.val (.long q1), .second, .val (.long q2), .second, .val (.int p3), .val (.long x5), .second, .val (.long x7), .second, .val (.int (0 : Int32)), .val (.long (x5 + x7)), .second, .val (.long (x5 * x7)), .second, .val (.int (1 : Int32)), .val (.long (0 : Int64)), .second, .val (.long (own_steps x5 x7 (0 : Int32))), .second, .val (.long (own_steps x7 x5 (0 : Int32))), .second]) rfl k) ?_
        refine own_step (T' := T4) (f' := (mkF m 135 #[.val (.long q1), .second, .val (.long q2), .second, .val (.int p3), .val (.long x5), .second, .val (.long x7), .second, .val (.int (0 : Int32)), .val (.long (x5 + x7)), .second, .val (.long (x5 * x7)), .second, .val (.int (1 : Int32)), .val (.long (0 : Int64)), .second, .val (.long (own_steps x5 x7 (0 : Int32))), .second, .val (.long (own_steps x7 x5 (0 : Int32))), .second] [(.long (own_steps x5 x7 (0 : Int32)))])) (fun t k => XS.lload X4.here hx rfl (hb hby at_133) rfl k) ?_
        refine own_step (T' := T4) (f' := (mkF m 137 #[.val (.long q1), .second, .val (.long q2), .second, .val (.int p3), .val (.long x5), .second, .val (.long x7), .second, .val (.int (0 : Int32)), .val (.long (x5 + x7)), .second, .val (.long (x5 * x7)), .second, .val (.int (1 : Int32)), .val (.long (0 : Int64)), .second, .val (.long (own_steps x5 x7 (0 : Int32))), .second, .val (.long (own_steps x7 x5 (0 : Int32))), .second] [(.long (0 : Int64)), (.long (own_steps x5 x7 (0 : Int32)))])) (fun t k => XS.lload X4.here hx rfl (hb hby at_135) rfl k) ?_
        refine own_step (T' := T4) (f' := (mkF m 138 #[.val (.long q1), .second, .val (.long q2), .second, .val (.int p3), .val (.long x5), .second, .val (.long x7), .second, .val (.int (0 : Int32)), .val (.long (x5 + x7)), .second, .val (.long (x5 * x7)), .second, .val (.int (1 : Int32)), .val (.long (0 : Int64)), .second, .val (.long (own_steps x5 x7 (0 : Int32))), .second, .val (.long (own_steps x7 x5 (0 : Int32))), .second] [(.int (lcmpW (own_steps x5 x7 (0 : Int32)) (0 : Int64)))])) (fun t k => XS.lcmp X4.here hx rfl (hb hby at_137) rfl k) ?_
        refine own_step (T' := T4) (f' := (mkF m 141 #[.val (.long q1), .second, .val (.long q2), .second, .val (.int p3), .val (.long x5), .second, .val (.long x7), .second, .val (.int (0 : Int32)), .val (.long (x5 + x7)), .second, .val (.long (x5 * x7)), .second, .val (.int (1 : Int32)), .val (.long (0 : Int64)), .second, .val (.long (own_steps x5 x7 (0 : Int32))), .second, .val (.long (own_steps x7 x5 (0 : Int32))), .second] [])) (fun t k => XS.ifNo X4.here hx rfl (hb hby at_138) rfl (own_lceq (own_s0 b5 b7 hc74_2 _)).2 k) ?_
        refine own_step (T' := T4) (f' := (mkF m 143 #[.val (.long q1), .second, .val (.long q2), .second, .val (.int p3), .val (.long x5), .second, .val (.long x7), .second, .val (.int (0 : Int32)), .val (.long (x5 + x7)), .second, .val (.long (x5 * x7)), .second, .val (.int (1 : Int32)), .val (.long (0 : Int64)), .second, .val (.long (own_steps x5 x7 (0 : Int32))), .second, .val (.long (own_steps x7 x5 (0 : Int32))), .second] [(.long (own_steps x7 x5 (0 : Int32)))])) (fun t k => XS.lload X4.here hx rfl (hb hby at_141) rfl k) ?_
        refine own_step (T' := T4) (f' := (mkF m 145 #[.val (.long q1), .second, .val (.long q2), .second, .val (.int p3), .val (.long x5), .second, .val (.long x7), .second, .val (.int (0 : Int32)), .val (.long (x5 + x7)), .second, .val (.long (x5 * x7)), .second, .val (.int (1 : Int32)), .val (.long (0 : Int64)), .second, .val (.long (own_steps x5 x7 (0 : Int32))), .second, .val (.long (own_steps x7 x5 (0 : Int32))), .second] [(.long (own_steps x5 x7 (0 : Int32))), (.long (own_steps x7 x5 (0 : Int32)))])) (fun t k => XS.lload X4.here hx rfl (hb hby at_143) rfl k) ?_
        refine own_step (T' := T4) (f' := (mkF m 146 #[.val (.long q1), .second, .val (.long q2), .second, .val (.int p3), .val (.long x5), .second, .val (.long x7), .second, .val (.int (0 : Int32)), .val (.long (x5 + x7)), .second, .val (.long (x5 * x7)), .second, .val (.int (1 : Int32)), .val (.long (0 : Int64)), .second, .val (.long (own_steps x5 x7 (0 : Int32))), .second, .val (.long (own_steps x7 x5 (0 : Int32))), .second] [(.int (lcmpW (own_steps x7 x5 (0 : Int32)) (own_steps x5 x7 (0 : Int32))))])) (fun t k => XS.lcmp X4.here hx rfl (hb hby at_145) rfl k) ?_
        refine own_step (T' := T4) (f' := (mkF m 149 #[.val (.long q1), .second, .val (.long q2), .second, .val (.int p3), .val (.long x5), .second, .val (.long x7), .second, .val (.int (0 : Int32)), .val (.long (x5 + x7)), .second, .val (.long (x5 * x7)), .second, .val (.int (1 : Int32)), .val (.long (0 : Int64)), .second, .val (.long (own_steps x5 x7 (0 : Int32))), .second, .val (.long (own_steps x7 x5 (0 : Int32))), .second] [])) (fun t k => XS.ifNo X4.here hx rfl (hb hby at_146) rfl (own_lceq (own_sw _ _ _)).2 k) ?_
        refine own_step (T' := T4) (f' := (mkF m 151 #[.val (.long q1), .second, .val (.long q2), .second, .val (.int p3), .val (.long x5), .second, .val (.long x7), .second, .val (.int (0 : Int32)), .val (.long (x5 + x7)), .second, .val (.long (x5 * x7)), .second, .val (.int (1 : Int32)), .val (.long (0 : Int64)), .second, .val (.long (own_steps x5 x7 (0 : Int32))), .second, .val (.long (own_steps x7 x5 (0 : Int32))), .second] [(.long (own_steps x5 x7 (0 : Int32)))])) (fun t k => XS.lload X4.here hx rfl (hb hby at_149) rfl k) ?_
        refine own_step (T' := T4) (f' := (mkF m 152 #[.val (.long q1), .second, .val (.long q2), .second, .val (.int p3), .val (.long x5), .second, .val (.long x7), .second, .val (.int (0 : Int32)), .val (.long (x5 + x7)), .second, .val (.long (x5 * x7)), .second, .val (.int (1 : Int32)), .val (.long (0 : Int64)), .second, .val (.long (own_steps x5 x7 (0 : Int32))), .second, .val (.long (own_steps x7 x5 (0 : Int32))), .second] [(.long (0 : Int64)), (.long (own_steps x5 x7 (0 : Int32)))])) (fun t k => XS.lconst X4.here hx rfl (hb hby at_151) k) ?_
        refine own_step (T' := T4) (f' := (mkF m 153 #[.val (.long q1), .second, .val (.long q2), .second, .val (.int p3), .val (.long x5), .second, .val (.long x7), .second, .val (.int (0 : Int32)), .val (.long (x5 + x7)), .second, .val (.long (x5 * x7)), .second, .val (.int (1 : Int32)), .val (.long (0 : Int64)), .second, .val (.long (own_steps x5 x7 (0 : Int32))), .second, .val (.long (own_steps x7 x5 (0 : Int32))), .second] [(.int (lcmpW (own_steps x5 x7 (0 : Int32)) (0 : Int64)))])) (fun t k => XS.lcmp X4.here hx rfl (hb hby at_152) rfl k) ?_
        refine own_step (T' := T4) (f' := (mkF m 156 #[.val (.long q1), .second, .val (.long q2), .second, .val (.int p3), .val (.long x5), .second, .val (.long x7), .second, .val (.int (0 : Int32)), .val (.long (x5 + x7)), .second, .val (.long (x5 * x7)), .second, .val (.int (1 : Int32)), .val (.long (0 : Int64)), .second, .val (.long (own_steps x5 x7 (0 : Int32))), .second, .val (.long (own_steps x7 x5 (0 : Int32))), .second] [])) (fun t k => XS.ifNo X4.here hx rfl (hb hby at_153) rfl (own_lcnl (own_nn b5 b7 _)).1 k) ?_
        refine own_step (T' := T4) (f' := (mkF m 157 #[.val (.long q1), .second, .val (.long q2), .second, .val (.int p3), .val (.long x5), .second, .val (.long x7), .second, .val (.int (0 : Int32)), .val (.long (x5 + x7)), .second, .val (.long (x5 * x7)), .second, .val (.int (1 : Int32)), .val (.long (0 : Int64)), .second, .val (.long (own_steps x5 x7 (0 : Int32))), .second, .val (.long (own_steps x7 x5 (0 : Int32))), .second] [(.int (1 : Int32))])) (fun t k => XS.iconst X4.here hx rfl (hb hby at_156) k) ?_
        refine own_step (T' := T4) (f' := (mkF m 161 #[.val (.long q1), .second, .val (.long q2), .second, .val (.int p3), .val (.long x5), .second, .val (.long x7), .second, .val (.int (0 : Int32)), .val (.long (x5 + x7)), .second, .val (.long (x5 * x7)), .second, .val (.int (1 : Int32)), .val (.long (0 : Int64)), .second, .val (.long (own_steps x5 x7 (0 : Int32))), .second, .val (.long (own_steps x7 x5 (0 : Int32))), .second] [(.int (1 : Int32))])) (fun t k => XS.goto X4.here hx rfl (pc0 := 157) (pc' := 161) rfl (hb hby at_157) (by decide) (by decide) k) ?_
        exact own_retN X4 hx hlk (t := .boolean) Bd.returns (by simp) (hb hby at_161) (by decide) (by decide) ⟨rfl, N4⟩
      · skip
        refine own_step (T' := T_40) (f' := (mkF m 81 #[.val (.long q1), .second, .val (.long q2), .second, .val (.int p3), .val (.long x5), .second, .val (.long x7), .second, .val (.int (0 : Int32)), .val (.long (x5 + x7)), .second, .val (.long (x5 * x7)), .second, .unset, .unset, .unset, .unset, .unset, .unset, .unset] [])) (fun t k => XS.ifYes X_40.here hx rfl (pc0 := 74) (pc' := 81) rfl (hb hby at_74) rfl (own_lcne hc74_2).2 (by decide) (by decide) k) ?_
        refine own_step (T' := T_40) (f' := (mkF m 82 #[.val (.long q1), .second, .val (.long q2), .second, .val (.int p3), .val (.long x5), .second, .val (.long x7), .second, .val (.int (0 : Int32)), .val (.long (x5 + x7)), .second, .val (.long (x5 * x7)), .second, .unset, .unset, .unset, .unset, .unset, .unset, .unset] [(.int (0 : Int32))])) (fun t k => XS.iconst X_40.here hx rfl (hb hby at_81) k) ?_
        refine own_step (T' := T_40) (f' := (mkF m 84 #[.val (.long q1), .second, .val (.long q2), .second, .val (.int p3), .val (.long x5), .second, .val (.long x7), .second, .val (.int (0 : Int32)), .val (.long (x5 + x7)), .second, .val (.long (x5 * x7)), .second, .val (.int (0 : Int32)), .unset, .unset, .unset, .unset, .unset, .unset] [])) (fun t k => XS.istore X_40.here hx rfl (hb hby at_82) rfl (l' := #[.val (.long q1), .second, .val (.long q2), .second, .val (.int p3), .val (.long x5), .second, .val (.long x7), .second, .val (.int (0 : Int32)), .val (.long (x5 + x7)), .second, .val (.long (x5 * x7)), .second, .val (.int (0 : Int32)), .unset, .unset, .unset, .unset, .unset, .unset]) rfl k) ?_
        refine own_step (T' := T_40) (f' := (mkF m 86 #[.val (.long q1), .second, .val (.long q2), .second, .val (.int p3), .val (.long x5), .second, .val (.long x7), .second, .val (.int (0 : Int32)), .val (.long (x5 + x7)), .second, .val (.long (x5 * x7)), .second, .val (.int (0 : Int32)), .unset, .unset, .unset, .unset, .unset, .unset] [(.int (0 : Int32))])) (fun t k => XS.iload X_40.here hx rfl (hb hby at_84) rfl k) ?_
        refine own_step (T' := T_40) (f' := (mkF m 95 #[.val (.long q1), .second, .val (.long q2), .second, .val (.int p3), .val (.long x5), .second, .val (.long x7), .second, .val (.int (0 : Int32)), .val (.long (x5 + x7)), .second, .val (.long (x5 * x7)), .second, .val (.int (0 : Int32)), .unset, .unset, .unset, .unset, .unset, .unset] [])) (fun t k => XS.ifYes X_40.here hx rfl (pc0 := 86) (pc' := 95) rfl (hb hby at_86) rfl ((if0 _ _).trans (teq (by decide : (0 : Int32) = (0 : Int32))).1) (by decide) (by decide) k) ?_
        refine own_step (T' := T_40) (f' := (mkF m 97 #[.val (.long q1), .second, .val (.long q2), .second, .val (.int p3), .val (.long x5), .second, .val (.long x7), .second, .val (.int (0 : Int32)), .val (.long (x5 + x7)), .second, .val (.long (x5 * x7)), .second, .val (.int (0 : Int32)), .unset, .unset, .unset, .unset, .unset, .unset] [(.int (0 : Int32))])) (fun t k => XS.iload X_40.here hx rfl (hb hby at_95) rfl k) ?_
        refine own_step (T' := T_40) (f' := (mkF m 107 #[.val (.long q1), .second, .val (.long q2), .second, .val (.int p3), .val (.long x5), .second, .val (.long x7), .second, .val (.int (0 : Int32)), .val (.long (x5 + x7)), .second, .val (.long (x5 * x7)), .second, .val (.int (0 : Int32)), .unset, .unset, .unset, .unset, .unset, .unset] [])) (fun t k => XS.ifYes X_40.here hx rfl (pc0 := 97) (pc' := 107) rfl (hb hby at_97) rfl ((if0 _ _).trans (teq (by decide : (0 : Int32) = (0 : Int32))).1) (by decide) (by decide) k) ?_
        refine own_step (T' := T_40) (f' := (mkF m 109 #[.val (.long q1), .second, .val (.long q2), .second, .val (.int p3), .val (.long x5), .second, .val (.long x7), .second, .val (.int (0 : Int32)), .val (.long (x5 + x7)), .second, .val (.long (x5 * x7)), .second, .val (.int (0 : Int32)), .unset, .unset, .unset, .unset, .unset, .unset] [(.long (x5 * x7))])) (fun t k => XS.lload X_40.here hx rfl (hb hby at_107) rfl k) ?_
        refine own_step (T' := T_40) (f' := (mkF m 111 #[.val (.long q1), .second, .val (.long q2), .second, .val (.int p3), .val (.long x5), .second, .val (.long x7), .second, .val (.int (0 : Int32)), .val (.long (x5 + x7)), .second, .val (.long (x5 * x7)), .second, .val (.int (0 : Int32)), .val (.long (x5 * x7)), .second, .unset, .unset, .unset, .unset] [])) (fun t k => XS.lstore X_40.here hx rfl (hb hby at_109) rfl (l' := #[.val (.long q1), .second, .val (.long q2), .second, .val (.int p3), .val (.long x5), .second, .val (.long x7), .second, .val (.int (0 : Int32)), .val (.long (x5 + x7)), .second, .val (.long (x5 * x7)), .second, .val (.int (0 : Int32)), .val (.long (x5 * x7)), .second, .unset, .unset, .unset, .unset]) rfl k) ?_
        refine own_step (T' := T_40) (f' := (mkF m 113 #[.val (.long q1), .second, .val (.long q2), .second, .val (.int p3), .val (.long x5), .second, .val (.long x7), .second, .val (.int (0 : Int32)), .val (.long (x5 + x7)), .second, .val (.long (x5 * x7)), .second, .val (.int (0 : Int32)), .val (.long (x5 * x7)), .second, .unset, .unset, .unset, .unset] [(.long x5)])) (fun t k => XS.lload X_40.here hx rfl (hb hby at_111) rfl k) ?_
        refine own_step (T' := T_40) (f' := (mkF m 115 #[.val (.long q1), .second, .val (.long q2), .second, .val (.int p3), .val (.long x5), .second, .val (.long x7), .second, .val (.int (0 : Int32)), .val (.long (x5 + x7)), .second, .val (.long (x5 * x7)), .second, .val (.int (0 : Int32)), .val (.long (x5 * x7)), .second, .unset, .unset, .unset, .unset] [(.long x7), (.long x5)])) (fun t k => XS.lload X_40.here hx rfl (hb hby at_113) rfl k) ?_
        refine own_step (T' := T_40) (f' := (mkF m 117 #[.val (.long q1), .second, .val (.long q2), .second, .val (.int p3), .val (.long x5), .second, .val (.long x7), .second, .val (.int (0 : Int32)), .val (.long (x5 + x7)), .second, .val (.long (x5 * x7)), .second, .val (.int (0 : Int32)), .val (.long (x5 * x7)), .second, .unset, .unset, .unset, .unset] [(.int (0 : Int32)), (.long x7), (.long x5)])) (fun t k => XS.iload X_40.here hx rfl (hb hby at_115) rfl k) ?_
        obtain ⟨_, _, ⟨T5, L5, k5, n5⟩, -, X5, ⟨Lc5, hQ5, l5, y5, z5⟩, st5⟩ := Jvm.LawKit.callS X_40 hx (y := (⟨"com/example/umriss/umriss/runtime/NumberValue", "steps", "(JJZ)J"⟩ : MethodName)) hown (mvT hZ (hw _ (List.mem_of_getElem? (i := 2) rfl))) (mvT hZ (hw _ (List.mem_of_getElem? (i := 3) rfl))) (mvT hZ (hw _ (List.mem_of_getElem? (i := 4) rfl))) (mvT hZ (hw _ (List.mem_of_getElem? (i := 5) rfl))) (by decide) (backOf (W := 0) (rm1 l Z a0 hw [] x5 x7 (0 : Int32) h0 n0 Z0) hZ (hw _ (List.mem_of_getElem? (i := 5) rfl)) (hw _ (List.mem_of_getElem? (i := 4) rfl)) (by decide) (by decide)) (g := (mkF m 117 #[.val (.long q1), .second, .val (.long q2), .second, .val (.int p3), .val (.long x5), .second, .val (.long x7), .second, .val (.int (0 : Int32)), .val (.long (x5 + x7)), .second, .val (.long (x5 * x7)), .second, .val (.int (0 : Int32)), .val (.long (x5 * x7)), .second, .unset, .unset, .unset, .unset] [(.int (0 : Int32)), (.long x7), (.long x5)])) rfl (by rw [hml]; rfl) (argsL := [(.long x5), (.long x7), (.int (0 : Int32))]) (rest := []) (lenOf pd_0_0 rfl) rfl (by show 2 * 0 + _ ≤ _; exact Nat.le_of_eq rfl) (hb hby at_117) (fun _ _ => ⟨rfl, e_40, (by decide : 0 + 0 ≤ _), (by decide : 0 + 0 ≤ _)⟩)
        dsimp only [Pt.U, Pt.locs, Pt.cells, Pt.slots] at X5 l5 y5 z5 st5 hQ5
        subst l5 y5 z5
        obtain ⟨rfl, N5q, E5⟩ := hQ5
        have N5 := Fr.app N_40 N5q
        refine own_step (T' := T5) (f' := (mkF m 120 #[.val (.long q1), .second, .val (.long q2), .second, .val (.int p3), .val (.long x5), .second, .val (.long x7), .second, .val (.int (0 : Int32)), .val (.long (x5 + x7)), .second, .val (.long (x5 * x7)), .second, .val (.int (0 : Int32)), .val (.long (x5 * x7)), .second, .unset, .unset, .unset, .unset] [(.long (own_steps x5 x7 (0 : Int32)))])) (fun t k => st5 t k) ?_
        refine own_step (T' := T5) (f' := (mkF m 122 #[.val (.long q1), .second, .val (.long q2), .second, .val (.int p3), .val (.long x5), .second, .val (.long x7), .second, .val (.int (0 : Int32)), .val (.long (x5 + x7)), .second, .val (.long (x5 * x7)), .second, .val (.int (0 : Int32)), .val (.long (x5 * x7)), .second, .val (.long (own_steps x5 x7 (0 : Int32))), .second, .unset, .unset] [])) (fun t k => XS.lstore X5.here hx rfl (hb hby at_120) rfl (l' := #[.val (.long q1), .second, .val (.long q2), .second, .val (.int p3), .val (.long x5), .second, .val (.long x7), .second, .val (.int (0 : Int32)), .val (.long (x5 + x7)), .second, .val (.long (x5 * x7)), .second, .val (.int (0 : Int32)), .val (.long (x5 * x7)), .second, .val (.long (own_steps x5 x7 (0 : Int32))), .second, .unset, .unset]) rfl k) ?_
        refine own_step (T' := T5) (f' := (mkF m 124 #[.val (.long q1), .second, .val (.long q2), .second, .val (.int p3), .val (.long x5), .second, .val (.long x7), .second, .val (.int (0 : Int32)), .val (.long (x5 + x7)), .second, .val (.long (x5 * x7)), .second, .val (.int (0 : Int32)), .val (.long (x5 * x7)), .second, .val (.long (own_steps x5 x7 (0 : Int32))), .second, .unset, .unset] [(.long x7)])) (fun t k => XS.lload X5.here hx rfl (hb hby at_122) rfl k) ?_
        refine own_step (T' := T5) (f' := (mkF m 126 #[.val (.long q1), .second, .val (.long q2), .second, .val (.int p3), .val (.long x5), .second, .val (.long x7), .second, .val (.int (0 : Int32)), .val (.long (x5 + x7)), .second, .val (.long (x5 * x7)), .second, .val (.int (0 : Int32)), .val (.long (x5 * x7)), .second, .val (.long (own_steps x5 x7 (0 : Int32))), .second, .unset, .unset] [(.long x5), (.long x7)])) (fun t k => XS.lload X5.here hx rfl (hb hby at_124) rfl k) ?_
        refine own_step (T' := T5) (f' := (mkF m 128 #[.val (.long q1), .second, .val (.long q2), .second, .val (.int p3), .val (.long x5), .second, .val (.long x7), .second, .val (.int (0 : Int32)), .val (.long (x5 + x7)), .second, .val (.long (x5 * x7)), .second, .val (.int (0 : Int32)), .val (.long (x5 * x7)), .second, .val (.long (own_steps x5 x7 (0 : Int32))), .second, .unset, .unset] [(.int (0 : Int32)), (.long x5), (.long x7)])) (fun t k => XS.iload X5.here hx rfl (hb hby at_126) rfl k) ?_
        obtain ⟨_, _, ⟨T6, L6, k6, n6⟩, -, X6, ⟨Lc6, hQ6, l6, y6, z6⟩, st6⟩ := Jvm.LawKit.callS X5 hx (y := (⟨"com/example/umriss/umriss/runtime/NumberValue", "steps", "(JJZ)J"⟩ : MethodName)) hown (mvT hZ (hw _ (List.mem_of_getElem? (i := 2) rfl))) (mvT hZ (hw _ (List.mem_of_getElem? (i := 3) rfl))) (mvT hZ (hw _ (List.mem_of_getElem? (i := 4) rfl))) (mvT hZ (hw _ (List.mem_of_getElem? (i := 5) rfl))) (by decide) (backOf (W := 0) (rm1 l Z a0 hw [] x7 x5 (0 : Int32) h0 n0 Z0) hZ (hw _ (List.mem_of_getElem? (i := 5) rfl)) (hw _ (List.mem_of_getElem? (i := 4) rfl)) (by decide) (by decide)) (g := (mkF m 128 #[.val (.long q1), .second, .val (.long q2), .second, .val (.int p3), .val (.long x5), .second, .val (.long x7), .second, .val (.int (0 : Int32)), .val (.long (x5 + x7)), .second, .val (.long (x5 * x7)), .second, .val (.int (0 : Int32)), .val (.long (x5 * x7)), .second, .val (.long (own_steps x5 x7 (0 : Int32))), .second, .unset, .unset] [(.int (0 : Int32)), (.long x5), (.long x7)])) rfl (by rw [hml]; rfl) (argsL := [(.long x7), (.long x5), (.int (0 : Int32))]) (rest := []) (lenOf pd_0_0 rfl) rfl (by show 2 * 0 + _ ≤ _; exact Nat.le_of_eq rfl) (hb hby at_128) (fun _ _ => ⟨rfl, E5, (by decide : 0 + 0 ≤ _), (by decide : 0 + 0 ≤ _)⟩)
        dsimp only [Pt.U, Pt.locs, Pt.cells, Pt.slots] at X6 l6 y6 z6 st6 hQ6
        subst l6 y6 z6
        obtain ⟨rfl, N6q, E6⟩ := hQ6
        have N6 := Fr.app N5 N6q
        refine own_step (T' := T6) (f' := (mkF m 131 #[.val (.long q1), .second, .val (.long q2), .second, .val (.int p3), .val (.long x5), .second, .val (.long x7), .second, .val (.int (0 : Int32)), .val (.long (x5 + x7)), .second, .val (.long (x5 * x7)), .second, .val (.int (0 : Int32)), .val (.long (x5 * x7)), .second, .val (.long (own_steps x5 x7 (0 : Int32))), .second, .unset, .unset] [(.long (own_steps x7 x5 (0 : Int32)))])) (fun t k => st6 t k) ?_
        refine own_step (T' := T6) (f' := (mkF m 133 #[.val (.long q1), .second, .val (.long q2), .second, .val (.int p3), .val (.long x5), .second, .val (.long x7), .second, .val (.int (0 : Int32)), .val (.long (x5 + x7)), .second, .val (.long (x5 * x7)), .second, .val (.int (0 : Int32)), .val (.long (x5 * x7)), .second, .val (.long (own_steps x5 x7 (0 : Int32))), .second, .val (.long (own_steps x7 x5 (0 : Int32))), .second] [])) (fun t k => XS.lstore X6.here hx rfl (hb hby at_131) rfl (l' := #[.val (.long q1), .second, .val (.long q2), .second, .val (.int p3), .val (.long x5), .second, .val (.long x7), .second, .val (.int (0 : Int32)), .val (.long (x5 + x7)), .second, .val (.long (x5 * x7)), .second, .val (.int (0 : Int32)), .val (.long (x5 * x7)), .second, .val (.long (own_steps x5 x7 (0 : Int32))), .second, .val (.long (own_steps x7 x5 (0 : Int32))), .second]) rfl k) ?_
        refine own_step (T' := T6) (f' := (mkF m 135 #[.val (.long q1), .second, .val (.long q2), .second, .val (.int p3), .val (.long x5), .second, .val (.long x7), .second, .val (.int (0 : Int32)), .val (.long (x5 + x7)), .second, .val (.long (x5 * x7)), .second, .val (.int (0 : Int32)), .val (.long (x5 * x7)), .second, .val (.long (own_steps x5 x7 (0 : Int32))), .second, .val (.long (own_steps x7 x5 (0 : Int32))), .second] [(.long (own_steps x5 x7 (0 : Int32)))])) (fun t k => XS.lload X6.here hx rfl (hb hby at_133) rfl k) ?_
        refine own_step (T' := T6) (f' := (mkF m 137 #[.val (.long q1), .second, .val (.long q2), .second, .val (.int p3), .val (.long x5), .second, .val (.long x7), .second, .val (.int (0 : Int32)), .val (.long (x5 + x7)), .second, .val (.long (x5 * x7)), .second, .val (.int (0 : Int32)), .val (.long (x5 * x7)), .second, .val (.long (own_steps x5 x7 (0 : Int32))), .second, .val (.long (own_steps x7 x5 (0 : Int32))), .second] [(.long (x5 * x7)), (.long (own_steps x5 x7 (0 : Int32)))])) (fun t k => XS.lload X6.here hx rfl (hb hby at_135) rfl k) ?_
        refine own_step (T' := T6) (f' := (mkF m 138 #[.val (.long q1), .second, .val (.long q2), .second, .val (.int p3), .val (.long x5), .second, .val (.long x7), .second, .val (.int (0 : Int32)), .val (.long (x5 + x7)), .second, .val (.long (x5 * x7)), .second, .val (.int (0 : Int32)), .val (.long (x5 * x7)), .second, .val (.long (own_steps x5 x7 (0 : Int32))), .second, .val (.long (own_steps x7 x5 (0 : Int32))), .second] [(.int (lcmpW (own_steps x5 x7 (0 : Int32)) (x5 * x7)))])) (fun t k => XS.lcmp X6.here hx rfl (hb hby at_137) rfl k) ?_
        refine own_step (T' := T6) (f' := (mkF m 141 #[.val (.long q1), .second, .val (.long q2), .second, .val (.int p3), .val (.long x5), .second, .val (.long x7), .second, .val (.int (0 : Int32)), .val (.long (x5 + x7)), .second, .val (.long (x5 * x7)), .second, .val (.int (0 : Int32)), .val (.long (x5 * x7)), .second, .val (.long (own_steps x5 x7 (0 : Int32))), .second, .val (.long (own_steps x7 x5 (0 : Int32))), .second] [])) (fun t k => XS.ifNo X6.here hx rfl (hb hby at_138) rfl (own_lceq (own_s2 b5 b7 hc74_2)).2 k) ?_
        refine own_step (T' := T6) (f' := (mkF m 143 #[.val (.long q1), .second, .val (.long q2), .second, .val (.int p3), .val (.long x5), .second, .val (.long x7), .second, .val (.int (0 : Int32)), .val (.long (x5 + x7)), .second, .val (.long (x5 * x7)), .second, .val (.int (0 : Int32)), .val (.long (x5 * x7)), .second, .val (.long (own_steps x5 x7 (0 : Int32))), .second, .val (.long (own_steps x7 x5 (0 : Int32))), .second] [(.long (own_steps x7 x5 (0 : Int32)))])) (fun t k => XS.lload X6.here hx rfl (hb hby at_141) rfl k) ?_
        refine own_step (T' := T6) (f' := (mkF m 145 #[.val (.long q1), .second, .val (.long q2), .second, .val (.int p3), .val (.long x5), .second, .val (.long x7), .second, .val (.int (0 : Int32)), .val (.long (x5 + x7)), .second, .val (.long (x5 * x7)), .second, .val (.int (0 : Int32)), .val (.long (x5 * x7)), .second, .val (.long (own_steps x5 x7 (0 : Int32))), .second, .val (.long (own_steps x7 x5 (0 : Int32))), .second] [(.long (own_steps x5 x7 (0 : Int32))), (.long (own_steps x7 x5 (0 : Int32)))])) (fun t k => XS.lload X6.here hx rfl (hb hby at_143) rfl k) ?_
        refine own_step (T' := T6) (f' := (mkF m 146 #[.val (.long q1), .second, .val (.long q2), .second, .val (.int p3), .val (.long x5), .second, .val (.long x7), .second, .val (.int (0 : Int32)), .val (.long (x5 + x7)), .second, .val (.long (x5 * x7)), .second, .val (.int (0 : Int32)), .val (.long (x5 * x7)), .second, .val (.long (own_steps x5 x7 (0 : Int32))), .second, .val (.long (own_steps x7 x5 (0 : Int32))), .second] [(.int (lcmpW (own_steps x7 x5 (0 : Int32)) (own_steps x5 x7 (0 : Int32))))])) (fun t k => XS.lcmp X6.here hx rfl (hb hby at_145) rfl k) ?_
        refine own_step (T' := T6) (f' := (mkF m 149 #[.val (.long q1), .second, .val (.long q2), .second, .val (.int p3), .val (.long x5), .second, .val (.long x7), .second, .val (.int (0 : Int32)), .val (.long (x5 + x7)), .second, .val (.long (x5 * x7)), .second, .val (.int (0 : Int32)), .val (.long (x5 * x7)), .second, .val (.long (own_steps x5 x7 (0 : Int32))), .second, .val (.long (own_steps x7 x5 (0 : Int32))), .second] [])) (fun t k => XS.ifNo X6.here hx rfl (hb hby at_146) rfl (own_lceq (own_sw _ _ _)).2 k) ?_
        refine own_step (T' := T6) (f' := (mkF m 151 #[.val (.long q1), .second, .val (.long q2), .second, .val (.int p3), .val (.long x5), .second, .val (.long x7), .second, .val (.int (0 : Int32)), .val (.long (x5 + x7)), .second, .val (.long (x5 * x7)), .second, .val (.int (0 : Int32)), .val (.long (x5 * x7)), .second, .val (.long (own_steps x5 x7 (0 : Int32))), .second, .val (.long (own_steps x7 x5 (0 : Int32))), .second] [(.long (own_steps x5 x7 (0 : Int32)))])) (fun t k => XS.lload X6.here hx rfl (hb hby at_149) rfl k) ?_
        refine own_step (T' := T6) (f' := (mkF m 152 #[.val (.long q1), .second, .val (.long q2), .second, .val (.int p3), .val (.long x5), .second, .val (.long x7), .second, .val (.int (0 : Int32)), .val (.long (x5 + x7)), .second, .val (.long (x5 * x7)), .second, .val (.int (0 : Int32)), .val (.long (x5 * x7)), .second, .val (.long (own_steps x5 x7 (0 : Int32))), .second, .val (.long (own_steps x7 x5 (0 : Int32))), .second] [(.long (0 : Int64)), (.long (own_steps x5 x7 (0 : Int32)))])) (fun t k => XS.lconst X6.here hx rfl (hb hby at_151) k) ?_
        refine own_step (T' := T6) (f' := (mkF m 153 #[.val (.long q1), .second, .val (.long q2), .second, .val (.int p3), .val (.long x5), .second, .val (.long x7), .second, .val (.int (0 : Int32)), .val (.long (x5 + x7)), .second, .val (.long (x5 * x7)), .second, .val (.int (0 : Int32)), .val (.long (x5 * x7)), .second, .val (.long (own_steps x5 x7 (0 : Int32))), .second, .val (.long (own_steps x7 x5 (0 : Int32))), .second] [(.int (lcmpW (own_steps x5 x7 (0 : Int32)) (0 : Int64)))])) (fun t k => XS.lcmp X6.here hx rfl (hb hby at_152) rfl k) ?_
        refine own_step (T' := T6) (f' := (mkF m 156 #[.val (.long q1), .second, .val (.long q2), .second, .val (.int p3), .val (.long x5), .second, .val (.long x7), .second, .val (.int (0 : Int32)), .val (.long (x5 + x7)), .second, .val (.long (x5 * x7)), .second, .val (.int (0 : Int32)), .val (.long (x5 * x7)), .second, .val (.long (own_steps x5 x7 (0 : Int32))), .second, .val (.long (own_steps x7 x5 (0 : Int32))), .second] [])) (fun t k => XS.ifNo X6.here hx rfl (hb hby at_153) rfl (own_lcnl (own_nn b5 b7 _)).1 k) ?_
        refine own_step (T' := T6) (f' := (mkF m 157 #[.val (.long q1), .second, .val (.long q2), .second, .val (.int p3), .val (.long x5), .second, .val (.long x7), .second, .val (.int (0 : Int32)), .val (.long (x5 + x7)), .second, .val (.long (x5 * x7)), .second, .val (.int (0 : Int32)), .val (.long (x5 * x7)), .second, .val (.long (own_steps x5 x7 (0 : Int32))), .second, .val (.long (own_steps x7 x5 (0 : Int32))), .second] [(.int (1 : Int32))])) (fun t k => XS.iconst X6.here hx rfl (hb hby at_156) k) ?_
        refine own_step (T' := T6) (f' := (mkF m 161 #[.val (.long q1), .second, .val (.long q2), .second, .val (.int p3), .val (.long x5), .second, .val (.long x7), .second, .val (.int (0 : Int32)), .val (.long (x5 + x7)), .second, .val (.long (x5 * x7)), .second, .val (.int (0 : Int32)), .val (.long (x5 * x7)), .second, .val (.long (own_steps x5 x7 (0 : Int32))), .second, .val (.long (own_steps x7 x5 (0 : Int32))), .second] [(.int (1 : Int32))])) (fun t k => XS.goto X6.here hx rfl (pc0 := 157) (pc' := 161) rfl (hb hby at_157) (by decide) (by decide) k) ?_
        exact own_retN X6 hx hlk (t := .boolean) Bd.returns (by simp) (hb hby at_161) (by decide) (by decide) ⟨rfl, N6⟩
    · skip
      refine own_step (T' := T_40) (f' := (mkF m 47 #[.val (.long q1), .second, .val (.long q2), .second, .val (.int p3), .val (.long x5), .second, .val (.long x7), .second, .unset, .unset, .unset, .unset, .unset, .unset, .unset, .unset, .unset, .unset, .unset, .unset] [])) (fun t k => XS.ifNo X_40.here hx rfl (hb hby at_44) rfl ((if0 _ _).trans (feq hc44_1).1) k) ?_
      refine own_step (T' := T_40) (f' := (mkF m 48 #[.val (.long q1), .second, .val (.long q2), .second, .val (.int p3), .val (.long x5), .second, .val (.long x7), .second, .unset, .unset, .unset, .unset, .unset, .unset, .unset, .unset, .unset, .unset, .unset, .unset] [(.int (1 : Int32))])) (fun t k => XS.iconst X_40.here hx rfl (hb hby at_47) k) ?_
      refine own_step (T' := T_40) (f' := (mkF m 52 #[.val (.long q1), .second, .val (.long q2), .second, .val (.int p3), .val (.long x5), .second, .val (.long x7), .second, .unset, .unset, .unset, .unset, .unset, .unset, .unset, .unset, .unset, .unset, .unset, .unset] [(.int (1 : Int32))])) (fun t k => XS.goto X_40.here hx rfl (pc0 := 48) (pc' := 52) rfl (hb hby at_48) (by decide) (by decide) k) ?_
      refine own_step (T' := T_40) (f' := (mkF m 54 #[.val (.long q1), .second, .val (.long q2), .second, .val (.int p3), .val (.long x5), .second, .val (.long x7), .second, .val (.int (1 : Int32)), .unset, .unset, .unset, .unset, .unset, .unset, .unset, .unset, .unset, .unset, .unset] [])) (fun t k => XS.istore X_40.here hx rfl (hb hby at_52) rfl (l' := #[.val (.long q1), .second, .val (.long q2), .second, .val (.int p3), .val (.long x5), .second, .val (.long x7), .second, .val (.int (1 : Int32)), .unset, .unset, .unset, .unset, .unset, .unset, .unset, .unset, .unset, .unset, .unset]) rfl k) ?_
      refine own_step (T' := T_40) (f' := (mkF m 56 #[.val (.long q1), .second, .val (.long q2), .second, .val (.int p3), .val (.long x5), .second, .val (.long x7), .second, .val (.int (1 : Int32)), .unset, .unset, .unset, .unset, .unset, .unset, .unset, .unset, .unset, .unset, .unset] [(.long x5)])) (fun t k => XS.lload X_40.here hx rfl (hb hby at_54) rfl k) ?_
      refine own_step (T' := T_40) (f' := (mkF m 58 #[.val (.long q1), .second, .val (.long q2), .second, .val (.int p3), .val (.long x5), .second, .val (.long x7), .second, .val (.int (1 : Int32)), .unset, .unset, .unset, .unset, .unset, .unset, .unset, .unset, .unset, .unset, .unset] [(.long x7), (.long x5)])) (fun t k => XS.lload X_40.here hx rfl (hb hby at_56) rfl k) ?_
      refine own_step (T' := T_40) (f' := (mkF m 59 #[.val (.long q1), .second, .val (.long q2), .second, .val (.int p3), .val (.long x5), .second, .val (.long x7), .second, .val (.int (1 : Int32)), .unset, .unset, .unset, .unset, .unset, .unset, .unset, .unset, .unset, .unset, .unset] [(.long (x5 + x7))])) (fun t k => XS.ladd X_40.here hx rfl (hb hby at_58) rfl k) ?_
      refine own_step (T' := T_40) (f' := (mkF m 61 #[.val (.long q1), .second, .val (.long q2), .second, .val (.int p3), .val (.long x5), .second, .val (.long x7), .second, .val (.int (1 : Int32)), .val (.long (x5 + x7)), .second, .unset, .unset, .unset, .unset, .unset, .unset, .unset, .unset, .unset] [])) (fun t k => XS.lstore X_40.here hx rfl (hb hby at_59) rfl (l' := #[.val (.long q1), .second, .val (.long q2), .second, .val (.int p3), .val (.long x5), .second, .val (.long x7), .second, .val (.int (1 : Int32)), .val (.long (x5 + x7)), .second, .unset, .unset, .unset, .unset, .unset, .unset, .unset, .unset, .unset]) rfl k) ?_
      refine own_step (T' := T_40) (f' := (mkF m 63 #[.val (.long q1), .second, .val (.long q2), .second, .val (.int p3), .val (.long x5), .second, .val (.long x7), .second, .val (.int (1 : Int32)), .val (.long (x5 + x7)), .second, .unset, .unset, .unset, .unset, .unset, .unset, .unset, .unset, .unset] [(.long x5)])) (fun t k => XS.lload X_40.here hx rfl (hb hby at_61) rfl k) ?_
      refine own_step (T' := T_40) (f' := (mkF m 65 #[.val (.long q1), .second, .val (.long q2), .second, .val (.int p3), .val (.long x5), .second, .val (.long x7), .second, .val (.int (1 : Int32)), .val (.long (x5 + x7)), .second, .unset, .unset, .unset, .unset, .unset, .unset, .unset, .unset, .unset] [(.long x7), (.long x5)])) (fun t k => XS.lload X_40.here hx rfl (hb hby at_63) rfl k) ?_
      refine own_step (T' := T_40) (f' := (mkF m 66 #[.val (.long q1), .second, .val (.long q2), .second, .val (.int p3), .val (.long x5), .second, .val (.long x7), .second, .val (.int (1 : Int32)), .val (.long (x5 + x7)), .second, .unset, .unset, .unset, .unset, .unset, .unset, .unset, .unset, .unset] [(.long (x5 * x7))])) (fun t k => XS.lmul X_40.here hx rfl (hb hby at_65) rfl k) ?_
      refine own_step (T' := T_40) (f' := (mkF m 68 #[.val (.long q1), .second, .val (.long q2), .second, .val (.int p3), .val (.long x5), .second, .val (.long x7), .second, .val (.int (1 : Int32)), .val (.long (x5 + x7)), .second, .val (.long (x5 * x7)), .second, .unset, .unset, .unset, .unset, .unset, .unset, .unset] [])) (fun t k => XS.lstore X_40.here hx rfl (hb hby at_66) rfl (l' := #[.val (.long q1), .second, .val (.long q2), .second, .val (.int p3), .val (.long x5), .second, .val (.long x7), .second, .val (.int (1 : Int32)), .val (.long (x5 + x7)), .second, .val (.long (x5 * x7)), .second, .unset, .unset, .unset, .unset, .unset, .unset, .unset]) rfl k) ?_
      refine own_step (T' := T_40) (f' := (mkF m 70 #[.val (.long q1), .second, .val (.long q2), .second, .val (.int p3), .val (.long x5), .second, .val (.long x7), .second, .val (.int (1 : Int32)), .val (.long (x5 + x7)), .second, .val (.long (x5 * x7)), .second, .unset, .unset, .unset, .unset, .unset, .unset, .unset] [(.long (x5 + x7))])) (fun t k => XS.lload X_40.here hx rfl (hb hby at_68) rfl k) ?_
      refine own_step (T' := T_40) (f' := (mkF m 73 #[.val (.long q1), .second, .val (.long q2), .second, .val (.int p3), .val (.long x5), .second, .val (.long x7), .second, .val (.int (1 : Int32)), .val (.long (x5 + x7)), .second, .val (.long (x5 * x7)), .second, .unset, .unset, .unset, .unset, .unset, .unset, .unset] [(.long (2 : Int64)), (.long (x5 + x7))])) (fun t k => X_40.ldc2Long hx hown (mvT hZ (hw _ (List.mem_of_getElem? (i := 1) rfl))) (g := (mkF m 70 #[.val (.long q1), .second, .val (.long q2), .second, .val (.int p3), .val (.long x5), .second, .val (.long x7), .second, .val (.int (1 : Int32)), .val (.long (x5 + x7)), .second, .val (.long (x5 * x7)), .second, .unset, .unset, .unset, .unset, .unset, .unset, .unset] [(.long (x5 + x7))])) rfl (hb hby at_70) _ k) ?_
      refine own_step (T' := T_40) (f' := (mkF m 74 #[.val (.long q1), .second, .val (.long q2), .second, .val (.int p3), .val (.long x5), .second, .val (.long x7), .second, .val (.int (1 : Int32)), .val (.long (x5 + x7)), .second, .val (.long (x5 * x7)), .second, .unset, .unset, .unset, .unset, .unset, .unset, .unset] [(.int (lcmpW (x5 + x7) (2 : Int64)))])) (fun t k => XS.lcmp X_40.here hx rfl (hb hby at_73) rfl k) ?_
      by_cases hc74_7 : (x5 + x7) = (2 : Int64)
      · skip
        refine own_step (T' := T_40) (f' := (mkF m 77 #[.val (.long q1), .second, .val (.long q2), .second, .val (.int p3), .val (.long x5), .second, .val (.long x7), .second, .val (.int (1 : Int32)), .val (.long (x5 + x7)), .second, .val (.long (x5 * x7)), .second, .unset, .unset, .unset, .unset, .unset, .unset, .unset] [])) (fun t k => XS.ifNo X_40.here hx rfl (hb hby at_74) rfl (own_lceq hc74_7).2 k) ?_
        refine own_step (T' := T_40) (f' := (mkF m 78 #[.val (.long q1), .second, .val (.long q2), .second, .val (.int p3), .val (.long x5), .second, .val (.long x7), .second, .val (.int (1 : Int32)), .val (.long (x5 + x7)), .second, .val (.long (x5 * x7)), .second, .unset, .unset, .unset, .unset, .unset, .unset, .unset] [(.int (1 : Int32))])) (fun t k => XS.iconst X_40.here hx rfl (hb hby at_77) k) ?_
        refine own_step (T' := T_40) (f' := (mkF m 82 #[.val (.long q1), .second, .val (.long q2), .second, .val (.int p3), .val (.long x5), .second, .val (.long x7), .second, .val (.int (1 : Int32)), .val (.long (x5 + x7)), .second, .val (.long (x5 * x7)), .second, .unset, .unset, .unset, .unset, .unset, .unset, .unset] [(.int (1 : Int32))])) (fun t k => XS.goto X_40.here hx rfl (pc0 := 78) (pc' := 82) rfl (hb hby at_78) (by decide) (by decide) k) ?_
        refine own_step (T' := T_40) (f' := (mkF m 84 #[.val (.long q1), .second, .val (.long q2), .second, .val (.int p3), .val (.long x5), .second, .val (.long x7), .second, .val (.int (1 : Int32)), .val (.long (x5 + x7)), .second, .val (.long (x5 * x7)), .second, .val (.int (1 : Int32)), .unset, .unset, .unset, .unset, .unset, .unset] [])) (fun t k => XS.istore X_40.here hx rfl (hb hby at_82) rfl (l' := #[.val (.long q1), .second, .val (.long q2), .second, .val (.int p3), .val (.long x5), .second, .val (.long x7), .second, .val (.int (1 : Int32)), .val (.long (x5 + x7)), .second, .val (.long (x5 * x7)), .second, .val (.int (1 : Int32)), .unset, .unset, .unset, .unset, .unset, .unset]) rfl k) ?_
        refine own_step (T' := T_40) (f' := (mkF m 86 #[.val (.long q1), .second, .val (.long q2), .second, .val (.int p3), .val (.long x5), .second, .val (.long x7), .second, .val (.int (1 : Int32)), .val (.long (x5 + x7)), .second, .val (.long (x5 * x7)), .second, .val (.int (1 : Int32)), .unset, .unset, .unset, .unset, .unset, .unset] [(.int (1 : Int32))])) (fun t k => XS.iload X_40.here hx rfl (hb hby at_84) rfl k) ?_
        refine own_step (T' := T_40) (f' := (mkF m 89 #[.val (.long q1), .second, .val (.long q2), .second, .val (.int p3), .val (.long x5), .second, .val (.long x7), .second, .val (.int (1 : Int32)), .val (.long (x5 + x7)), .second, .val (.long (x5 * x7)), .second, .val (.int (1 : Int32)), .unset, .unset, .unset, .unset, .unset, .unset] [])) (fun t k => XS.ifNo X_40.here hx rfl (hb hby at_86) rfl ((if0 _ _).trans (feq (by decide : ¬ ((1 : Int32) = (0 : Int32)))).1) k) ?_
        refine own_step (T' := T_40) (f' := (mkF m 90 #[.val (.long q1), .second, .val (.long q2), .second, .val (.int p3), .val (.long x5), .second, .val (.long x7), .second, .val (.int (1 : Int32)), .val (.long (x5 + x7)), .second, .val (.long (x5 * x7)), .second, .val (.int (1 : Int32)), .unset, .unset, .unset, .unset, .unset, .unset] [(.long (0 : Int64))])) (fun t k => XS.lconst X_40.here hx rfl (hb hby at_89) k) ?_
        refine own_step (T' := T_40) (f' := (mkF m 92 #[.val (.long q1), .second, .val (.long q2), .second, .val (.int p3), .val (.long x5), .second, .val (.long x7), .second, .val (.int (1 : Int32)), .val (.long (x5 + x7)), .second, .val (.long (x5 * x7)), .second, .val (.int (1 : Int32)), .val (.long (0 : Int64)), .second, .unset, .unset, .unset, .unset] [])) (fun t k => XS.lstore X_40.here hx rfl (hb hby at_90) rfl (l' := #[.val (.long q1), .second, .val (.long q2), .second, .val (.int p3), .val (.long x5), .second, .val (.long x7), .second, .val (.int (1 : Int32)), .val (.long (x5 + x7)), .second, .val (.long (x5 * x7)), .second, .val (.int (1 : Int32)), .val (.long (0 : Int64)), .second, .unset, .unset, .unset, .unset]) rfl k) ?_
        refine own_step (T' := T_40) (f' := (mkF m 111 #[.val (.long q1), .second, .val (.long q2), .second, .val (.int p3), .val (.long x5), .second, .val (.long x7), .second, .val (.int (1 : Int32)), .val (.long (x5 + x7)), .second, .val (.long (x5 * x7)), .second, .val (.int (1 : Int32)), .val (.long (0 : Int64)), .second, .unset, .unset, .unset, .unset] [])) (fun t k => XS.goto X_40.here hx rfl (pc0 := 92) (pc' := 111) rfl (hb hby at_92) (by decide) (by decide) k) ?_
        refine own_step (T' := T_40) (f' := (mkF m 113 #[.val (.long q1), .second, .val (.long q2), .second, .val (.int p3), .val (.long x5), .second, .val (.long x7), .second, .val (.int (1 : Int32)), .val (.long (x5 + x7)), .second, .val (.long (x5 * x7)), .second, .val (.int (1 : Int32)), .val (.long (0 : Int64)), .second, .unset, .unset, .unset, .unset] [(.long x5)])) (fun t k => XS.lload X_40.here hx rfl (hb hby at_111) rfl k) ?_
        refine own_step (T' := T_40) (f' := (mkF m 115 #[.val (.long q1), .second, .val (.long q2), .second, .val (.int p3), .val (.long x5), .second, .val (.long x7), .second, .val (.int (1 : Int32)), .val (.long (x5 + x7)), .second, .val (.long (x5 * x7)), .second, .val (.int (1 : Int32)), .val (.long (0 : Int64)), .second, .unset, .unset, .unset, .unset] [(.long x7), (.long x5)])) (fun t k => XS.lload X_40.here hx rfl (hb hby at_113) rfl k) ?_
        refine own_step (T' := T_40) (f' := (mkF m 117 #[.val (.long q1), .second, .val (.long q2), .second, .val (.int p3), .val (.long x5), .second, .val (.long x7), .second, .val (.int (1 : Int32)), .val (.long (x5 + x7)), .second, .val (.long (x5 * x7)), .second, .val (.int (1 : Int32)), .val (.long (0 : Int64)), .second, .unset, .unset, .unset, .unset] [(.int (1 : Int32)), (.long x7), (.long x5)])) (fun t k => XS.iload X_40.here hx rfl (hb hby at_115) rfl k) ?_
        obtain ⟨_, _, ⟨T8, L8, k8, n8⟩, -, X8, ⟨Lc8, hQ8, l8, y8, z8⟩, st8⟩ := Jvm.LawKit.callS X_40 hx (y := (⟨"com/example/umriss/umriss/runtime/NumberValue", "steps", "(JJZ)J"⟩ : MethodName)) hown (mvT hZ (hw _ (List.mem_of_getElem? (i := 2) rfl))) (mvT hZ (hw _ (List.mem_of_getElem? (i := 3) rfl))) (mvT hZ (hw _ (List.mem_of_getElem? (i := 4) rfl))) (mvT hZ (hw _ (List.mem_of_getElem? (i := 5) rfl))) (by decide) (backOf (W := 0) (rm1 l Z a0 hw [] x5 x7 (1 : Int32) h0 n0 Z0) hZ (hw _ (List.mem_of_getElem? (i := 5) rfl)) (hw _ (List.mem_of_getElem? (i := 4) rfl)) (by decide) (by decide)) (g := (mkF m 117 #[.val (.long q1), .second, .val (.long q2), .second, .val (.int p3), .val (.long x5), .second, .val (.long x7), .second, .val (.int (1 : Int32)), .val (.long (x5 + x7)), .second, .val (.long (x5 * x7)), .second, .val (.int (1 : Int32)), .val (.long (0 : Int64)), .second, .unset, .unset, .unset, .unset] [(.int (1 : Int32)), (.long x7), (.long x5)])) rfl (by rw [hml]; rfl) (argsL := [(.long x5), (.long x7), (.int (1 : Int32))]) (rest := []) (lenOf pd_0_0 rfl) rfl (by show 2 * 0 + _ ≤ _; exact Nat.le_of_eq rfl) (hb hby at_117) (fun _ _ => ⟨rfl, e_40, (by decide : 0 + 0 ≤ _), (by decide : 0 + 0 ≤ _)⟩)
        dsimp only [Pt.U, Pt.locs, Pt.cells, Pt.slots] at X8 l8 y8 z8 st8 hQ8
        subst l8 y8 z8
        obtain ⟨rfl, N8q, E8⟩ := hQ8
        have N8 := Fr.app N_40 N8q
        refine own_step (T' := T8) (f' := (mkF m 120 #[.val (.long q1), .second, .val (.long q2), .second, .val (.int p3), .val (.long x5), .second, .val (.long x7), .second, .val (.int (1 : Int32)), .val (.long (x5 + x7)), .second, .val (.long (x5 * x7)), .second, .val (.int (1 : Int32)), .val (.long (0 : Int64)), .second, .unset, .unset, .unset, .unset] [(.long (own_steps x5 x7 (1 : Int32)))])) (fun t k => st8 t k) ?_
        refine own_step (T' := T8) (f' := (mkF m 122 #[.val (.long q1), .second, .val (.long q2), .second, .val (.int p3), .val (.long x5), .second, .val (.long x7), .second, .val (.int (1 : Int32)), .val (.long (x5 + x7)), .second, .val (.long (x5 * x7)), .second, .val (.int (1 : Int32)), .val (.long (0 : Int64)), .second, .val (.long (own_steps x5 x7 (1 : Int32))), .second, .unset, .unset] [])) (fun t k => XS.lstore X8.here hx rfl (hb hby at_120) rfl (l' := #[.val (.long q1), .second, .val (.long q2), .second, .val (.int p3), .val (.long x5), .second, .val (.long x7), .second, .val (.int (1 : Int32)), .val (.long (x5 + x7)), .second, .val (.long (x5 * x7)), .second, .val (.int (1 : Int32)), .val (.long (0 : Int64)), .second, .val (.long (own_steps x5 x7 (1 : Int32))), .second, .unset, .unset]) rfl k) ?_
        refine own_step (T' := T8) (f' := (mkF m 124 #[.val (.long q1), .second, .val (.long q2), .second, .val (.int p3), .val (.long x5), .second, .val (.long x7), .second, .val (.int (1 : Int32)), .val (.long (x5 + x7)), .second, .val (.long (x5 * x7)), .second, .val (.int (1 : Int32)), .val (.long (0 : Int64)), .second, .val (.long (own_steps x5 x7 (1 : Int32))), .second, .unset, .unset] [(.long x7)])) (fun t k => XS.lload X8.here hx rfl (hb hby at_122) rfl k) ?_
        refine own_step (T' := T8) (f' := (mkF m 126 #[.val (.long q1), .second, .val (.long q2), .second, .val (.int p3), .val (.long x5), .second, .val (.long x7), .second, .val (.int (1 : Int32)), .val (.long (x5 + x7)), .second, .val (.long (x5 * x7)), .second, .val (.int (1 : Int32)), .val (.long (0 : Int64)), .second, .val (.long (own_steps x5 x7 (1 : Int32))), .second, .unset, .unset] [(.long x5), (.long x7)])) (fun t k => XS.lload X8.here hx rfl (hb hby at_124) rfl k) ?_
        refine own_step (T' := T8) (f' := (mkF m 128 #[.val (.long q1), .second, .val (.long q2), .second, .val (.int p3), .val (.long x5), .second, .val (.long x7), .second, .val (.int (1 : Int32)), .val (.long (x5 + x7)), .second, .val (.long (x5 * x7)), .second, .val (.int (1 : Int32)), .val (.long (0 : Int64)), .second, .val (.long (own_steps x5 x7 (1 : Int32))), .second, .unset, .unset] [(.int (1 : Int32)), (.long x5), (.long x7)])) (fun t k => XS.iload X8.here hx rfl (hb hby at_126) rfl k) ?_
        obtain ⟨_, _, ⟨T9, L9, k9, n9⟩, -, X9, ⟨Lc9, hQ9, l9, y9, z9⟩, st9⟩ := Jvm.LawKit.callS X8 hx (y := (⟨"com/example/umriss/umriss/runtime/NumberValue", "steps", "(JJZ)J"⟩ : MethodName)) hown (mvT hZ (hw _ (List.mem_of_getElem? (i := 2) rfl))) (mvT hZ (hw _ (List.mem_of_getElem? (i := 3) rfl))) (mvT hZ (hw _ (List.mem_of_getElem? (i := 4) rfl))) (mvT hZ (hw _ (List.mem_of_getElem? (i := 5) rfl))) (by decide) (backOf (W := 0) (rm1 l Z a0 hw [] x7 x5 (1 : Int32) h0 n0 Z0) hZ (hw _ (List.mem_of_getElem? (i := 5) rfl)) (hw _ (List.mem_of_getElem? (i := 4) rfl)) (by decide) (by decide)) (g := (mkF m 128 #[.val (.long q1), .second, .val (.long q2), .second, .val (.int p3), .val (.long x5), .second, .val (.long x7), .second, .val (.int (1 : Int32)), .val (.long (x5 + x7)), .second, .val (.long (x5 * x7)), .second, .val (.int (1 : Int32)), .val (.long (0 : Int64)), .second, .val (.long (own_steps x5 x7 (1 : Int32))), .second, .unset, .unset] [(.int (1 : Int32)), (.long x5), (.long x7)])) rfl (by rw [hml]; rfl) (argsL := [(.long x7), (.long x5), (.int (1 : Int32))]) (rest := []) (lenOf pd_0_0 rfl) rfl (by show 2 * 0 + _ ≤ _; exact Nat.le_of_eq rfl) (hb hby at_128) (fun _ _ => ⟨rfl, E8, (by decide : 0 + 0 ≤ _), (by decide : 0 + 0 ≤ _)⟩)
        dsimp only [Pt.U, Pt.locs, Pt.cells, Pt.slots] at X9 l9 y9 z9 st9 hQ9
        subst l9 y9 z9
        obtain ⟨rfl, N9q, E9⟩ := hQ9
        have N9 := Fr.app N8 N9q
        refine own_step (T' := T9) (f' := (mkF m 131 #[.val (.long q1), .second, .val (.long q2), .second, .val (.int p3), .val (.long x5), .second, .val (.long x7), .second, .val (.int (1 : Int32)), .val (.long (x5 + x7)), .second, .val (.long (x5 * x7)), .second, .val (.int (1 : Int32)), .val (.long (0 : Int64)), .second, .val (.long (own_steps x5 x7 (1 : Int32))), .second, .unset, .unset] [(.long (own_steps x7 x5 (1 : Int32)))])) (fun t k => st9 t k) ?_
        refine own_step (T' := T9) (f' := (mkF m 133 #[.val (.long q1), .second, .val (.long q2), .second, .val (.int p3), .val (.long x5), .second, .val (.long x7), .second, .val (.int (1 : Int32)), .val (.long (x5 + x7)), .second, .val (.long (x5 * x7)), .second, .val (.int (1 : Int32)), .val (.long (0 : Int64)), .second, .val (.long (own_steps x5 x7 (1 : Int32))), .second, .val (.long (own_steps x7 x5 (1 : Int32))), .second] [])) (fun t k => XS.lstore X9.here hx rfl (hb hby at_131) rfl (l' := #[.val (.long q1), .second, .val (.long q2), .second, .val (.int p3), .val (.long x5), .second, .val (.long x7), .second, .val (.int (1 : Int32)), .val (.long (x5 + x7)), .second, .val (.long (x5 * x7)), .second, .val (.int (1 : Int32)), .val (.long (0 : Int64)), .second, .val (.long (own_steps x5 x7 (1 : Int32))), .second, .val (.long (own_steps x7 x5 (1 : Int32))), .second]) rfl k) ?_
        refine own_step (T' := T9) (f' := (mkF m 135 #[.val (.long q1), .second, .val (.long q2), .second, .val (.int p3), .val (.long x5), .second, .val (.long x7), .second, .val (.int (1 : Int32)), .val (.long (x5 + x7)), .second, .val (.long (x5 * x7)), .second, .val (.int (1 : Int32)), .val (.long (0 : Int64)), .second, .val (.long (own_steps x5 x7 (1 : Int32))), .second, .val (.long (own_steps x7 x5 (1 : Int32))), .second] [(.long (own_steps x5 x7 (1 : Int32)))])) (fun t k => XS.lload X9.here hx rfl (hb hby at_133) rfl k) ?_
        refine own_step (T' := T9) (f' := (mkF m 137 #[.val (.long q1), .second, .val (.long q2), .second, .val (.int p3), .val (.long x5), .second, .val (.long x7), .second, .val (.int (1 : Int32)), .val (.long (x5 + x7)), .second, .val (.long (x5 * x7)), .second, .val (.int (1 : Int32)), .val (.long (0 : Int64)), .second, .val (.long (own_steps x5 x7 (1 : Int32))), .second, .val (.long (own_steps x7 x5 (1 : Int32))), .second] [(.long (0 : Int64)), (.long (own_steps x5 x7 (1 : Int32)))])) (fun t k => XS.lload X9.here hx rfl (hb hby at_135) rfl k) ?_
        refine own_step (T' := T9) (f' := (mkF m 138 #[.val (.long q1), .second, .val (.long q2), .second, .val (.int p3), .val (.long x5), .second, .val (.long x7), .second, .val (.int (1 : Int32)), .val (.long (x5 + x7)), .second, .val (.long (x5 * x7)), .second, .val (.int (1 : Int32)), .val (.long (0 : Int64)), .second, .val (.long (own_steps x5 x7 (1 : Int32))), .second, .val (.long (own_steps x7 x5 (1 : Int32))), .second] [(.int (lcmpW (own_steps x5 x7 (1 : Int32)) (0 : Int64)))])) (fun t k => XS.lcmp X9.here hx rfl (hb hby at_137) rfl k) ?_
        refine own_step (T' := T9) (f' := (mkF m 141 #[.val (.long q1), .second, .val (.long q2), .second, .val (.int p3), .val (.long x5), .second, .val (.long x7), .second, .val (.int (1 : Int32)), .val (.long (x5 + x7)), .second, .val (.long (x5 * x7)), .second, .val (.int (1 : Int32)), .val (.long (0 : Int64)), .second, .val (.long (own_steps x5 x7 (1 : Int32))), .second, .val (.long (own_steps x7 x5 (1 : Int32))), .second] [])) (fun t k => XS.ifNo X9.here hx rfl (hb hby at_138) rfl (own_lceq (own_s0 b5 b7 hc74_7 _)).2 k) ?_
        refine own_step (T' := T9) (f' := (mkF m 143 #[.val (.long q1), .second, .val (.long q2), .second, .val (.int p3), .val (.long x5), .second, .val (.long x7), .second, .val (.int (1 : Int32)), .val (.long (x5 + x7)), .second, .val (.long (x5 * x7)), .second, .val (.int (1 : Int32)), .val (.long (0 : Int64)), .second, .val (.long (own_steps x5 x7 (1 : Int32))), .second, .val (.long (own_steps x7 x5 (1 : Int32))), .second] [(.long (own_steps x7 x5 (1 : Int32)))])) (fun t k => XS.lload X9.here hx rfl (hb hby at_141) rfl k) ?_
        refine own_step (T' := T9) (f' := (mkF m 145 #[.val (.long q1), .second, .val (.long q2), .second, .val (.int p3), .val (.long x5), .second, .val (.long x7), .second, .val (.int (1 : Int32)), .val (.long (x5 + x7)), .second, .val (.long (x5 * x7)), .second, .val (.int (1 : Int32)), .val (.long (0 : Int64)), .second, .val (.long (own_steps x5 x7 (1 : Int32))), .second, .val (.long (own_steps x7 x5 (1 : Int32))), .second] [(.long (own_steps x5 x7 (1 : Int32))), (.long (own_steps x7 x5 (1 : Int32)))])) (fun t k => XS.lload X9.here hx rfl (hb hby at_143) rfl k) ?_
        refine own_step (T' := T9) (f' := (mkF m 146 #[.val (.long q1), .second, .val (.long q2), .second, .val (.int p3), .val (.long x5), .second, .val (.long x7), .second, .val (.int (1 : Int32)), .val (.long (x5 + x7)), .second, .val (.long (x5 * x7)), .second, .val (.int (1 : Int32)), .val (.long (0 : Int64)), .second, .val (.long (own_steps x5 x7 (1 : Int32))), .second, .val (.long (own_steps x7 x5 (1 : Int32))), .second] [(.int (lcmpW (own_steps x7 x5 (1 : Int32)) (own_steps x5 x7 (1 : Int32))))])) (fun t k => XS.lcmp X9.here hx rfl (hb hby at_145) rfl k) ?_
        refine own_step (T' := T9) (f' := (mkF m 149 #[.val (.long q1), .second, .val (.long q2), .second, .val (.int p3), .val (.long x5), .second, .val (.long x7), .second, .val (.int (1 : Int32)), .val (.long (x5 + x7)), .second, .val (.long (x5 * x7)), .second, .val (.int (1 : Int32)), .val (.long (0 : Int64)), .second, .val (.long (own_steps x5 x7 (1 : Int32))), .second, .val (.long (own_steps x7 x5 (1 : Int32))), .second] [])) (fun t k => XS.ifNo X9.here hx rfl (hb hby at_146) rfl (own_lceq (own_sw _ _ _)).2 k) ?_
        refine own_step (T' := T9) (f' := (mkF m 151 #[.val (.long q1), .second, .val (.long q2), .second, .val (.int p3), .val (.long x5), .second, .val (.long x7), .second, .val (.int (1 : Int32)), .val (.long (x5 + x7)), .second, .val (.long (x5 * x7)), .second, .val (.int (1 : Int32)), .val (.long (0 : Int64)), .second, .val (.long (own_steps x5 x7 (1 : Int32))), .second, .val (.long (own_steps x7 x5 (1 : Int32))), .second] [(.long (own_steps x5 x7 (1 : Int32)))])) (fun t k => XS.lload X9.here hx rfl (hb hby at_149) rfl k) ?_
        refine own_step (T' := T9) (f' := (mkF m 152 #[.val (.long q1), .second, .val (.long q2), .second, .val (.int p3), .val (.long x5), .second, .val (.long x7), .second, .val (.int (1 : Int32)), .val (.long (x5 + x7)), .second, .val (.long (x5 * x7)), .second, .val (.int (1 : Int32)), .val (.long (0 : Int64)), .second, .val (.long (own_steps x5 x7 (1 : Int32))), .second, .val (.long (own_steps x7 x5 (1 : Int32))), .second] [(.long (0 : Int64)), (.long (own_steps x5 x7 (1 : Int32)))])) (fun t k => XS.lconst X9.here hx rfl (hb hby at_151) k) ?_
        refine own_step (T' := T9) (f' := (mkF m 153 #[.val (.long q1), .second, .val (.long q2), .second, .val (.int p3), .val (.long x5), .second, .val (.long x7), .second, .val (.int (1 : Int32)), .val (.long (x5 + x7)), .second, .val (.long (x5 * x7)), .second, .val (.int (1 : Int32)), .val (.long (0 : Int64)), .second, .val (.long (own_steps x5 x7 (1 : Int32))), .second, .val (.long (own_steps x7 x5 (1 : Int32))), .second] [(.int (lcmpW (own_steps x5 x7 (1 : Int32)) (0 : Int64)))])) (fun t k => XS.lcmp X9.here hx rfl (hb hby at_152) rfl k) ?_
        refine own_step (T' := T9) (f' := (mkF m 156 #[.val (.long q1), .second, .val (.long q2), .second, .val (.int p3), .val (.long x5), .second, .val (.long x7), .second, .val (.int (1 : Int32)), .val (.long (x5 + x7)), .second, .val (.long (x5 * x7)), .second, .val (.int (1 : Int32)), .val (.long (0 : Int64)), .second, .val (.long (own_steps x5 x7 (1 : Int32))), .second, .val (.long (own_steps x7 x5 (1 : Int32))), .second] [])) (fun t k => XS.ifNo X9.here hx rfl (hb hby at_153) rfl (own_lcnl (own_nn b5 b7 _)).1 k) ?_
        refine own_step (T' := T9) (f' := (mkF m 157 #[.val (.long q1), .second, .val (.long q2), .second, .val (.int p3), .val (.long x5), .second, .val (.long x7), .second, .val (.int (1 : Int32)), .val (.long (x5 + x7)), .second, .val (.long (x5 * x7)), .second, .val (.int (1 : Int32)), .val (.long (0 : Int64)), .second, .val (.long (own_steps x5 x7 (1 : Int32))), .second, .val (.long (own_steps x7 x5 (1 : Int32))), .second] [(.int (1 : Int32))])) (fun t k => XS.iconst X9.here hx rfl (hb hby at_156) k) ?_
        refine own_step (T' := T9) (f' := (mkF m 161 #[.val (.long q1), .second, .val (.long q2), .second, .val (.int p3), .val (.long x5), .second, .val (.long x7), .second, .val (.int (1 : Int32)), .val (.long (x5 + x7)), .second, .val (.long (x5 * x7)), .second, .val (.int (1 : Int32)), .val (.long (0 : Int64)), .second, .val (.long (own_steps x5 x7 (1 : Int32))), .second, .val (.long (own_steps x7 x5 (1 : Int32))), .second] [(.int (1 : Int32))])) (fun t k => XS.goto X9.here hx rfl (pc0 := 157) (pc' := 161) rfl (hb hby at_157) (by decide) (by decide) k) ?_
        exact own_retN X9 hx hlk (t := .boolean) Bd.returns (by simp) (hb hby at_161) (by decide) (by decide) ⟨rfl, N9⟩
      · skip
        refine own_step (T' := T_40) (f' := (mkF m 81 #[.val (.long q1), .second, .val (.long q2), .second, .val (.int p3), .val (.long x5), .second, .val (.long x7), .second, .val (.int (1 : Int32)), .val (.long (x5 + x7)), .second, .val (.long (x5 * x7)), .second, .unset, .unset, .unset, .unset, .unset, .unset, .unset] [])) (fun t k => XS.ifYes X_40.here hx rfl (pc0 := 74) (pc' := 81) rfl (hb hby at_74) rfl (own_lcne hc74_7).2 (by decide) (by decide) k) ?_
        refine own_step (T' := T_40) (f' := (mkF m 82 #[.val (.long q1), .second, .val (.long q2), .second, .val (.int p3), .val (.long x5), .second, .val (.long x7), .second, .val (.int (1 : Int32)), .val (.long (x5 + x7)), .second, .val (.long (x5 * x7)), .second, .unset, .unset, .unset, .unset, .unset, .unset, .unset] [(.int (0 : Int32))])) (fun t k => XS.iconst X_40.here hx rfl (hb hby at_81) k) ?_
        refine own_step (T' := T_40) (f' := (mkF m 84 #[.val (.long q1), .second, .val (.long q2), .second, .val (.int p3), .val (.long x5), .second, .val (.long x7), .second, .val (.int (1 : Int32)), .val (.long (x5 + x7)), .second, .val (.long (x5 * x7)), .second, .val (.int (0 : Int32)), .unset, .unset, .unset, .unset, .unset, .unset] [])) (fun t k => XS.istore X_40.here hx rfl (hb hby at_82) rfl (l' := #[.val (.long q1), .second, .val (.long q2), .second, .val (.int p3), .val (.long x5), .second, .val (.long x7), .second, .val (.int (1 : Int32)), .val (.long (x5 + x7)), .second, .val (.long (x5 * x7)), .second, .val (.int (0 : Int32)), .unset, .unset, .unset, .unset, .unset, .unset]) rfl k) ?_
        refine own_step (T' := T_40) (f' := (mkF m 86 #[.val (.long q1), .second, .val (.long q2), .second, .val (.int p3), .val (.long x5), .second, .val (.long x7), .second, .val (.int (1 : Int32)), .val (.long (x5 + x7)), .second, .val (.long (x5 * x7)), .second, .val (.int (0 : Int32)), .unset, .unset, .unset, .unset, .unset, .unset] [(.int (0 : Int32))])) (fun t k => XS.iload X_40.here hx rfl (hb hby at_84) rfl k) ?_
        refine own_step (T' := T_40) (f' := (mkF m 95 #[.val (.long q1), .second, .val (.long q2), .second, .val (.int p3), .val (.long x5), .second, .val (.long x7), .second, .val (.int (1 : Int32)), .val (.long (x5 + x7)), .second, .val (.long (x5 * x7)), .second, .val (.int (0 : Int32)), .unset, .unset, .unset, .unset, .unset, .unset] [])) (fun t k => XS.ifYes X_40.here hx rfl (pc0 := 86) (pc' := 95) rfl (hb hby at_86) rfl ((if0 _ _).trans (teq (by decide : (0 : Int32) = (0 : Int32))).1) (by decide) (by decide) k) ?_
        refine own_step (T' := T_40) (f' := (mkF m 97 #[.val (.long q1), .second, .val (.long q2), .second, .val (.int p3), .val (.long x5), .second, .val (.long x7), .second, .val (.int (1 : Int32)), .val (.long (x5 + x7)), .second, .val (.long (x5 * x7)), .second, .val (.int (0 : Int32)), .unset, .unset, .unset, .unset, .unset, .unset] [(.int (1 : Int32))])) (fun t k => XS.iload X_40.here hx rfl (hb hby at_95) rfl k) ?_
        refine own_step (T' := T_40) (f' := (mkF m 100 #[.val (.long q1), .second, .val (.long q2), .second, .val (.int p3), .val (.long x5), .second, .val (.long x7), .second, .val (.int (1 : Int32)), .val (.long (x5 + x7)), .second, .val (.long (x5 * x7)), .second, .val (.int (0 : Int32)), .unset, .unset, .unset, .unset, .unset, .unset] [])) (fun t k => XS.ifNo X_40.here hx rfl (hb hby at_97) rfl ((if0 _ _).trans (feq (by decide : ¬ ((1 : Int32) = (0 : Int32)))).1) k) ?_
        refine own_step (T' := T_40) (f' := (mkF m 102 #[.val (.long q1), .second, .val (.long q2), .second, .val (.int p3), .val (.long x5), .second, .val (.long x7), .second, .val (.int (1 : Int32)), .val (.long (x5 + x7)), .second, .val (.long (x5 * x7)), .second, .val (.int (0 : Int32)), .unset, .unset, .unset, .unset, .unset, .unset] [(.long (x5 + x7))])) (fun t k => XS.lload X_40.here hx rfl (hb hby at_100) rfl k) ?_
        refine own_step (T' := T_40) (f' := (mkF m 104 #[.val (.long q1), .second, .val (.long q2), .second, .val (.int p3), .val (.long x5), .second, .val (.long x7), .second, .val (.int (1 : Int32)), .val (.long (x5 + x7)), .second, .val (.long (x5 * x7)), .second, .val (.int (0 : Int32)), .val (.long (x5 + x7)), .second, .unset, .unset, .unset, .unset] [])) (fun t k => XS.lstore X_40.here hx rfl (hb hby at_102) rfl (l' := #[.val (.long q1), .second, .val (.long q2), .second, .val (.int p3), .val (.long x5), .second, .val (.long x7), .second, .val (.int (1 : Int32)), .val (.long (x5 + x7)), .second, .val (.long (x5 * x7)), .second, .val (.int (0 : Int32)), .val (.long (x5 + x7)), .second, .unset, .unset, .unset, .unset]) rfl k) ?_
        refine own_step (T' := T_40) (f' := (mkF m 111 #[.val (.long q1), .second, .val (.long q2), .second, .val (.int p3), .val (.long x5), .second, .val (.long x7), .second, .val (.int (1 : Int32)), .val (.long (x5 + x7)), .second, .val (.long (x5 * x7)), .second, .val (.int (0 : Int32)), .val (.long (x5 + x7)), .second, .unset, .unset, .unset, .unset] [])) (fun t k => XS.goto X_40.here hx rfl (pc0 := 104) (pc' := 111) rfl (hb hby at_104) (by decide) (by decide) k) ?_
        refine own_step (T' := T_40) (f' := (mkF m 113 #[.val (.long q1), .second, .val (.long q2), .second, .val (.int p3), .val (.long x5), .second, .val (.long x7), .second, .val (.int (1 : Int32)), .val (.long (x5 + x7)), .second, .val (.long (x5 * x7)), .second, .val (.int (0 : Int32)), .val (.long (x5 + x7)), .second, .unset, .unset, .unset, .unset] [(.long x5)])) (fun t k => XS.lload X_40.here hx rfl (hb hby at_111) rfl k) ?_
        refine own_step (T' := T_40) (f' := (mkF m 115 #[.val (.long q1), .second, .val (.long q2), .second, .val (.int p3), .val (.long x5), .second, .val (.long x7), .second, .val (.int (1 : Int32)), .val (.long (x5 + x7)), .second, .val (.long (x5 * x7)), .second, .val (.int (0 : Int32)), .val (.long (x5 + x7)), .second, .unset, .unset, .unset, .unset] [(.long x7), (.long x5)])) (fun t k => XS.lload X_40.here hx rfl (hb hby at_113) rfl k) ?_
        refine own_step (T' := T_40) (f' := (mkF m 117 #[.val (.long q1), .second, .val (.long q2), .second, .val (.int p3), .val (.long x5), .second, .val (.long x7), .second, .val (.int (1 : Int32)), .val (.long (x5 + x7)), .second, .val (.long (x5 * x7)), .second, .val (.int (0 : Int32)), .val (.long (x5 + x7)), .second, .unset, .unset, .unset, .unset] [(.int (1 : Int32)), (.long x7), (.long x5)])) (fun t k => XS.iload X_40.here hx rfl (hb hby at_115) rfl k) ?_
        obtain ⟨_, _, ⟨T10, L10, k10, n10⟩, -, X10, ⟨Lc10, hQ10, l10, y10, z10⟩, st10⟩ := Jvm.LawKit.callS X_40 hx (y := (⟨"com/example/umriss/umriss/runtime/NumberValue", "steps", "(JJZ)J"⟩ : MethodName)) hown (mvT hZ (hw _ (List.mem_of_getElem? (i := 2) rfl))) (mvT hZ (hw _ (List.mem_of_getElem? (i := 3) rfl))) (mvT hZ (hw _ (List.mem_of_getElem? (i := 4) rfl))) (mvT hZ (hw _ (List.mem_of_getElem? (i := 5) rfl))) (by decide) (backOf (W := 0) (rm1 l Z a0 hw [] x5 x7 (1 : Int32) h0 n0 Z0) hZ (hw _ (List.mem_of_getElem? (i := 5) rfl)) (hw _ (List.mem_of_getElem? (i := 4) rfl)) (by decide) (by decide)) (g := (mkF m 117 #[.val (.long q1), .second, .val (.long q2), .second, .val (.int p3), .val (.long x5), .second, .val (.long x7), .second, .val (.int (1 : Int32)), .val (.long (x5 + x7)), .second, .val (.long (x5 * x7)), .second, .val (.int (0 : Int32)), .val (.long (x5 + x7)), .second, .unset, .unset, .unset, .unset] [(.int (1 : Int32)), (.long x7), (.long x5)])) rfl (by rw [hml]; rfl) (argsL := [(.long x5), (.long x7), (.int (1 : Int32))]) (rest := []) (lenOf pd_0_0 rfl) rfl (by show 2 * 0 + _ ≤ _; exact Nat.le_of_eq rfl) (hb hby at_117) (fun _ _ => ⟨rfl, e_40, (by decide : 0 + 0 ≤ _), (by decide : 0 + 0 ≤ _)⟩)
        dsimp only [Pt.U, Pt.locs, Pt.cells, Pt.slots] at X10 l10 y10 z10 st10 hQ10
        subst l10 y10 z10
        obtain ⟨rfl, N10q, E10⟩ := hQ10
        have N10 := Fr.app N_40 N10q
        refine own_step (T' := T10) (f' := (mkF m 120 #[.val (.long q1), .second, .val (.long q2), .second, .val (.int p3), .val (.long x5), .second, .val (.long x7), .second, .val (.int (1 : Int32)), .val (.long (x5 + x7)), .second, .val (.long (x5 * x7)), .second, .val (.int (0 : Int32)), .val (.long (x5 + x7)), .second, .unset, .unset, .unset, .unset] [(.long (own_steps x5 x7 (1 : Int32)))])) (fun t k => st10 t k) ?_
        refine own_step (T' := T10) (f' := (mkF m 122 #[.val (.long q1), .second, .val (.long q2), .second, .val (.int p3), .val (.long x5), .second, .val (.long x7), .second, .val (.int (1 : Int32)), .val (.long (x5 + x7)), .second, .val (.long (x5 * x7)), .second, .val (.int (0 : Int32)), .val (.long (x5 + x7)), .second, .val (.long (own_steps x5 x7 (1 : Int32))), .second, .unset, .unset] [])) (fun t k => XS.lstore X10.here hx rfl (hb hby at_120) rfl (l' := #[.val (.long q1), .second, .val (.long q2), .second, .val (.int p3), .val (.long x5), .second, .val (.long x7), .second, .val (.int (1 : Int32)), .val (.long (x5 + x7)), .second, .val (.long (x5 * x7)), .second, .val (.int (0 : Int32)), .val (.long (x5 + x7)), .second, .val (.long (own_steps x5 x7 (1 : Int32))), .second, .unset, .unset]) rfl k) ?_
        refine own_step (T' := T10) (f' := (mkF m 124 #[.val (.long q1), .second, .val (.long q2), .second, .val (.int p3), .val (.long x5), .second, .val (.long x7), .second, .val (.int (1 : Int32)), .val (.long (x5 + x7)), .second, .val (.long (x5 * x7)), .second, .val (.int (0 : Int32)), .val (.long (x5 + x7)), .second, .val (.long (own_steps x5 x7 (1 : Int32))), .second, .unset, .unset] [(.long x7)])) (fun t k => XS.lload X10.here hx rfl (hb hby at_122) rfl k) ?_
        refine own_step (T' := T10) (f' := (mkF m 126 #[.val (.long q1), .second, .val (.long q2), .second, .val (.int p3), .val (.long x5), .second, .val (.long x7), .second, .val (.int (1 : Int32)), .val (.long (x5 + x7)), .second, .val (.long (x5 * x7)), .second, .val (.int (0 : Int32)), .val (.long (x5 + x7)), .second, .val (.long (own_steps x5 x7 (1 : Int32))), .second, .unset, .unset] [(.long x5), (.long x7)])) (fun t k => XS.lload X10.here hx rfl (hb hby at_124) rfl k) ?_
        refine own_step (T' := T10) (f' := (mkF m 128 #[.val (.long q1), .second, .val (.long q2), .second, .val (.int p3), .val (.long x5), .second, .val (.long x7), .second, .val (.int (1 : Int32)), .val (.long (x5 + x7)), .second, .val (.long (x5 * x7)), .second, .val (.int (0 : Int32)), .val (.long (x5 + x7)), .second, .val (.long (own_steps x5 x7 (1 : Int32))), .second, .unset, .unset] [(.int (1 : Int32)), (.long x5), (.long x7)])) (fun t k => XS.iload X10.here hx rfl (hb hby at_126) rfl k) ?_
        obtain ⟨_, _, ⟨T11, L11, k11, n11⟩, -, X11, ⟨Lc11, hQ11, l11, y11, z11⟩, st11⟩ := Jvm.LawKit.callS X10 hx (y := (⟨"com/example/umriss/umriss/runtime/NumberValue", "steps", "(JJZ)J"⟩ : MethodName)) hown (mvT hZ (hw _ (List.mem_of_getElem? (i := 2) rfl))) (mvT hZ (hw _ (List.mem_of_getElem? (i := 3) rfl))) (mvT hZ (hw _ (List.mem_of_getElem? (i := 4) rfl))) (mvT hZ (hw _ (List.mem_of_getElem? (i := 5) rfl))) (by decide) (backOf (W := 0) (rm1 l Z a0 hw [] x7 x5 (1 : Int32) h0 n0 Z0) hZ (hw _ (List.mem_of_getElem? (i := 5) rfl)) (hw _ (List.mem_of_getElem? (i := 4) rfl)) (by decide) (by decide)) (g := (mkF m 128 #[.val (.long q1), .second, .val (.long q2), .second, .val (.int p3), .val (.long x5), .second, .val (.long x7), .second, .val (.int (1 : Int32)), .val (.long (x5 + x7)), .second, .val (.long (x5 * x7)), .second, .val (.int (0 : Int32)), .val (.long (x5 + x7)), .second, .val (.long (own_steps x5 x7 (1 : Int32))), .second, .unset, .unset] [(.int (1 : Int32)), (.long x5), (.long x7)])) rfl (by rw [hml]; rfl) (argsL := [(.long x7), (.long x5), (.int (1 : Int32))]) (rest := []) (lenOf pd_0_0 rfl) rfl (by show 2 * 0 + _ ≤ _; exact Nat.le_of_eq rfl) (hb hby at_128) (fun _ _ => ⟨rfl, E10, (by decide : 0 + 0 ≤ _), (by decide : 0 + 0 ≤ _)⟩)
        dsimp only [Pt.U, Pt.locs, Pt.cells, Pt.slots] at X11 l11 y11 z11 st11 hQ11
        subst l11 y11 z11
        obtain ⟨rfl, N11q, E11⟩ := hQ11
        have N11 := Fr.app N10 N11q
        refine own_step (T' := T11) (f' := (mkF m 131 #[.val (.long q1), .second, .val (.long q2), .second, .val (.int p3), .val (.long x5), .second, .val (.long x7), .second, .val (.int (1 : Int32)), .val (.long (x5 + x7)), .second, .val (.long (x5 * x7)), .second, .val (.int (0 : Int32)), .val (.long (x5 + x7)), .second, .val (.long (own_steps x5 x7 (1 : Int32))), .second, .unset, .unset] [(.long (own_steps x7 x5 (1 : Int32)))])) (fun t k => st11 t k) ?_
        refine own_step (T' := T11) (f' := (mkF m 133 #[.val (.long q1), .second, .val (.long q2), .second, .val (.int p3), .val (.long x5), .second, .val (.long x7), .second, .val (.int (1 : Int32)), .val (.long (x5 + x7)), .second, .val (.long (x5 * x7)), .second, .val (.int (0 : Int32)), .val (.long (x5 + x7)), .second, .val (.long (own_steps x5 x7 (1 : Int32))), .second, .val (.long (own_steps x7 x5 (1 : Int32))), .second] [])) (fun t k => XS.lstore X11.here hx rfl (hb hby at_131) rfl (l' := #[.val (.long q1), .second, .val (.long q2), .second, .val (.int p3), .val (.long x5), .second, .val (.long x7), .second, .val (.int (1 : Int32)), .val (.long (x5 + x7)), .second, .val (.long (x5 * x7)), .second, .val (.int (0 : Int32)), .val (.long (x5 + x7)), .second, .val (.long (own_steps x5 x7 (1 : Int32))), .second, .val (.long (own_steps x7 x5 (1 : Int32))), .second]) rfl k) ?_
        refine own_step (T' := T11) (f' := (mkF m 135 #[.val (.long q1), .second, .val (.long q2), .second, .val (.int p3), .val (.long x5), .second, .val (.long x7), .second, .val (.int (1 : Int32)), .val (.long (x5 + x7)), .second, .val (.long (x5 * x7)), .second, .val (.int (0 : Int32)), .val (.long (x5 + x7)), .second, .val (.long (own_steps x5 x7 (1 : Int32))), .second, .val (.long (own_steps x7 x5 (1 : Int32))), .second] [(.long (own_steps x5 x7 (1 : Int32)))])) (fun t k => XS.lload X11.here hx rfl (hb hby at_133) rfl k) ?_
        refine own_step (T' := T11) (f' := (mkF m 137 #[.val (.long q1), .second, .val (.long q2), .second, .val (.int p3), .val (.long x5), .second, .val (.long x7), .second, .val (.int (1 : Int32)), .val (.long (x5 + x7)), .second, .val (.long (x5 * x7)), .second, .val (.int (0 : Int32)), .val (.long (x5 + x7)), .second, .val (.long (own_steps x5 x7 (1 : Int32))), .second, .val (.long (own_steps x7 x5 (1 : Int32))), .second] [(.long (x5 + x7)), (.long (own_steps x5 x7 (1 : Int32)))])) (fun t k => XS.lload X11.here hx rfl (hb hby at_135) rfl k) ?_
        refine own_step (T' := T11) (f' := (mkF m 138 #[.val (.long q1), .second, .val (.long q2), .second, .val (.int p3), .val (.long x5), .second, .val (.long x7), .second, .val (.int (1 : Int32)), .val (.long (x5 + x7)), .second, .val (.long (x5 * x7)), .second, .val (.int (0 : Int32)), .val (.long (x5 + x7)), .second, .val (.long (own_steps x5 x7 (1 : Int32))), .second, .val (.long (own_steps x7 x5 (1 : Int32))), .second] [(.int (lcmpW (own_steps x5 x7 (1 : Int32)) (x5 + x7)))])) (fun t k => XS.lcmp X11.here hx rfl (hb hby at_137) rfl k) ?_
        refine own_step (T' := T11) (f' := (mkF m 141 #[.val (.long q1), .second, .val (.long q2), .second, .val (.int p3), .val (.long x5), .second, .val (.long x7), .second, .val (.int (1 : Int32)), .val (.long (x5 + x7)), .second, .val (.long (x5 * x7)), .second, .val (.int (0 : Int32)), .val (.long (x5 + x7)), .second, .val (.long (own_steps x5 x7 (1 : Int32))), .second, .val (.long (own_steps x7 x5 (1 : Int32))), .second] [])) (fun t k => XS.ifNo X11.here hx rfl (hb hby at_138) rfl (own_lceq (own_s1 b5 b7 hc74_7)).2 k) ?_
        refine own_step (T' := T11) (f' := (mkF m 143 #[.val (.long q1), .second, .val (.long q2), .second, .val (.int p3), .val (.long x5), .second, .val (.long x7), .second, .val (.int (1 : Int32)), .val (.long (x5 + x7)), .second, .val (.long (x5 * x7)), .second, .val (.int (0 : Int32)), .val (.long (x5 + x7)), .second, .val (.long (own_steps x5 x7 (1 : Int32))), .second, .val (.long (own_steps x7 x5 (1 : Int32))), .second] [(.long (own_steps x7 x5 (1 : Int32)))])) (fun t k => XS.lload X11.here hx rfl (hb hby at_141) rfl k) ?_
        refine own_step (T' := T11) (f' := (mkF m 145 #[.val (.long q1), .second, .val (.long q2), .second, .val (.int p3), .val (.long x5), .second, .val (.long x7), .second, .val (.int (1 : Int32)), .val (.long (x5 + x7)), .second, .val (.long (x5 * x7)), .second, .val (.int (0 : Int32)), .val (.long (x5 + x7)), .second, .val (.long (own_steps x5 x7 (1 : Int32))), .second, .val (.long (own_steps x7 x5 (1 : Int32))), .second] [(.long (own_steps x5 x7 (1 : Int32))), (.long (own_steps x7 x5 (1 : Int32)))])) (fun t k => XS.lload X11.here hx rfl (hb hby at_143) rfl k) ?_
        refine own_step (T' := T11) (f' := (mkF m 146 #[.val (.long q1), .second, .val (.long q2), .second, .val (.int p3), .val (.long x5), .second, .val (.long x7), .second, .val (.int (1 : Int32)), .val (.long (x5 + x7)), .second, .val (.long (x5 * x7)), .second, .val (.int (0 : Int32)), .val (.long (x5 + x7)), .second, .val (.long (own_steps x5 x7 (1 : Int32))), .second, .val (.long (own_steps x7 x5 (1 : Int32))), .second] [(.int (lcmpW (own_steps x7 x5 (1 : Int32)) (own_steps x5 x7 (1 : Int32))))])) (fun t k => XS.lcmp X11.here hx rfl (hb hby at_145) rfl k) ?_
        refine own_step (T' := T11) (f' := (mkF m 149 #[.val (.long q1), .second, .val (.long q2), .second, .val (.int p3), .val (.long x5), .second, .val (.long x7), .second, .val (.int (1 : Int32)), .val (.long (x5 + x7)), .second, .val (.long (x5 * x7)), .second, .val (.int (0 : Int32)), .val (.long (x5 + x7)), .second, .val (.long (own_steps x5 x7 (1 : Int32))), .second, .val (.long (own_steps x7 x5 (1 : Int32))), .second] [])) (fun t k => XS.ifNo X11.here hx rfl (hb hby at_146) rfl (own_lceq (own_sw _ _ _)).2 k) ?_
        refine own_step (T' := T11) (f' := (mkF m 151 #[.val (.long q1), .second, .val (.long q2), .second, .val (.int p3), .val (.long x5), .second, .val (.long x7), .second, .val (.int (1 : Int32)), .val (.long (x5 + x7)), .second, .val (.long (x5 * x7)), .second, .val (.int (0 : Int32)), .val (.long (x5 + x7)), .second, .val (.long (own_steps x5 x7 (1 : Int32))), .second, .val (.long (own_steps x7 x5 (1 : Int32))), .second] [(.long (own_steps x5 x7 (1 : Int32)))])) (fun t k => XS.lload X11.here hx rfl (hb hby at_149) rfl k) ?_
        refine own_step (T' := T11) (f' := (mkF m 152 #[.val (.long q1), .second, .val (.long q2), .second, .val (.int p3), .val (.long x5), .second, .val (.long x7), .second, .val (.int (1 : Int32)), .val (.long (x5 + x7)), .second, .val (.long (x5 * x7)), .second, .val (.int (0 : Int32)), .val (.long (x5 + x7)), .second, .val (.long (own_steps x5 x7 (1 : Int32))), .second, .val (.long (own_steps x7 x5 (1 : Int32))), .second] [(.long (0 : Int64)), (.long (own_steps x5 x7 (1 : Int32)))])) (fun t k => XS.lconst X11.here hx rfl (hb hby at_151) k) ?_
        refine own_step (T' := T11) (f' := (mkF m 153 #[.val (.long q1), .second, .val (.long q2), .second, .val (.int p3), .val (.long x5), .second, .val (.long x7), .second, .val (.int (1 : Int32)), .val (.long (x5 + x7)), .second, .val (.long (x5 * x7)), .second, .val (.int (0 : Int32)), .val (.long (x5 + x7)), .second, .val (.long (own_steps x5 x7 (1 : Int32))), .second, .val (.long (own_steps x7 x5 (1 : Int32))), .second] [(.int (lcmpW (own_steps x5 x7 (1 : Int32)) (0 : Int64)))])) (fun t k => XS.lcmp X11.here hx rfl (hb hby at_152) rfl k) ?_
        refine own_step (T' := T11) (f' := (mkF m 156 #[.val (.long q1), .second, .val (.long q2), .second, .val (.int p3), .val (.long x5), .second, .val (.long x7), .second, .val (.int (1 : Int32)), .val (.long (x5 + x7)), .second, .val (.long (x5 * x7)), .second, .val (.int (0 : Int32)), .val (.long (x5 + x7)), .second, .val (.long (own_steps x5 x7 (1 : Int32))), .second, .val (.long (own_steps x7 x5 (1 : Int32))), .second] [])) (fun t k => XS.ifNo X11.here hx rfl (hb hby at_153) rfl (own_lcnl (own_nn b5 b7 _)).1 k) ?_
        refine own_step (T' := T11) (f' := (mkF m 157 #[.val (.long q1), .second, .val (.long q2), .second, .val (.int p3), .val (.long x5), .second, .val (.long x7), .second, .val (.int (1 : Int32)), .val (.long (x5 + x7)), .second, .val (.long (x5 * x7)), .second, .val (.int (0 : Int32)), .val (.long (x5 + x7)), .second, .val (.long (own_steps x5 x7 (1 : Int32))), .second, .val (.long (own_steps x7 x5 (1 : Int32))), .second] [(.int (1 : Int32))])) (fun t k => XS.iconst X11.here hx rfl (hb hby at_156) k) ?_
        refine own_step (T' := T11) (f' := (mkF m 161 #[.val (.long q1), .second, .val (.long q2), .second, .val (.int p3), .val (.long x5), .second, .val (.long x7), .second, .val (.int (1 : Int32)), .val (.long (x5 + x7)), .second, .val (.long (x5 * x7)), .second, .val (.int (0 : Int32)), .val (.long (x5 + x7)), .second, .val (.long (own_steps x5 x7 (1 : Int32))), .second, .val (.long (own_steps x7 x5 (1 : Int32))), .second] [(.int (1 : Int32))])) (fun t k => XS.goto X11.here hx rfl (pc0 := 157) (pc' := 161) rfl (hb hby at_157) (by decide) (by decide) k) ?_
        exact own_retN X11 hx hlk (t := .boolean) Bd.returns (by simp) (hb hby at_161) (by decide) (by decide) ⟨rfl, N11⟩
  have J20 : ∀ (T_20 : State) (l_20 : List Loc) (X_20 : Stand p l e room_1 s m #[(.long q1), (.long q2), (.int p3)] below meth c T_20 l_20 0 0) (e_20 : T_20.heap = h0) (N_20 : Fr n0 l_20) (x5 : Int64) (b5 : OwnB x5), OwnEnds p e below s (Q0 n0) room_1.cells room_1.slots T_20 (mkF m 20 #[.val (.long q1), .second, .val (.long q2), .second, .val (.int p3), .val (.long x5), .second, .unset, .unset, .unset, .unset, .unset, .unset, .unset, .unset, .unset, .unset, .unset, .unset, .unset, .unset] []) := by
    intro T_20 l_20 X_20 e_20 N_20 x5 b5
    refine own_step (T' := T_20) (f' := (mkF m 22 #[.val (.long q1), .second, .val (.long q2), .second, .val (.int p3), .val (.long x5), .second, .unset, .unset, .unset, .unset, .unset, .unset, .unset, .unset, .unset, .unset, .unset, .unset, .unset, .unset] [(.int p3)])) (fun t k => XS.iload X_20.here hx rfl (hb hby at_20) rfl k) ?_
    refine own_step (T' := T_20) (f' := (mkF m 23 #[.val (.long q1), .second, .val (.long q2), .second, .val (.int p3), .val (.long x5), .second, .unset, .unset, .unset, .unset, .unset, .unset, .unset, .unset, .unset, .unset, .unset, .unset, .unset, .unset] [(.int (2 : Int32)), (.int p3)])) (fun t k => XS.iconst X_20.here hx rfl (hb hby at_22) k) ?_
    refine own_step (T' := T_20) (f' := (mkF m 24 #[.val (.long q1), .second, .val (.long q2), .second, .val (.int p3), .val (.long x5), .second, .unset, .unset, .unset, .unset, .unset, .unset, .unset, .unset, .unset, .unset, .unset, .unset, .unset, .unset] [(.int (p3 &&& (2 : Int32)))])) (fun t k => XS.iand X_20.here hx rfl (hb hby at_23) rfl k) ?_
    by_cases hc24_12 : (p3 &&& (2 : Int32)) = (0 : Int32)
    · skip
      refine own_step (T' := T_20) (f' := (mkF m 31 #[.val (.long q1), .second, .val (.long q2), .second, .val (.int p3), .val (.long x5), .second, .unset, .unset, .unset, .unset, .unset, .unset, .unset, .unset, .unset, .unset, .unset, .unset, .unset, .unset] [])) (fun t k => XS.ifYes X_20.here hx rfl (pc0 := 24) (pc' := 31) rfl (hb hby at_24) rfl ((if0 _ _).trans (teq hc24_12).1) (by decide) (by decide) k) ?_
      refine own_step (T' := T_20) (f' := (mkF m 32 #[.val (.long q1), .second, .val (.long q2), .second, .val (.int p3), .val (.long x5), .second, .unset, .unset, .unset, .unset, .unset, .unset, .unset, .unset, .unset, .unset, .unset, .unset, .unset, .unset] [(.long q2)])) (fun t k => XS.lloadN X_20.here hx rfl (hb hby at_31) rfl k) ?_
      refine own_step (T' := T_20) (f' := (mkF m 35 #[.val (.long q1), .second, .val (.long q2), .second, .val (.int p3), .val (.long x5), .second, .unset, .unset, .unset, .unset, .unset, .unset, .unset, .unset, .unset, .unset, .unset, .unset, .unset, .unset] [(.long (1073741823 : Int64)), (.long q2)])) (fun t k => X_20.ldc2Long hx hown (mvT hZ (hw _ (List.mem_of_getElem? (i := 0) rfl))) (g := (mkF m 32 #[.val (.long q1), .second, .val (.long q2), .second, .val (.int p3), .val (.long x5), .second, .unset, .unset, .unset, .unset, .unset, .unset, .unset, .unset, .unset, .unset, .unset, .unset, .unset, .unset] [(.long q2)])) rfl (hb hby at_32) _ k) ?_
      refine own_step (T' := T_20) (f' := (mkF m 36 #[.val (.long q1), .second, .val (.long q2), .second, .val (.int p3), .val (.long x5), .second, .unset, .unset, .unset, .unset, .unset, .unset, .unset, .unset, .unset, .unset, .unset, .unset, .unset, .unset] [(.long (q2 &&& (1073741823 : Int64)))])) (fun t k => XS.land X_20.here hx rfl (hb hby at_35) rfl k) ?_
      refine own_step (T' := T_20) (f' := (mkF m 37 #[.val (.long q1), .second, .val (.long q2), .second, .val (.int p3), .val (.long x5), .second, .unset, .unset, .unset, .unset, .unset, .unset, .unset, .unset, .unset, .unset, .unset, .unset, .unset, .unset] [(.long (1 : Int64)), (.long (q2 &&& (1073741823 : Int64)))])) (fun t k => XS.lconst X_20.here hx rfl (hb hby at_36) k) ?_
      refine own_step (T' := T_20) (f' := (mkF m 38 #[.val (.long q1), .second, .val (.long q2), .second, .val (.int p3), .val (.long x5), .second, .unset, .unset, .unset, .unset, .unset, .unset, .unset, .unset, .unset, .unset, .unset, .unset, .unset, .unset] [(.long ((q2 &&& (1073741823 : Int64)) + (1 : Int64)))])) (fun t k => XS.ladd X_20.here hx rfl (hb hby at_37) rfl k) ?_
      refine own_step (T' := T_20) (f' := (mkF m 40 #[.val (.long q1), .second, .val (.long q2), .second, .val (.int p3), .val (.long x5), .second, .val (.long ((q2 &&& (1073741823 : Int64)) + (1 : Int64))), .second, .unset, .unset, .unset, .unset, .unset, .unset, .unset, .unset, .unset, .unset, .unset, .unset] [])) (fun t k => XS.lstore X_20.here hx rfl (hb hby at_38) rfl (l' := #[.val (.long q1), .second, .val (.long q2), .second, .val (.int p3), .val (.long x5), .second, .val (.long ((q2 &&& (1073741823 : Int64)) + (1 : Int64))), .second, .unset, .unset, .unset, .unset, .unset, .unset, .unset, .unset, .unset, .unset, .unset, .unset]) rfl k) ?_
      exact J40 T_20 _ X_20 e_20 N_20 x5 b5 ((q2 &&& (1073741823 : Int64)) + (1 : Int64)) (own_b _)
    · skip
      refine own_step (T' := T_20) (f' := (mkF m 27 #[.val (.long q1), .second, .val (.long q2), .second, .val (.int p3), .val (.long x5), .second, .unset, .unset, .unset, .unset, .unset, .unset, .unset, .unset, .unset, .unset, .unset, .unset, .unset, .unset] [])) (fun t k => XS.ifNo X_20.here hx rfl (hb hby at_24) rfl ((if0 _ _).trans (feq hc24_12).1) k) ?_
      refine own_step (T' := T_20) (f' := (mkF m 28 #[.val (.long q1), .second, .val (.long q2), .second, .val (.int p3), .val (.long x5), .second, .unset, .unset, .unset, .unset, .unset, .unset, .unset, .unset, .unset, .unset, .unset, .unset, .unset, .unset] [(.long (1 : Int64))])) (fun t k => XS.lconst X_20.here hx rfl (hb hby at_27) k) ?_
      refine own_step (T' := T_20) (f' := (mkF m 38 #[.val (.long q1), .second, .val (.long q2), .second, .val (.int p3), .val (.long x5), .second, .unset, .unset, .unset, .unset, .unset, .unset, .unset, .unset, .unset, .unset, .unset, .unset, .unset, .unset] [(.long (1 : Int64))])) (fun t k => XS.goto X_20.here hx rfl (pc0 := 28) (pc' := 38) rfl (hb hby at_28) (by decide) (by decide) k) ?_
      refine own_step (T' := T_20) (f' := (mkF m 40 #[.val (.long q1), .second, .val (.long q2), .second, .val (.int p3), .val (.long x5), .second, .val (.long (1 : Int64)), .second, .unset, .unset, .unset, .unset, .unset, .unset, .unset, .unset, .unset, .unset, .unset, .unset] [])) (fun t k => XS.lstore X_20.here hx rfl (hb hby at_38) rfl (l' := #[.val (.long q1), .second, .val (.long q2), .second, .val (.int p3), .val (.long x5), .second, .val (.long (1 : Int64)), .second, .unset, .unset, .unset, .unset, .unset, .unset, .unset, .unset, .unset, .unset, .unset, .unset]) rfl k) ?_
      exact J40 T_20 _ X_20 e_20 N_20 x5 b5 (1 : Int64) own_b1
  show OwnEnds p e below s (Q0 n0) room_1.cells room_1.slots s₁ (entryFrame m #[(.long q1), (.long q2), (.int p3)] maxLocals)
  refine own_step (T' := s₁) (f' := (mkF m 0 #[.val (.long q1), .second, .val (.long q2), .second, .val (.int p3), .unset, .unset, .unset, .unset, .unset, .unset, .unset, .unset, .unset, .unset, .unset, .unset, .unset, .unset, .unset, .unset] [])) (fun t k => castTop (ef_rm0 m q1 q2 p3) k) ?_
  refine own_step (T' := s₁) (f' := (mkF m 2 #[.val (.long q1), .second, .val (.long q2), .second, .val (.int p3), .unset, .unset, .unset, .unset, .unset, .unset, .unset, .unset, .unset, .unset, .unset, .unset, .unset, .unset, .unset, .unset] [(.int p3)])) (fun t k => XS.iload X0.here hx rfl (hb hby at_0) rfl k) ?_
  refine own_step (T' := s₁) (f' := (mkF m 3 #[.val (.long q1), .second, .val (.long q2), .second, .val (.int p3), .unset, .unset, .unset, .unset, .unset, .unset, .unset, .unset, .unset, .unset, .unset, .unset, .unset, .unset, .unset, .unset] [(.int (1 : Int32)), (.int p3)])) (fun t k => XS.iconst X0.here hx rfl (hb hby at_2) k) ?_
  refine own_step (T' := s₁) (f' := (mkF m 4 #[.val (.long q1), .second, .val (.long q2), .second, .val (.int p3), .unset, .unset, .unset, .unset, .unset, .unset, .unset, .unset, .unset, .unset, .unset, .unset, .unset, .unset, .unset, .unset] [(.int (p3 &&& (1 : Int32)))])) (fun t k => XS.iand X0.here hx rfl (hb hby at_3) rfl k) ?_
  by_cases hc4_13 : (p3 &&& (1 : Int32)) = (0 : Int32)
  · skip
    refine own_step (T' := s₁) (f' := (mkF m 11 #[.val (.long q1), .second, .val (.long q2), .second, .val (.int p3), .unset, .unset, .unset, .unset, .unset, .unset, .unset, .unset, .unset, .unset, .unset, .unset, .unset, .unset, .unset, .unset] [])) (fun t k => XS.ifYes X0.here hx rfl (pc0 := 4) (pc' := 11) rfl (hb hby at_4) rfl ((if0 _ _).trans (teq hc4_13).1) (by decide) (by decide) k) ?_
    refine own_step (T' := s₁) (f' := (mkF m 12 #[.val (.long q1), .second, .val (.long q2), .second, .val (.int p3), .unset, .unset, .unset, .unset, .unset, .unset, .unset, .unset, .unset, .unset, .unset, .unset, .unset, .unset, .unset, .unset] [(.long q1)])) (fun t k => XS.lloadN X0.here hx rfl (hb hby at_11) rfl k) ?_
    refine own_step (T' := s₁) (f' := (mkF m 15 #[.val (.long q1), .second, .val (.long q2), .second, .val (.int p3), .unset, .unset, .unset, .unset, .unset, .unset, .unset, .unset, .unset, .unset, .unset, .unset, .unset, .unset, .unset, .unset] [(.long (1073741823 : Int64)), (.long q1)])) (fun t k => X0.ldc2Long hx hown (mvT hZ (hw _ (List.mem_of_getElem? (i := 0) rfl))) (g := (mkF m 12 #[.val (.long q1), .second, .val (.long q2), .second, .val (.int p3), .unset, .unset, .unset, .unset, .unset, .unset, .unset, .unset, .unset, .unset, .unset, .unset, .unset, .unset, .unset, .unset] [(.long q1)])) rfl (hb hby at_12) _ k) ?_
    refine own_step (T' := s₁) (f' := (mkF m 16 #[.val (.long q1), .second, .val (.long q2), .second, .val (.int p3), .unset, .unset, .unset, .unset, .unset, .unset, .unset, .unset, .unset, .unset, .unset, .unset, .unset, .unset, .unset, .unset] [(.long (q1 &&& (1073741823 : Int64)))])) (fun t k => XS.land X0.here hx rfl (hb hby at_15) rfl k) ?_
    refine own_step (T' := s₁) (f' := (mkF m 17 #[.val (.long q1), .second, .val (.long q2), .second, .val (.int p3), .unset, .unset, .unset, .unset, .unset, .unset, .unset, .unset, .unset, .unset, .unset, .unset, .unset, .unset, .unset, .unset] [(.long (1 : Int64)), (.long (q1 &&& (1073741823 : Int64)))])) (fun t k => XS.lconst X0.here hx rfl (hb hby at_16) k) ?_
    refine own_step (T' := s₁) (f' := (mkF m 18 #[.val (.long q1), .second, .val (.long q2), .second, .val (.int p3), .unset, .unset, .unset, .unset, .unset, .unset, .unset, .unset, .unset, .unset, .unset, .unset, .unset, .unset, .unset, .unset] [(.long ((q1 &&& (1073741823 : Int64)) + (1 : Int64)))])) (fun t k => XS.ladd X0.here hx rfl (hb hby at_17) rfl k) ?_
    refine own_step (T' := s₁) (f' := (mkF m 20 #[.val (.long q1), .second, .val (.long q2), .second, .val (.int p3), .val (.long ((q1 &&& (1073741823 : Int64)) + (1 : Int64))), .second, .unset, .unset, .unset, .unset, .unset, .unset, .unset, .unset, .unset, .unset, .unset, .unset, .unset, .unset] [])) (fun t k => XS.lstore X0.here hx rfl (hb hby at_18) rfl (l' := #[.val (.long q1), .second, .val (.long q2), .second, .val (.int p3), .val (.long ((q1 &&& (1073741823 : Int64)) + (1 : Int64))), .second, .unset, .unset, .unset, .unset, .unset, .unset, .unset, .unset, .unset, .unset, .unset, .unset, .unset, .unset]) rfl k) ?_
    exact J20 s₁ _ X0 e0 N0 ((q1 &&& (1073741823 : Int64)) + (1 : Int64)) (own_b _)
  · skip
    refine own_step (T' := s₁) (f' := (mkF m 7 #[.val (.long q1), .second, .val (.long q2), .second, .val (.int p3), .unset, .unset, .unset, .unset, .unset, .unset, .unset, .unset, .unset, .unset, .unset, .unset, .unset, .unset, .unset, .unset] [])) (fun t k => XS.ifNo X0.here hx rfl (hb hby at_4) rfl ((if0 _ _).trans (feq hc4_13).1) k) ?_
    refine own_step (T' := s₁) (f' := (mkF m 8 #[.val (.long q1), .second, .val (.long q2), .second, .val (.int p3), .unset, .unset, .unset, .unset, .unset, .unset, .unset, .unset, .unset, .unset, .unset, .unset, .unset, .unset, .unset, .unset] [(.long (1 : Int64))])) (fun t k => XS.lconst X0.here hx rfl (hb hby at_7) k) ?_
    refine own_step (T' := s₁) (f' := (mkF m 18 #[.val (.long q1), .second, .val (.long q2), .second, .val (.int p3), .unset, .unset, .unset, .unset, .unset, .unset, .unset, .unset, .unset, .unset, .unset, .unset, .unset, .unset, .unset, .unset] [(.long (1 : Int64))])) (fun t k => XS.goto X0.here hx rfl (pc0 := 8) (pc' := 18) rfl (hb hby at_8) (by decide) (by decide) k) ?_
    refine own_step (T' := s₁) (f' := (mkF m 20 #[.val (.long q1), .second, .val (.long q2), .second, .val (.int p3), .val (.long (1 : Int64)), .second, .unset, .unset, .unset, .unset, .unset, .unset, .unset, .unset, .unset, .unset, .unset, .unset, .unset, .unset] [])) (fun t k => XS.lstore X0.here hx rfl (hb hby at_18) rfl (l' := #[.val (.long q1), .second, .val (.long q2), .second, .val (.int p3), .val (.long (1 : Int64)), .second, .unset, .unset, .unset, .unset, .unset, .unset, .unset, .unset, .unset, .unset, .unset, .unset, .unset, .unset]) rfl k) ?_
    exact J20 s₁ _ X0 e0 N0 (1 : Int64) own_b1

set_option maxRecDepth 65536 in
set_option maxHeartbeats 40000000 in
theorem comes_1 {Post : Tables → Env → Array Value → State → Outcome → State → Prop} (hpost : ∀ tb e args s v u, (limb_1_1.after args s (.returned v) u = true ∧ limb_1_2.after args s (.returned v) u = true ∧ True) → FrameEnd s (.returned v) u (Jvm.fieldLocs frame_1_writes args s ++ Jvm.arrayLocs frame_1_arrays args s ++ Jvm.staticLocs frame_1_statics s) 0 0 → Post tb e args s (.returned v) u) :
    ArmFor flags0 classFile x code maxLocals ret World_1 tables_1 room_1 Calls_1 rest_1 Pre_1 Post := by
  intro l hfl _ _ p e ha hc hk s m args below hf hA hF happ hP
  obtain ⟨hcalls, hrest, hpre⟩ := hP
  obtain ⟨-, -, -, hnamed, -, -, -, hat⟩ := (Spec.applies_iff hf).mp happ
  obtain ⟨hg, hn⟩ := and_e (Cond.before_iff.mp (show (Jvm.Cond.and given_1 narrow_1).before args s = true from hpre))
  obtain ⟨hcnt, hg0⟩ := and_e hg
  obtain ⟨ga0, hg1⟩ := and_e hg0
  obtain ⟨ga1, hg2⟩ := and_e hg1
  have ga2 := hg2
  obtain ⟨w0, w1, w2, rfl⟩ : ∃ w0 w1 w2 : Value, args = #[w0, w1, w2] := by
    have hs : args.size = 3 := by simpa [Cond.value, given_1] using hcnt
    obtain ⟨L⟩ := args
    match L, hs with
    | [w0, w1, w2], _ => exact ⟨w0, w1, w2, rfl⟩
  have hw := fun d (hd : d ∈ tables_1) => atoms_spec (ws := Jvm.Cond.code x code maxLocals ret :: tables_1) hat d (List.mem_cons_of_mem _ hd)
  obtain ⟨i0, ei0⟩ := isL_v ga0
  obtain rfl : w0 = (.long i0) := Option.some.inj ei0
  obtain ⟨i1, ei1⟩ := isL_v ga1
  obtain rfl : w1 = (.long i1) := Option.some.inj ei1
  obtain ⟨i2, ei2⟩ := is_v ga2
  obtain rfl : w2 = (.int i2) := Option.some.inj ei2
  obtain ⟨n, o, h1, h2, h3, _, L, rfl, ⟨rfl, N⟩, hq⟩ := rm0 l s _ hw tables_1 i0 i1 i2 s.heap s.heap.size (Nat.le_refl _) p e ha hc hk s m _ below hf ((Spec.applies_iff_loose hf).mp happ).1 ⟨rfl, State.Warmed39.refl s, rfl⟩ trivial
  refine ⟨n, _, h1, h2, h3, hpost _ _ _ _ _ _ ⟨Cond.after_iff.mpr rfl, Cond.after_iff.mpr (eq_i res_at (Term.int_eval (1)) rfl), trivial⟩ ⟨hq.1, hq.2.1, (hq.2.2.sift fun y hy => Or.inr (N y hy)).mono (by decide) (by decide)⟩⟩
theorem main_1_1 : Claimed_1_1 := comes_1 fun _ _ _ _ _ _ h hF => ⟨h.1, hF⟩
theorem main_1_2 : Claimed_1_2 := comes_1 fun _ _ _ _ _ _ h hF => ⟨h.2.1, hF⟩
end Jvm.Pilot.@@N@@
namespace Jvm.Pilot.@@N@@
open Jvm Jvm.ClassFile Sem Op Lib Jvm.Free Jvm.Stand Jvm.Pilot.@@N@@.Jvm.D
/-! MADE BY PROGRAM (witnessworld.py) out of the Statement's table words and the real class files: 11 classes; the members and pool entries that the words name. The judged class is class 1, her method 1. -/
namespace start1
open Jvm.ClassFile
def u (s : String) : CpInfo := .utf8 (stringToUtf16 s)
/-- a pool by its gaps: so many unusable entries, then the entry; so many at the end -/
def gap : Nat → List CpInfo → List CpInfo
  | 0, r => r
  | n + 1, r => .unusable :: gap n r
def poolList (es : List (Nat × CpInfo)) (last : Nat) : List CpInfo := es.foldr (fun e r => gap e.1 (e.2 :: r)) (gap last [])
def pool (es : List (Nat × CpInfo)) (last : Nat) : Array CpInfo := ⟨poolList es last⟩
def fileOf (pool : Array CpInfo) (this : Nat) (attrs : Array Attribute := #[]) (ms : Array MethodInfo := #[]) (fl : Nat := 33) (sup : Nat := 0) (ifs : Array Nat := #[]) (fds : Array FieldInfo := #[]) : ClassFile where
  minorVersion := 0
  majorVersion := 65
  constantPool := pool
  accessFlags := fl
  thisClass := this
  superClass := sup
  interfaces := ifs
  fields := fds
  methods := ms
  attributes := attrs
def plain (name : String) (sup : Option ClassId) : Class where
  name := name
  kind := .ordinary
  loader := none
  accessFlags := 33
  super := sup
  interfaces := #[]
  cf := none
  fields := #[]
  methods := #[]
  instanceTypes := #[]
  staticTypes := #[]
  resolved := #[]
  callSites := []
  init := .initialized
  statics := none
  mirror := none

def pool0 : Array CpInfo := pool [(5, u "<init>"), (0, u "()V"), (1, .class_ 10), (1, u "java/lang/Object")] 113

def k0m0 : Method := { name := "<init>", desc := "()V", sig := { parameters := [], returnType := none }, accessFlags := 1, code := none }
/-- java/lang/Object -/
def k0 : Class := { plain "java/lang/Object" none with
  accessFlags := 33
  interfaces := #[]
  cf := some (fileOf pool0 8 #[] #[{ accessFlags := 1, nameIndex := 5, descriptorIndex := 6, attributes := #[] }] 33 0 #[] #[])
  fields := #[]
  methods := #[k0m0]
  instanceTypes := #[]
  staticTypes := #[]
  resolved := Array.replicate 124 none
  statics := none }

def pool1 : Array CpInfo := pool [(2, .class_ 4), (1, u "java/lang/Object"), (0, u "<init>"), (0, u "()V"), (0, .long 1073741823), (1, .long 2), (1, .methodref 12 13), (0, .class_ 14), (0, .nameAndType 15 16), (0, u "com/example/umriss/umriss/runtime/NumberValue"), (0, u "steps"), (0, u "(JJZ)J"), (0, .class_ 18), (0, u "com/example/umriss/umriss/runtime/NumberValueStepsPinLaw"), (2, u "law"), (0, u "(JJI)Z")] 3

def k1m0 : Method := { name := "<init>", desc := "()V", sig := { parameters := [], returnType := none }, accessFlags := 1, code := none }
def k1c1 : Code := { maxStack := 5, maxLocals := 21, code := code, exceptionTable := #[], attributes := #[] }
def k1m1 : Method := { name := "law", desc := "(JJI)Z", sig := { parameters := [.long, .long, .int], returnType := some .boolean }, accessFlags := 9, code := some k1c1 }
/-- com/example/umriss/umriss/runtime/NumberValueStepsPinLaw -/
def k1 : Class := { plain "com/example/umriss/umriss/runtime/NumberValueStepsPinLaw" (some 0) with
  accessFlags := 49
  interfaces := #[]
  cf := some (fileOf pool1 17 #[] #[{ accessFlags := 1, nameIndex := 5, descriptorIndex := 6, attributes := #[] }, { accessFlags := 9, nameIndex := 21, descriptorIndex := 22, attributes := #[] }] 49 2 #[] #[])
  fields := #[]
  methods := #[k1m0, k1m1]
  instanceTypes := #[]
  staticTypes := #[]
  resolved := Array.replicate 26 none
  statics := none }

def pool2 : Array CpInfo := pool [(1, .class_ 2), (0, u "java/lang/Comparable"), (0, .class_ 4), (0, u "java/lang/Object")] 7

/-- java/lang/Comparable -/
def k2 : Class := { plain "java/lang/Comparable" (some 0) with
  accessFlags := 1537
  interfaces := #[]
  cf := some (fileOf pool2 1 #[] #[] 1537 3 #[] #[])
  fields := #[]
  methods := #[]
  instanceTypes := #[]
  staticTypes := #[]
  resolved := Array.replicate 12 none
  statics := none }

def pool3 : Array CpInfo := pool [(2, .class_ 4), (1, u "java/lang/Object"), (0, u "<init>"), (0, u "()V"), (1, .class_ 10), (1, u "com/example/umriss/umriss/runtime/Value"), (3, .class_ 16), (1, u "com/example/umriss/umriss/runtime/Value$Kind"), (79, .class_ 97), (0, u "java/lang/Comparable")] 50

def k3m0 : Method := { name := "<init>", desc := "()V", sig := { parameters := [], returnType := none }, accessFlags := 0, code := none }
/-- com/example/umriss/umriss/runtime/Value -/
def k3 : Class := { plain "com/example/umriss/umriss/runtime/Value" (some 0) with
  accessFlags := 1057
  interfaces := #[2]
  cf := some (fileOf pool3 8 #[.nestMembers #[14]] #[{ accessFlags := 0, nameIndex := 5, descriptorIndex := 6, attributes := #[] }] 1057 2 #[96] #[])
  fields := #[]
  methods := #[k3m0]
  instanceTypes := #[]
  staticTypes := #[]
  resolved := Array.replicate 148 none
  statics := none }

def pool4 : Array CpInfo := pool [(2, .class_ 4), (1, u "com/example/umriss/umriss/runtime/Value"), (3, .class_ 10), (1, u "com/example/umriss/umriss/runtime/NumberValue"), (0, u "value"), (0, u "Lcom/example/umriss/umriss/runtime/Rational;"), (82, u "steps"), (0, u "(JJZ)J"), (19, u "MAX_BITS"), (0, u "I")] 36

def k4c0 : Code := { maxStack := 4, maxLocals := 7, code := prog_44_method_6_code, exceptionTable := #[], attributes := #[] }
def k4m0 : Method := { name := "steps", desc := "(JJZ)J", sig := { parameters := [.long, .long, .boolean], returnType := some .long }, accessFlags := 8, code := some k4c0 }
/-- com/example/umriss/umriss/runtime/NumberValue -/
def k4 : Class := { plain "com/example/umriss/umriss/runtime/NumberValue" (some 3) with
  accessFlags := 49
  interfaces := #[]
  cf := some (fileOf pool4 8 #[] #[{ accessFlags := 8, nameIndex := 95, descriptorIndex := 96, attributes := #[] }] 49 2 #[] #[{ accessFlags := 24, nameIndex := 116, descriptorIndex := 117, attributes := #[] }, { accessFlags := 18, nameIndex := 11, descriptorIndex := 12, attributes := #[] }])
  fields := #[{ name := "MAX_BITS", type := .int, accessFlags := 24, slot := 0, constantValue := 0 }, { name := "value", type := (.object "com/example/umriss/umriss/runtime/Rational"), accessFlags := 18, slot := 0, constantValue := 0 }]
  methods := #[k4m0]
  instanceTypes := #[(.object "com/example/umriss/umriss/runtime/Rational")]
  staticTypes := #[.int]
  resolved := Array.replicate 154 none
  statics := none }

def pool5 : Array CpInfo := pool [(1, u "java/lang/Cloneable"), (0, .class_ 1), (0, u "java/lang/Object"), (0, .class_ 3)] 3

/-- java/lang/Cloneable -/
def k5 : Class := { plain "java/lang/Cloneable" (some 0) with
  accessFlags := 1537
  interfaces := #[]
  cf := some (fileOf pool5 2 #[] #[] 1537 4 #[] #[])
  fields := #[]
  methods := #[]
  instanceTypes := #[]
  staticTypes := #[]
  resolved := Array.replicate 8 none
  statics := none }

def pool6 : Array CpInfo := pool [(1, u "java/io/Serializable"), (0, .class_ 1), (0, u "java/lang/Object"), (0, .class_ 3)] 3

/-- java/io/Serializable -/
def k6 : Class := { plain "java/io/Serializable" (some 0) with
  accessFlags := 1537
  interfaces := #[]
  cf := some (fileOf pool6 2 #[] #[] 1537 4 #[] #[])
  fields := #[]
  methods := #[]
  instanceTypes := #[]
  staticTypes := #[]
  resolved := Array.replicate 8 none
  statics := none }

/-- the primitive byte -/
def k7 : Class := { plain "byte" none with kind := .primitive 'B', accessFlags := 0x411 }
/-- [B -/
def k8 : Class := { plain "[B" (some 0) with kind := .array 7 .byte, interfaces := #[5, 6], accessFlags := 1041 }

/-- the primitive int -/
def k9 : Class := { plain "int" none with kind := .primitive 'I', accessFlags := 0x411 }
/-- [I -/
def k10 : Class := { plain "[I" (some 0) with kind := .array 9 .int, interfaces := #[5, 6], accessFlags := 1041 }

def heap : Heap := #[]
def classes : Array Class := #[k0, k1, k2, k3, k4, k5, k6, k7, k8, k9, k10]
def interned : List (Array UInt16 × Addr) := []
def slotsUsed : Nat := 0
def theMethod : MethodId := ⟨1, 1⟩
def args0 : Array Value := #[.long 5, .long 300, .int 7]
def aboutOver (below : List Frame) : State where
  vm := { classes := classes, interned := interned.toArray }
  heap := heap
  slotsUsed := slotsUsed
  threads := #[{ frames := .invoking theMethod args0 :: below }]
def below0 : List Frame := [.native { method := ⟨0, 0⟩, args := #[] }]
def about1 : State := aboutOver below0
def p0 : Program := .bare "" "" ""
def e0 : Env := launch0.env 0 0 0
theorem w_frames : about1.frames = Frame.invoking theMethod args0 :: below0 := rfl
set_option maxRecDepth 65536 in
theorem w_args : argsFit about1.vm theMethod args0 = true := by decide +kernel
set_option maxRecDepth 65536 in
theorem w_heap : heapFits about1 = true := by decide +kernel
set_option maxRecDepth 65536 in
theorem w_runnable : about1.curStatus? = some .runnable := by decide +kernel
set_option maxRecDepth 65536 in
theorem w_alone : about1.alone = true := by decide +kernel
set_option maxRecDepth 65536 in
theorem w_named : about1.methodNamed? x = some theMethod := by decide +kernel
set_option maxRecDepth 65536 in
theorem w_hears : about1.hears theMethod below0 = true := by decide +kernel
set_option maxRecDepth 65536 in
theorem w_ripe : about1.ripe theMethod args0 below0 = true := by decide +kernel
theorem w_running : about1.status = .running := rfl
set_option maxRecDepth 65536 in
theorem w_room : about1.hasRoom e0.platform room_1 = true :=
  launch0.hasRoom_least _ room_1 (by decide +kernel) (by decide +kernel) (by decide +kernel) (by decide +kernel) (by decide +kernel) (by decide +kernel)
theorem allAtoms_all (ts : List Jvm.Cond) (a : Array Jvm.Value) (st : Jvm.State) : (allAtoms ts).before a st = ts.all (fun c => c.before a st) := by
  induction ts with
  | nil => rfl
  | cons c t ih =>
    show (Jvm.Cond.and c (allAtoms t)).before a st = _
    rw [Jvm.Cond.before_and, ih, List.all_cons]
def words1 : List Jvm.Cond := Jvm.Cond.code x code maxLocals ret :: tables_1
/-- a 'code' word, met by the world's own term for the bytes: nothing is compared byte by byte -/
theorem code_word {y : MethodName} {bytes : ByteArray} {mx : Nat} {rt : Option FieldType} {a : Array Value} {s : State} {m : MethodId} {meth : Method} {c : Code} (h1 : s.methodNamed? y = some m) (h2 : s.vm.method? m = some meth) (h3 : meth.code = some c) (h4 : c.code = bytes)
    (h5 : (c.maxLocals == mx && c.exceptionTable.isEmpty && decide (c.maxStack ≤ mostOperands) && decide (meth.sig.returnType = rt) && !meth.locks && decide (parseMethodDescriptor y.desc = some meth.sig)) = true) : (Jvm.Cond.code y bytes mx rt).before a s = true := by
  simp only [Bool.and_eq_true, beq_iff_eq, Bool.not_eq_true', decide_eq_true_eq] at h5
  obtain ⟨⟨⟨⟨⟨g1, g2⟩, g3⟩, g4⟩, g5⟩, g6⟩ := h5
  simp [Cond.before, Cond.holds, Cond.value, h1, h2, h3, h4, g1, g2, g3, g4, g5, g6]
def isCode : Jvm.Cond → Bool
  | .code _ _ _ _ => true
  | _ => false
theorem all_split {L : List Jvm.Cond} {P : Jvm.Cond → Bool} (h1 : L.all (fun c => isCode c || P c) = true) (h2 : ∀ c ∈ L.filter isCode, P c = true) : L.all P = true := by
  refine List.all_eq_true.mpr fun c hc => ?_
  have h := List.all_eq_true.mp h1 c hc
  rcases Bool.eq_false_or_eq_true (isCode c) with hi | hi
  · exact h2 c (List.mem_filter.mpr ⟨hc, hi⟩)
  · simpa [hi] using h
set_option maxRecDepth 65536 in
theorem w_c0 : (Jvm.Cond.code x code maxLocals ret).before args0 about1 = true := code_word (m := ⟨1, 1⟩) (meth := k1m1) (c := k1c1) (by decide +kernel) rfl rfl rfl (by decide +kernel)
set_option maxRecDepth 65536 in
theorem w_c1 : (Jvm.Cond.code ({ cls := "com/example/umriss/umriss/runtime/NumberValue", name := "steps", desc := "(JJZ)J" } : Jvm.MethodName) prog_44_method_6_code (7 : Nat) (Option.some Jvm.ClassFile.FieldType.long)).before args0 about1 = true := code_word (m := ⟨4, 0⟩) (meth := k4m0) (c := k4c0) (by decide +kernel) rfl rfl rfl (by decide +kernel)
def codes1 : List Jvm.Cond := [Jvm.Cond.code x code maxLocals ret, Jvm.Cond.code ({ cls := "com/example/umriss/umriss/runtime/NumberValue", name := "steps", desc := "(JJZ)J" } : Jvm.MethodName) prog_44_method_6_code (7 : Nat) (Option.some Jvm.ClassFile.FieldType.long)]
set_option maxRecDepth 65536 in
theorem codes_eq : words1.filter isCode = codes1 := rfl
theorem w_codes : ∀ c ∈ words1.filter isCode, c.before args0 about1 = true := by
  rw [codes_eq]
  intro c hc
  simp only [codes1, List.mem_cons, List.not_mem_nil, or_false] at hc
  rcases hc with rfl | rfl
  · exact w_c0
  · exact w_c1
set_option maxRecDepth 65536 in
theorem w_t1 : words1.all (fun c => isCode c || c.before args0 about1) = true := by decide +kernel
theorem w_tables : (allAtoms (Jvm.Cond.code x code maxLocals ret :: tables_1)).before args0 about1 = true := by
  rw [allAtoms_all]
  show words1.all (fun c => c.before args0 about1) = true
  refine all_split ?_ w_codes
  rw [w_t1]
set_option maxRecDepth 65536 in
theorem w_case : (Jvm.Cond.and given_1 narrow_1).before args0 about1 = true := by decide +kernel
theorem w_applies : (headSpec (Jvm.Cond.code x code maxLocals ret :: tables_1) room_1).applies x e0.platform about1 = true :=
  (Spec.applies_iff w_frames).mpr ⟨w_running, w_runnable, w_alone, w_named, w_hears, w_ripe, w_room, w_tables⟩
theorem atStart : AtStart classFile x code maxLocals ret World_1 tables_1 room_1 Calls_1 rest_1 Pre_1 launch0 p0 e0 about1 theMethod args0 below0 :=
  ⟨lists_1, trivial, launch0.admits_env _ _ _, launch0.least_env, fairChoices_fair.cas, fairChoices_fair.clock, w_frames, w_args, w_heap, w_applies, trivial, trivial, w_case⟩
end start1
theorem witness_1 : WitnessClaimed_1 := ⟨start1.p0, start1.e0, start1.about1, start1.theMethod, start1.args0, start1.below0, start1.atStart⟩
end Jvm.Pilot.@@N@@
