import JvmDerived
import JvmDerived.Pilot.@@N@@Statement
import JvmDerived.Pilot.@@N@@Code
set_option linter.unusedVariables false
set_option linter.unusedSimpArgs false
namespace Jvm.Pilot.@@N@@
open Jvm Jvm.ClassFile Sem Op Lib Jvm.Free Jvm.Stand Jvm.LawKit Jvm.RoadKit Bundle Jvm.Pilot.@@N@@.Jvm.D

section Own
variable {p : Program} {l : Launch} {e : Env} {R : Room} {s : State} {m : MethodId} {args : Array Value} {below : List Frame} {meth : Method} {c : Code} {T T' : State} {locs : List Loc} {cells slots : Nat}
/-- from the frame f over T the run comes to the method's return, with Q -/
def OwnEnds (p : Program) (e : Env) (below : List Frame) (s : State) (Q : Option Value → Heap → List Loc → Prop) (k n : Nat) (T : State) (f : JFrame) : Prop :=
  ∃ s₂ o, Steps p.tables e below (T.setTop f) s₂ ∧ s₂.status = .running ∧ Ended s₂ below o ∧ ∃ v L, o = .returned v ∧ Q v s₂.heap L ∧ FrameEnd s o s₂ L k n
theorem own_step {Q : Option Value → Heap → List Loc → Prop} {k n : Nat} {f f' : JFrame} (h : ∀ t, Steps p.tables e below (T'.setTop f') t → Steps p.tables e below (T.setTop f) t) (g : OwnEnds p e below s Q k n T' f') : OwnEnds p e below s Q k n T f := by
  obtain ⟨s2, o, h1, h2⟩ := g
  exact ⟨s2, o, h _ h1, h2⟩
theorem own_retN (X : Stand p l e R s m args below meth c T locs cells slots) (hx : p.tables.exec = Jvm.exec) (hlk : meth.locks = false) {pc : Nat} {Ls : Array Slot} {z : Int32} {t : FieldType} {rest : List Value} (hret : meth.sig.returnType = some t) (ht : t = .boolean ∨ t = .byte ∨ t = .char ∨ t = .short)
    (hd : decode c.code pc = .ok (.ireturn, 1)) {Q : Option Value → Heap → List Loc → Prop} {k n : Nat} (hk : cells ≤ k) (hn : slots ≤ n) (hQ : Q (some (.int (nar t z))) T.heap locs) : OwnEnds p e below s Q k n T (mkF m pc Ls (.int z :: rest)) := by
  obtain ⟨fs, hr, hrun, hended, hW, hsame⟩ := X.leave (v := some (.int (nar t z))) (fun h => by rw [hret] at h; cases h) hlk
  exact ⟨_, _, retN X hx hret ht hd hr, hrun, hended, _, _, rfl, hQ, ⟨_, rfl⟩, hW, hsame.mono hk hn⟩
theorem own_retO (X : Stand p l e R s m args below meth c T locs cells slots) (hx : p.tables.exec = Jvm.exec) (hlk : meth.locks = false) {pc : Nat} {Ls : Array Slot} {w : Value} {t : FieldType} {i : Instr} {rest : List Value} (hret : meth.sig.returnType = some t) (hnw : narrow t w = w)
    (hi : (i = .ireturn ∧ (t = .int ∨ t = .boolean ∨ t = .byte ∨ t = .char ∨ t = .short) ∧ ∃ z, w = .int z) ∨ (i = .lreturn ∧ t = .long ∧ ∃ z, w = .long z) ∨ (i = .dreturn ∧ t = .double ∧ ∃ z, w = .double z) ∨ (i = .freturn ∧ t = .float ∧ ∃ z, w = .float z) ∨ (i = .areturn ∧ t.isReference = true ∧ w.isRef = true))
    (hd : decode c.code pc = .ok (i, 1)) {Q : Option Value → Heap → List Loc → Prop} {k n : Nat} (hk : cells ≤ k) (hn : slots ≤ n) (hQ : Q (some w) T.heap locs) : OwnEnds p e below s Q k n T (mkF m pc Ls (w :: rest)) := by
  obtain ⟨fs, hr, hrun, hended, hW, hsame⟩ := X.leave (v := some w) (fun h => by rw [hret] at h; cases h) hlk
  exact ⟨_, _, retOut X hx hret hnw hi hd hr, hrun, hended, _, _, rfl, hQ, ⟨_, rfl⟩, hW, hsame.mono hk hn⟩
theorem own_retV (X : Stand p l e R s m args below meth c T locs cells slots) (hx : p.tables.exec = Jvm.exec) (hlk : meth.locks = false) {pc : Nat} {Ls : Array Slot} (hret : meth.sig.returnType = none)
    (hd : decode c.code pc = .ok (.return_, 1)) {Q : Option Value → Heap → List Loc → Prop} {k n : Nat} (hk : cells ≤ k) (hn : slots ≤ n) (hQ : Q none T.heap locs) : OwnEnds p e below s Q k n T (mkF m pc Ls []) := by
  obtain ⟨fs, hr, hrun, hended, hW, hsame⟩ := X.leave (v := none) (fun _ => rfl) hlk
  exact ⟨_, _, X.returnOut hx hret hd hr, hrun, hended, _, _, rfl, hQ, ⟨_, rfl⟩, hW, hsame.mono hk hn⟩
end Own
theorem own_mvM {Z s : State} {a0 args : Array Value} {own host : String} {index : Nat} {y : MethodName} (hZ : Z.Warmed39 s.vm) (w : (Jvm.Cond.methodLinkNest own index y host).before a0 Z = true) : (Jvm.Cond.methodLinkNest own index y host).before args s = true := (Cond.methodLinkNest_wide hZ w :)
theorem own_irr {x : Int32} : ¬ x < x := by rw [Int32.lt_iff_toInt_lt]; omega
theorem own_lceq {x y : Int64} (h : x = y) : ifCond.holds .eq (lcmpW x y) = true ∧ ifCond.holds .ne (lcmpW x y) = false := by
  have q : lcmpW x y = 0 := by rw [lcW]; exact (lc_eq x y).mpr h
  exact ⟨(if0 _ _).trans (teq q).1, (if0 _ _).trans (teq q).2⟩
theorem own_lcne {x y : Int64} (h : ¬ x = y) : ifCond.holds .eq (lcmpW x y) = false ∧ ifCond.holds .ne (lcmpW x y) = true := by
  have q : ¬ lcmpW x y = 0 := by rw [lcW]; exact fun z => h ((lc_eq x y).mp z)
  exact ⟨(if0 _ _).trans (feq q).1, (if0 _ _).trans (feq q).2⟩
theorem own_lclt {x y : Int64} (h : x < y) : ifCond.holds .lt (lcmpW x y) = true ∧ ifCond.holds .ge (lcmpW x y) = false ∧ ifCond.holds .gt (lcmpW y x) = true ∧ ifCond.holds .le (lcmpW y x) = false := by
  have q : lcmpW x y < 0 := by rw [lcW]; exact (lc_lt x y).mpr h
  have q' : 0 < lcmpW y x := by rw [lcW]; exact (lc_gt y x).mpr h
  exact ⟨(if0 _ _).trans (tlt q).1, (if0 _ _).trans (tlt q).2.1, (if0 _ _).trans (tlt q').2.2.1, (if0 _ _).trans (tlt q').2.2.2⟩
theorem own_lcnl {x y : Int64} (h : ¬ x < y) : ifCond.holds .lt (lcmpW x y) = false ∧ ifCond.holds .ge (lcmpW x y) = true ∧ ifCond.holds .gt (lcmpW y x) = false ∧ ifCond.holds .le (lcmpW y x) = true := by
  have q : ¬ lcmpW x y < 0 := by rw [lcW]; exact fun z => h ((lc_lt x y).mp z)
  have q' : ¬ 0 < lcmpW y x := by rw [lcW]; exact fun z => h ((lc_gt y x).mp z)
  exact ⟨(if0 _ _).trans (flt q).1, (if0 _ _).trans (flt q).2.1, (if0 _ _).trans (flt q').2.2.1, (if0 _ _).trans (flt q').2.2.2⟩
theorem own_ord {args : Array Value} {s : State} {t : Term} {a : Addr} {C n d : String} {k : Int32} (ev : t.eval args s none [] s = some (.ref a)) (h : (Jvm.Cond.eq (.field t C n d) (.int k)).value args s none s [] = some true) : s.fieldOf? a C n d = some (.int k) := by
  have h1 := fld_at (C := C) (n := n) (dd := d) ev
  obtain ⟨x, y, e1, e2, -, k2⟩ := cmp_v (Or.inl h)
  obtain rfl : y = .int k := (Option.some.inj e2).symm
  obtain ⟨z, rfl⟩ := k2
  have q : z = k := by simpa [Jvm.Cond.value, e1, e2] using h
  rw [← h1, e1, q]
theorem own_apart {s : State} {a b : Addr} {C n d : String} {k j : Int32} (h1 : s.fieldOf? a C n d = some (.int k)) (h2 : s.fieldOf? b C n d = some (.int j)) (hk : k ≠ j) : ¬ a = b := fun e => by
  subst e; rw [h1] at h2; exact hk (Value.int.inj (Option.some.inj h2))

theorem d1_0 : decode prog_121_method_4_code 0 = .ok (.aload_n 0, 1) := by decide +kernel
theorem d1_1 : decode prog_121_method_4_code 1 = .ok (.getstatic 3, 3) := by decide +kernel
theorem d1_4 : decode prog_121_method_4_code 4 = .ok (.if_acmp .ne 17, 3) := by decide +kernel
theorem d1_7 : decode prog_121_method_4_code 7 = .ok (.dload_n 1, 1) := by decide +kernel
theorem d1_8 : decode prog_121_method_4_code 8 = .ok (.dload_n 3, 1) := by decide +kernel
theorem d1_9 : decode prog_121_method_4_code 9 = .ok (.dcmp .g, 1) := by decide +kernel
theorem d1_10 : decode prog_121_method_4_code 10 = .ok (.ifCond .ge 7, 3) := by decide +kernel
theorem d1_13 : decode prog_121_method_4_code 13 = .ok (.iconst 1, 1) := by decide +kernel
theorem d1_14 : decode prog_121_method_4_code 14 = .ok (.goto 18, 3) := by decide +kernel
theorem d1_17 : decode prog_121_method_4_code 17 = .ok (.iconst 0, 1) := by decide +kernel
theorem d1_18 : decode prog_121_method_4_code 18 = .ok (.goto 14, 3) := by decide +kernel
theorem d1_21 : decode prog_121_method_4_code 21 = .ok (.dload_n 1, 1) := by decide +kernel
theorem d1_22 : decode prog_121_method_4_code 22 = .ok (.dload_n 3, 1) := by decide +kernel
theorem d1_23 : decode prog_121_method_4_code 23 = .ok (.dcmp .l, 1) := by decide +kernel
theorem d1_24 : decode prog_121_method_4_code 24 = .ok (.ifCond .le 7, 3) := by decide +kernel
theorem d1_27 : decode prog_121_method_4_code 27 = .ok (.iconst 1, 1) := by decide +kernel
theorem d1_28 : decode prog_121_method_4_code 28 = .ok (.goto 4, 3) := by decide +kernel
theorem d1_31 : decode prog_121_method_4_code 31 = .ok (.iconst 0, 1) := by decide +kernel
theorem d1_32 : decode prog_121_method_4_code 32 = .ok (.ireturn, 1) := by decide +kernel
theorem pn_1 : plainName "com/example/inchworm/inchworm/model/Optimum" = true := by first | (simp [plainName, overriddenIn]; done) | decide +kernel
theorem ef_rm1 (m : MethodId) (x0 : Addr) (x1 : UInt64) (x2 : UInt64) : entryFrame m #[(.ref x0), (.double x1), (.double x2)] 5 = mkF m 0 #[.val (.ref x0), .val (.double x1), .second, .val (.double x2), .second] [] := by first | (simp [entryFrame, mkF, argsToLocals, Value.category]; done) | rfl
def own_better (a1 : Addr) (d1 d2 : UInt64) (aN : Addr) : Int32 := (if a1 = aN then (if (cmpValue (FP.dcmp d1 d2) .g) < (0 : Int32) then (1 : Int32) else (0 : Int32)) else (if (0 : Int32) < (cmpValue (FP.dcmp d1 d2) .l) then (1 : Int32) else (0 : Int32)))
def Q1 (a1 : Addr) (d1 d2 : UInt64) (aN : Addr) (h0 : Heap) (n0 : Nat) (v : Option Value) (h : Heap) (L : List Loc) : Prop := v = some (.int (own_better a1 d1 d2 aN)) ∧ Fr n0 L ∧ h = h0
set_option maxRecDepth 65536 in
set_option maxHeartbeats 40000000 in
theorem rm1 (l : Launch) (Z : State) (a0 : Array Value) (hw : ∀ d ∈ tables_1, d.before a0 Z = true) (ws : List Jvm.Cond) (a1 : Addr) (d1 : UInt64) (d2 : UInt64) (h0 : Heap) (n0 : Nat) (Z0 : n0 ≤ h0.size) (aN : Addr) (S_N : Sta Z h0 "com/example/inchworm/inchworm/model/Optimum" "MIN" "Lcom/example/inchworm/inchworm/model/Optimum;" (.ref aN)) :
    MetFree l (⟨"com/example/inchworm/inchworm/model/Optimum", "isBetter", "(DD)Z"⟩ : MethodName) (head1 (Jvm.Cond.code (⟨"com/example/inchworm/inchworm/model/Optimum", "isBetter", "(DD)Z"⟩ : MethodName) prog_121_method_4_code 5 (some .boolean) :: ws) ({ frames := 0, cells := 0, slots := 0, locals := 0 } : Room)) (fun a U => a = #[(.ref a1), (.double d1), (.double d2)] ∧ Z.Warmed39 U.vm ∧ U.heap = h0) (fun _ _ _ _ _ => True) (fun _ U o U' => ∃ v L, o = .returned v ∧ Q1 a1 d1 d2 aN h0 n0 v U'.heap L ∧ FrameEnd U o U' L ({ frames := 0, cells := 0, slots := 0, locals := 0 } : Room).cells ({ frames := 0, cells := 0, slots := 0, locals := 0 } : Room).slots) := by
  refine MetFree.of_bodySF (plainFor_of_name pn_1) hisR ?_
  intro p e s m args below meth c s₁ Bd hml0 hP hK
  obtain ⟨rfl, hZ, hh⟩ := hP
  have hx := Bd.exec
  have hby := Bd.bytes
  have hlk : meth.locks = false := BodyLoose.notSynchronized Bd
  have hml : c.maxLocals = 5 := hml0
  have hown : s.vm.findClass "com/example/inchworm/inchworm/model/Optimum" = some m.cls := findClass_of_methodNamed Bd.named
  have hnm := (name_of_methodNamed Bd.named Bd.method).1
  have X0 : Stand p l e ({ frames := 0, cells := 0, slots := 0, locals := 0 } : Room) s m #[(.ref a1), (.double d1), (.double d2)] below meth c s₁ [] 0 0 := Stand.of_body Bd
  have e0 : s₁.heap = h0 := by rw [← hh, Bd.state]; rfl
  have N0 := Fr.nil n0
  show OwnEnds p e below s (Q1 a1 d1 d2 aN h0 n0) ({ frames := 0, cells := 0, slots := 0, locals := 0 } : Room).cells ({ frames := 0, cells := 0, slots := 0, locals := 0 } : Room).slots s₁ (entryFrame m #[(.ref a1), (.double d1), (.double d2)] 5)
  refine own_step (T' := s₁) (f' := (mkF m 0 #[.val (.ref a1), .val (.double d1), .second, .val (.double d2), .second] [])) (fun t k => castTop (ef_rm1 m a1 d1 d2) k) ?_
  refine own_step (T' := s₁) (f' := (mkF m 1 #[.val (.ref a1), .val (.double d1), .second, .val (.double d2), .second] [(.ref a1)])) (fun t k => XS.aloadN X0.here hx rfl (hb hby d1_0) rfl rfl k) ?_
  obtain ⟨T1, X1, e1, st1⟩ := getS2 X0 hx hZ hown (host := "") (Or.inl (hw _ (List.mem_of_getElem? (i := 8) rfl))) Via.refl e0 S_N (g := (mkF m 1 #[.val (.ref a1), .val (.double d1), .second, .val (.double d2), .second] [(.ref a1)])) rfl (hb hby d1_1)
  refine own_step (T' := T1) (f' := (mkF m 4 #[.val (.ref a1), .val (.double d1), .second, .val (.double d2), .second] [(.ref aN), (.ref a1)])) (fun t k => st1 t k) ?_
  by_cases hc4_2 : a1 = aN
  · skip
    refine own_step (T' := T1) (f' := (mkF m 7 #[.val (.ref a1), .val (.double d1), .second, .val (.double d2), .second] [])) (fun t k => Jvm.RoadKit.acmp (g := (mkF m 4 #[.val (.ref a1), .val (.double d1), .second, .val (.double d2), .second] [(.ref aN), (.ref a1)])) X1 hx rfl rfl rfl (pc0 := 4) (pc' := 7) (same := true) rfl (hb hby d1_4) rfl (decide_eq_true (congrArg Value.ref hc4_2)) (by decide) (by decide) k) ?_
    refine own_step (T' := T1) (f' := (mkF m 8 #[.val (.ref a1), .val (.double d1), .second, .val (.double d2), .second] [(.double d1)])) (fun t k => XS.dloadN X1.here hx rfl (hb hby d1_7) rfl k) ?_
    refine own_step (T' := T1) (f' := (mkF m 9 #[.val (.ref a1), .val (.double d1), .second, .val (.double d2), .second] [(.double d2), (.double d1)])) (fun t k => XS.dloadN X1.here hx rfl (hb hby d1_8) rfl k) ?_
    refine own_step (T' := T1) (f' := (mkF m 10 #[.val (.ref a1), .val (.double d1), .second, .val (.double d2), .second] [(.int (cmpValue (FP.dcmp d1 d2) .g))])) (fun t k => XS.dcmpS X1.here hx rfl (hb hby d1_9) rfl rfl k) ?_
    by_cases hc10_3 : (cmpValue (FP.dcmp d1 d2) .g) < (0 : Int32)
    · skip
      refine own_step (T' := T1) (f' := (mkF m 13 #[.val (.ref a1), .val (.double d1), .second, .val (.double d2), .second] [])) (fun t k => XS.ifNo X1.here hx rfl (hb hby d1_10) rfl ((if0 _ _).trans (tlt hc10_3).2.1) k) ?_
      refine own_step (T' := T1) (f' := (mkF m 14 #[.val (.ref a1), .val (.double d1), .second, .val (.double d2), .second] [(.int (1 : Int32))])) (fun t k => XS.iconst X1.here hx rfl (hb hby d1_13) k) ?_
      refine own_step (T' := T1) (f' := (mkF m 32 #[.val (.ref a1), .val (.double d1), .second, .val (.double d2), .second] [(.int (1 : Int32))])) (fun t k => XS.goto X1.here hx rfl (pc0 := 14) (pc' := 32) rfl (hb hby d1_14) (by decide) (by decide) k) ?_
      exact own_retN X1 hx hlk (t := .boolean) Bd.returns (by simp) (hb hby d1_32) (by decide) (by decide) ⟨by unfold own_better; rw [if_pos hc4_2, if_pos hc10_3]; try rfl, N0, e1⟩
    · skip
      refine own_step (T' := T1) (f' := (mkF m 17 #[.val (.ref a1), .val (.double d1), .second, .val (.double d2), .second] [])) (fun t k => XS.ifYes X1.here hx rfl (pc0 := 10) (pc' := 17) rfl (hb hby d1_10) rfl ((if0 _ _).trans (flt hc10_3).2.1) (by decide) (by decide) k) ?_
      refine own_step (T' := T1) (f' := (mkF m 18 #[.val (.ref a1), .val (.double d1), .second, .val (.double d2), .second] [(.int (0 : Int32))])) (fun t k => XS.iconst X1.here hx rfl (hb hby d1_17) k) ?_
      refine own_step (T' := T1) (f' := (mkF m 32 #[.val (.ref a1), .val (.double d1), .second, .val (.double d2), .second] [(.int (0 : Int32))])) (fun t k => XS.goto X1.here hx rfl (pc0 := 18) (pc' := 32) rfl (hb hby d1_18) (by decide) (by decide) k) ?_
      exact own_retN X1 hx hlk (t := .boolean) Bd.returns (by simp) (hb hby d1_32) (by decide) (by decide) ⟨by unfold own_better; rw [if_pos hc4_2, if_neg hc10_3]; try rfl, N0, e1⟩
  · skip
    refine own_step (T' := T1) (f' := (mkF m 21 #[.val (.ref a1), .val (.double d1), .second, .val (.double d2), .second] [])) (fun t k => Jvm.RoadKit.acmp (g := (mkF m 4 #[.val (.ref a1), .val (.double d1), .second, .val (.double d2), .second] [(.ref aN), (.ref a1)])) X1 hx rfl rfl rfl (pc0 := 4) (pc' := 21) (same := false) rfl (hb hby d1_4) rfl (decide_eq_false fun q => hc4_2 (Value.ref.inj q)) (by decide) (by decide) k) ?_
    refine own_step (T' := T1) (f' := (mkF m 22 #[.val (.ref a1), .val (.double d1), .second, .val (.double d2), .second] [(.double d1)])) (fun t k => XS.dloadN X1.here hx rfl (hb hby d1_21) rfl k) ?_
    refine own_step (T' := T1) (f' := (mkF m 23 #[.val (.ref a1), .val (.double d1), .second, .val (.double d2), .second] [(.double d2), (.double d1)])) (fun t k => XS.dloadN X1.here hx rfl (hb hby d1_22) rfl k) ?_
    refine own_step (T' := T1) (f' := (mkF m 24 #[.val (.ref a1), .val (.double d1), .second, .val (.double d2), .second] [(.int (cmpValue (FP.dcmp d1 d2) .l))])) (fun t k => XS.dcmpS X1.here hx rfl (hb hby d1_23) rfl rfl k) ?_
    by_cases hc24_4 : (0 : Int32) < (cmpValue (FP.dcmp d1 d2) .l)
    · skip
      refine own_step (T' := T1) (f' := (mkF m 27 #[.val (.ref a1), .val (.double d1), .second, .val (.double d2), .second] [])) (fun t k => XS.ifNo X1.here hx rfl (hb hby d1_24) rfl ((if0 _ _).trans (tlt hc24_4).2.2.2) k) ?_
      refine own_step (T' := T1) (f' := (mkF m 28 #[.val (.ref a1), .val (.double d1), .second, .val (.double d2), .second] [(.int (1 : Int32))])) (fun t k => XS.iconst X1.here hx rfl (hb hby d1_27) k) ?_
      refine own_step (T' := T1) (f' := (mkF m 32 #[.val (.ref a1), .val (.double d1), .second, .val (.double d2), .second] [(.int (1 : Int32))])) (fun t k => XS.goto X1.here hx rfl (pc0 := 28) (pc' := 32) rfl (hb hby d1_28) (by decide) (by decide) k) ?_
      exact own_retN X1 hx hlk (t := .boolean) Bd.returns (by simp) (hb hby d1_32) (by decide) (by decide) ⟨by unfold own_better; rw [if_neg hc4_2, if_pos hc24_4]; try rfl, N0, e1⟩
    · skip
      refine own_step (T' := T1) (f' := (mkF m 31 #[.val (.ref a1), .val (.double d1), .second, .val (.double d2), .second] [])) (fun t k => XS.ifYes X1.here hx rfl (pc0 := 24) (pc' := 31) rfl (hb hby d1_24) rfl ((if0 _ _).trans (flt hc24_4).2.2.2) (by decide) (by decide) k) ?_
      refine own_step (T' := T1) (f' := (mkF m 32 #[.val (.ref a1), .val (.double d1), .second, .val (.double d2), .second] [(.int (0 : Int32))])) (fun t k => XS.iconst X1.here hx rfl (hb hby d1_31) k) ?_
      exact own_retN X1 hx hlk (t := .boolean) Bd.returns (by simp) (hb hby d1_32) (by decide) (by decide) ⟨by unfold own_better; rw [if_neg hc4_2, if_neg hc24_4]; try rfl, N0, e1⟩

/-! the plain law: ints widen exactly, so doubles compare as the ints do -/
theorem own_i64 (x : Int32) : x.toInt64.toInt = x.toInt := by simp
theorem own_small53 (x : Int32) : B53 x.toInt64 := by
  unfold B53; rw [own_i64]
  have h1 := Int32.minValue_le_toInt x
  have h2 := Int32.toInt_lt x
  have : Int32.minValue.toInt = -2147483648 := rfl
  omega
theorem own_cmp (x y : Int32) (o : CmpOp) : cmpValue (FP.dcmp (FP.i2d x) (FP.i2d y)) o = lcmpV x.toInt64 y.toInt64 := by
  rw [i2d_w, i2d_w, dcmpV_w (own_small53 x) (own_small53 y), lcW]
theorem own_cmp_lt (x y : Int32) (o : CmpOp) : cmpValue (FP.dcmp (FP.i2d x) (FP.i2d y)) o < 0 ↔ x < y := by
  rw [own_cmp, lc_lt, Int64.lt_iff_toInt_lt, Int32.lt_iff_toInt_lt, own_i64, own_i64]
theorem own_cmp_gt (x y : Int32) (o : CmpOp) : 0 < cmpValue (FP.dcmp (FP.i2d x) (FP.i2d y)) o ↔ y < x := by
  rw [own_cmp, lc_gt, Int64.lt_iff_toInt_lt, Int32.lt_iff_toInt_lt, own_i64, own_i64]
theorem own_min1 {aN : Addr} {x b : Int32} (h : x < b) : own_better aN (FP.i2d x) (FP.i2d b) aN = 1 := by
  unfold own_better; rw [if_pos rfl, if_pos ((own_cmp_lt _ _ _).mpr h)]
theorem own_min0 {aN : Addr} {x b : Int32} (h : ¬ x < b) : own_better aN (FP.i2d x) (FP.i2d b) aN = 0 := by
  unfold own_better; rw [if_pos rfl, if_neg fun q => h ((own_cmp_lt _ _ _).mp q)]
theorem own_max1 {aM aN : Addr} (n : ¬ aM = aN) {x b : Int32} (h : b < x) : own_better aM (FP.i2d x) (FP.i2d b) aN = 1 := by
  unfold own_better; rw [if_neg n, if_pos ((own_cmp_gt _ _ _).mpr h)]
theorem own_max0 {aM aN : Addr} (n : ¬ aM = aN) {x b : Int32} (h : ¬ b < x) : own_better aM (FP.i2d x) (FP.i2d b) aN = 0 := by
  unfold own_better; rw [if_neg n, if_neg fun q => h ((own_cmp_gt _ _ _).mp q)]

theorem pn_0 : plainName "com/example/inchworm/inchworm/model/OptimumIsBetterPinLaw" = true := by first | (simp [plainName, overriddenIn]; done) | decide +kernel
theorem pd_0_0 : parseMethodDescriptor "(DD)Z" = some ⟨[.double, .double], some .boolean⟩ := by decide +kernel
theorem ef_rm0 (m : MethodId) (x0 : Int32) (x1 : Int32) (x2 : Int32) : entryFrame m #[(.int x0), (.int x1), (.int x2)] maxLocals = mkF m 0 #[.val (.int x0), .val (.int x1), .val (.int x2), .unset, .unset, .unset, .unset, .unset, .unset, .unset, .unset, .unset, .unset] [] := by first | (simp [entryFrame, mkF, argsToLocals, Value.category, maxLocals]; done) | rfl
def Q0 (n0 : Nat) (v : Option Value) (h : Heap) (L : List Loc) : Prop := v = some (.int 1) ∧ Fr n0 L
set_option maxRecDepth 65536 in
set_option maxHeartbeats 40000000 in
theorem rm0 (l : Launch) (Z : State) (a0 : Array Value) (hw : ∀ d ∈ tables_1, d.before a0 Z = true) (ws : List Jvm.Cond) (p1 : Int32) (p2 : Int32) (p3 : Int32) (h0 : Heap) (n0 : Nat) (Z0 : n0 ≤ h0.size) (aN aM : Addr) (S_N : Sta Z h0 "com/example/inchworm/inchworm/model/Optimum" "MIN" "Lcom/example/inchworm/inchworm/model/Optimum;" (.ref aN)) (S_M : Sta Z h0 "com/example/inchworm/inchworm/model/Optimum" "MAX" "Lcom/example/inchworm/inchworm/model/Optimum;" (.ref aM)) (X_N : Exa Z h0 aN "com/example/inchworm/inchworm/model/Optimum") (X_M : Exa Z h0 aM "com/example/inchworm/inchworm/model/Optimum") (nMN : ¬ aM = aN) :
    MetFree l x (head1 (Jvm.Cond.code x code maxLocals ret :: ws) room_1) (fun a U => a = #[(.int p1), (.int p2), (.int p3)] ∧ Z.Warmed39 U.vm ∧ U.heap = h0) (fun _ _ _ _ _ => True) (fun _ U o U' => ∃ v L, o = .returned v ∧ Q0 n0 v U'.heap L ∧ FrameEnd U o U' L room_1.cells room_1.slots) := by
  refine MetFree.of_bodySF (plainFor_of_name pn_0) hisR ?_
  intro p e s m args below meth c s₁ Bd hml0 hP hK
  obtain ⟨rfl, hZ, hh⟩ := hP
  have hx := Bd.exec
  have hby := Bd.bytes
  have hlk : meth.locks = false := BodyLoose.notSynchronized Bd
  have hml : c.maxLocals = 13 := hml0
  have hown : s.vm.findClass "com/example/inchworm/inchworm/model/OptimumIsBetterPinLaw" = some m.cls := findClass_of_methodNamed Bd.named
  have hnm := (name_of_methodNamed Bd.named Bd.method).1
  have X0 : Stand p l e room_1 s m #[(.int p1), (.int p2), (.int p3)] below meth c s₁ [] 0 0 := Stand.of_body Bd
  have e0 : s₁.heap = h0 := by rw [← hh, Bd.state]; rfl
  have N0 := Fr.nil n0
  show OwnEnds p e below s (Q0 n0) room_1.cells room_1.slots s₁ (entryFrame m #[(.int p1), (.int p2), (.int p3)] maxLocals)
  refine own_step (T' := s₁) (f' := (mkF m 0 #[.val (.int p1), .val (.int p2), .val (.int p3), .unset, .unset, .unset, .unset, .unset, .unset, .unset, .unset, .unset, .unset] [])) (fun t k => castTop (ef_rm0 m p1 p2 p3) k) ?_
  refine own_step (T' := s₁) (f' := (mkF m 1 #[.val (.int p1), .val (.int p2), .val (.int p3), .unset, .unset, .unset, .unset, .unset, .unset, .unset, .unset, .unset, .unset] [(.int p1)])) (fun t k => XS.iloadN X0.here hx rfl (hb hby at_0) rfl k) ?_
  refine own_step (T' := s₁) (f' := (mkF m 2 #[.val (.int p1), .val (.int p2), .val (.int p3), .unset, .unset, .unset, .unset, .unset, .unset, .unset, .unset, .unset, .unset] [(.int (1 : Int32)), (.int p1)])) (fun t k => XS.iconst X0.here hx rfl (hb hby at_1) k) ?_
  refine own_step (T' := s₁) (f' := (mkF m 3 #[.val (.int p1), .val (.int p2), .val (.int p3), .unset, .unset, .unset, .unset, .unset, .unset, .unset, .unset, .unset, .unset] [(.int (p1 &&& (1 : Int32)))])) (fun t k => XS.iand X0.here hx rfl (hb hby at_2) rfl k) ?_
  by_cases hc3_1 : (p1 &&& (1 : Int32)) = (0 : Int32)
  · skip
    refine own_step (T' := s₁) (f' := (mkF m 6 #[.val (.int p1), .val (.int p2), .val (.int p3), .unset, .unset, .unset, .unset, .unset, .unset, .unset, .unset, .unset, .unset] [])) (fun t k => XS.ifNo X0.here hx rfl (hb hby at_3) rfl ((if0 _ _).trans (teq hc3_1).2) k) ?_
    refine own_step (T' := s₁) (f' := (mkF m 7 #[.val (.int p1), .val (.int p2), .val (.int p3), .unset, .unset, .unset, .unset, .unset, .unset, .unset, .unset, .unset, .unset] [(.int (1 : Int32))])) (fun t k => XS.iconst X0.here hx rfl (hb hby at_6) k) ?_
    refine own_step (T' := s₁) (f' := (mkF m 11 #[.val (.int p1), .val (.int p2), .val (.int p3), .unset, .unset, .unset, .unset, .unset, .unset, .unset, .unset, .unset, .unset] [(.int (1 : Int32))])) (fun t k => XS.goto X0.here hx rfl (pc0 := 7) (pc' := 11) rfl (hb hby at_7) (by decide) (by decide) k) ?_
    refine own_step (T' := s₁) (f' := (mkF m 12 #[.val (.int p1), .val (.int p2), .val (.int p3), .val (.int (1 : Int32)), .unset, .unset, .unset, .unset, .unset, .unset, .unset, .unset, .unset] [])) (fun t k => XS.istoreN X0.here hx rfl (hb hby at_11) rfl (l' := #[.val (.int p1), .val (.int p2), .val (.int p3), .val (.int (1 : Int32)), .unset, .unset, .unset, .unset, .unset, .unset, .unset, .unset, .unset]) rfl k) ?_
    refine own_step (T' := s₁) (f' := (mkF m 13 #[.val (.int p1), .val (.int p2), .val (.int p3), .val (.int (1 : Int32)), .unset, .unset, .unset, .unset, .unset, .unset, .unset, .unset, .unset] [(.int p1)])) (fun t k => XS.iloadN X0.here hx rfl (hb hby at_12) rfl k) ?_
    refine own_step (T' := s₁) (f' := (mkF m 14 #[.val (.int p1), .val (.int p2), .val (.int p3), .val (.int (1 : Int32)), .unset, .unset, .unset, .unset, .unset, .unset, .unset, .unset, .unset] [(.int (2 : Int32)), (.int p1)])) (fun t k => XS.iconst X0.here hx rfl (hb hby at_13) k) ?_
    refine own_step (T' := s₁) (f' := (mkF m 15 #[.val (.int p1), .val (.int p2), .val (.int p3), .val (.int (1 : Int32)), .unset, .unset, .unset, .unset, .unset, .unset, .unset, .unset, .unset] [(.int (p1 &&& (2 : Int32)))])) (fun t k => XS.iand X0.here hx rfl (hb hby at_14) rfl k) ?_
    by_cases hc15_2 : (p1 &&& (2 : Int32)) = (0 : Int32)
    · skip
      refine own_step (T' := s₁) (f' := (mkF m 22 #[.val (.int p1), .val (.int p2), .val (.int p3), .val (.int (1 : Int32)), .unset, .unset, .unset, .unset, .unset, .unset, .unset, .unset, .unset] [])) (fun t k => XS.ifYes X0.here hx rfl (pc0 := 15) (pc' := 22) rfl (hb hby at_15) rfl ((if0 _ _).trans (teq hc15_2).1) (by decide) (by decide) k) ?_
      refine own_step (T' := s₁) (f' := (mkF m 23 #[.val (.int p1), .val (.int p2), .val (.int p3), .val (.int (1 : Int32)), .unset, .unset, .unset, .unset, .unset, .unset, .unset, .unset, .unset] [(.int (0 : Int32))])) (fun t k => XS.iconst X0.here hx rfl (hb hby at_22) k) ?_
      refine own_step (T' := s₁) (f' := (mkF m 25 #[.val (.int p1), .val (.int p2), .val (.int p3), .val (.int (1 : Int32)), .val (.int (0 : Int32)), .unset, .unset, .unset, .unset, .unset, .unset, .unset, .unset] [])) (fun t k => XS.istore X0.here hx rfl (hb hby at_23) rfl (l' := #[.val (.int p1), .val (.int p2), .val (.int p3), .val (.int (1 : Int32)), .val (.int (0 : Int32)), .unset, .unset, .unset, .unset, .unset, .unset, .unset, .unset]) rfl k) ?_
      refine own_step (T' := s₁) (f' := (mkF m 27 #[.val (.int p1), .val (.int p2), .val (.int p3), .val (.int (1 : Int32)), .val (.int (0 : Int32)), .unset, .unset, .unset, .unset, .unset, .unset, .unset, .unset] [(.int (0 : Int32))])) (fun t k => XS.iload X0.here hx rfl (hb hby at_25) rfl k) ?_
      refine own_step (T' := s₁) (f' := (mkF m 34 #[.val (.int p1), .val (.int p2), .val (.int p3), .val (.int (1 : Int32)), .val (.int (0 : Int32)), .unset, .unset, .unset, .unset, .unset, .unset, .unset, .unset] [])) (fun t k => XS.ifYes X0.here hx rfl (pc0 := 27) (pc' := 34) rfl (hb hby at_27) rfl ((if0 _ _).trans (teq (by decide : (0 : Int32) = (0 : Int32))).1) (by decide) (by decide) k) ?_
      refine own_step (T' := s₁) (f' := (mkF m 35 #[.val (.int p1), .val (.int p2), .val (.int p3), .val (.int (1 : Int32)), .val (.int (0 : Int32)), .unset, .unset, .unset, .unset, .unset, .unset, .unset, .unset] [(.int p3)])) (fun t k => XS.iloadN X0.here hx rfl (hb hby at_34) rfl k) ?_
      refine own_step (T' := s₁) (f' := (mkF m 37 #[.val (.int p1), .val (.int p2), .val (.int p3), .val (.int (1 : Int32)), .val (.int (0 : Int32)), .val (.int p3), .unset, .unset, .unset, .unset, .unset, .unset, .unset] [])) (fun t k => XS.istore X0.here hx rfl (hb hby at_35) rfl (l' := #[.val (.int p1), .val (.int p2), .val (.int p3), .val (.int (1 : Int32)), .val (.int (0 : Int32)), .val (.int p3), .unset, .unset, .unset, .unset, .unset, .unset, .unset]) rfl k) ?_
      refine own_step (T' := s₁) (f' := (mkF m 38 #[.val (.int p1), .val (.int p2), .val (.int p3), .val (.int (1 : Int32)), .val (.int (0 : Int32)), .val (.int p3), .unset, .unset, .unset, .unset, .unset, .unset, .unset] [(.int (1 : Int32))])) (fun t k => XS.iloadN X0.here hx rfl (hb hby at_37) rfl k) ?_
      refine own_step (T' := s₁) (f' := (mkF m 41 #[.val (.int p1), .val (.int p2), .val (.int p3), .val (.int (1 : Int32)), .val (.int (0 : Int32)), .val (.int p3), .unset, .unset, .unset, .unset, .unset, .unset, .unset] [])) (fun t k => XS.ifNo X0.here hx rfl (hb hby at_38) rfl ((if0 _ _).trans (feq (by decide : ¬ ((1 : Int32) = (0 : Int32)))).1) k) ?_
      obtain ⟨T3, X3, e3, st3⟩ := getS2 X0 hx hZ hown (host := "") (Or.inl (hw _ (List.mem_of_getElem? (i := 0) rfl))) Via.refl e0 S_N (g := (mkF m 41 #[.val (.int p1), .val (.int p2), .val (.int p3), .val (.int (1 : Int32)), .val (.int (0 : Int32)), .val (.int p3), .unset, .unset, .unset, .unset, .unset, .unset, .unset] [])) rfl (hb hby at_41)
      refine own_step (T' := T3) (f' := (mkF m 44 #[.val (.int p1), .val (.int p2), .val (.int p3), .val (.int (1 : Int32)), .val (.int (0 : Int32)), .val (.int p3), .unset, .unset, .unset, .unset, .unset, .unset, .unset] [(.ref aN)])) (fun t k => st3 t k) ?_
      refine own_step (T' := T3) (f' := (mkF m 50 #[.val (.int p1), .val (.int p2), .val (.int p3), .val (.int (1 : Int32)), .val (.int (0 : Int32)), .val (.int p3), .unset, .unset, .unset, .unset, .unset, .unset, .unset] [(.ref aN)])) (fun t k => XS.goto X3.here hx rfl (pc0 := 44) (pc' := 50) rfl (hb hby at_44) (by decide) (by decide) k) ?_
      refine own_step (T' := T3) (f' := (mkF m 52 #[.val (.int p1), .val (.int p2), .val (.int p3), .val (.int (1 : Int32)), .val (.int (0 : Int32)), .val (.int p3), .val (.ref aN), .unset, .unset, .unset, .unset, .unset, .unset] [])) (fun t k => XS.astore X3.here hx rfl (hb hby at_50) rfl rfl (l' := #[.val (.int p1), .val (.int p2), .val (.int p3), .val (.int (1 : Int32)), .val (.int (0 : Int32)), .val (.int p3), .val (.ref aN), .unset, .unset, .unset, .unset, .unset, .unset]) rfl k) ?_
      refine own_step (T' := T3) (f' := (mkF m 53 #[.val (.int p1), .val (.int p2), .val (.int p3), .val (.int (1 : Int32)), .val (.int (0 : Int32)), .val (.int p3), .val (.ref aN), .unset, .unset, .unset, .unset, .unset, .unset] [(.int p2)])) (fun t k => XS.iloadN X3.here hx rfl (hb hby at_52) rfl k) ?_
      refine own_step (T' := T3) (f' := (mkF m 54 #[.val (.int p1), .val (.int p2), .val (.int p3), .val (.int (1 : Int32)), .val (.int (0 : Int32)), .val (.int p3), .val (.ref aN), .unset, .unset, .unset, .unset, .unset, .unset] [(.double (FP.i2d p2))])) (fun t k => XS.i2dS X3.here hx rfl (hb hby at_53) rfl rfl k) ?_
      refine own_step (T' := T3) (f' := (mkF m 56 #[.val (.int p1), .val (.int p2), .val (.int p3), .val (.int (1 : Int32)), .val (.int (0 : Int32)), .val (.int p3), .val (.ref aN), .val (.double (FP.i2d p2)), .second, .unset, .unset, .unset, .unset] [])) (fun t k => XS.dstore X3.here hx rfl (hb hby at_54) rfl (l' := #[.val (.int p1), .val (.int p2), .val (.int p3), .val (.int (1 : Int32)), .val (.int (0 : Int32)), .val (.int p3), .val (.ref aN), .val (.double (FP.i2d p2)), .second, .unset, .unset, .unset, .unset]) rfl k) ?_
      refine own_step (T' := T3) (f' := (mkF m 58 #[.val (.int p1), .val (.int p2), .val (.int p3), .val (.int (1 : Int32)), .val (.int (0 : Int32)), .val (.int p3), .val (.ref aN), .val (.double (FP.i2d p2)), .second, .unset, .unset, .unset, .unset] [(.int p3)])) (fun t k => XS.iload X3.here hx rfl (hb hby at_56) rfl k) ?_
      refine own_step (T' := T3) (f' := (mkF m 59 #[.val (.int p1), .val (.int p2), .val (.int p3), .val (.int (1 : Int32)), .val (.int (0 : Int32)), .val (.int p3), .val (.ref aN), .val (.double (FP.i2d p2)), .second, .unset, .unset, .unset, .unset] [(.double (FP.i2d p3))])) (fun t k => XS.i2dS X3.here hx rfl (hb hby at_58) rfl rfl k) ?_
      refine own_step (T' := T3) (f' := (mkF m 61 #[.val (.int p1), .val (.int p2), .val (.int p3), .val (.int (1 : Int32)), .val (.int (0 : Int32)), .val (.int p3), .val (.ref aN), .val (.double (FP.i2d p2)), .second, .val (.double (FP.i2d p3)), .second, .unset, .unset] [])) (fun t k => XS.dstore X3.here hx rfl (hb hby at_59) rfl (l' := #[.val (.int p1), .val (.int p2), .val (.int p3), .val (.int (1 : Int32)), .val (.int (0 : Int32)), .val (.int p3), .val (.ref aN), .val (.double (FP.i2d p2)), .second, .val (.double (FP.i2d p3)), .second, .unset, .unset]) rfl k) ?_
      refine own_step (T' := T3) (f' := (mkF m 63 #[.val (.int p1), .val (.int p2), .val (.int p3), .val (.int (1 : Int32)), .val (.int (0 : Int32)), .val (.int p3), .val (.ref aN), .val (.double (FP.i2d p2)), .second, .val (.double (FP.i2d p3)), .second, .unset, .unset] [(.ref aN)])) (fun t k => XS.aload X3.here hx rfl (hb hby at_61) rfl rfl k) ?_
      refine own_step (T' := T3) (f' := (mkF m 65 #[.val (.int p1), .val (.int p2), .val (.int p3), .val (.int (1 : Int32)), .val (.int (0 : Int32)), .val (.int p3), .val (.ref aN), .val (.double (FP.i2d p2)), .second, .val (.double (FP.i2d p3)), .second, .unset, .unset] [(.double (FP.i2d p2)), (.ref aN)])) (fun t k => XS.dload X3.here hx rfl (hb hby at_63) rfl k) ?_
      refine own_step (T' := T3) (f' := (mkF m 67 #[.val (.int p1), .val (.int p2), .val (.int p3), .val (.int (1 : Int32)), .val (.int (0 : Int32)), .val (.int p3), .val (.ref aN), .val (.double (FP.i2d p2)), .second, .val (.double (FP.i2d p3)), .second, .unset, .unset] [(.double (FP.i2d p3)), (.double (FP.i2d p2)), (.ref aN)])) (fun t k => XS.dload X3.here hx rfl (hb hby at_65) rfl k) ?_
      obtain ⟨cq4, kq4, q4a, q4b, q4c⟩ := isOf hZ e3 X_N
      obtain ⟨_, _, ⟨T4, L4, k4, n4⟩, -, X4, ⟨Lc4, hQ4, l4, y4, z4⟩, st4⟩ := X3.virtualBack hx (y := (⟨"com/example/inchworm/inchworm/model/Optimum", "isBetter", "(DD)Z"⟩ : MethodName)) (z := (⟨"com/example/inchworm/inchworm/model/Optimum", "isBetter", "(DD)Z"⟩ : MethodName)) hown (mvT hZ (hw _ (List.mem_of_getElem? (i := 3) rfl))) (mvT hZ (hw _ (List.mem_of_getElem? (i := 4) rfl))) (notFace_of_selects (args := #[]) (mvT hZ (hw _ (List.mem_of_getElem? (i := 6) rfl)))) (mvT hZ (hw _ (List.mem_of_getElem? (i := 6) rfl))) (mvT hZ (hw _ (List.mem_of_getElem? (i := 5) rfl))) (by decide) (backOf (W := 0) (rm1 l Z a0 hw [] aN (FP.i2d p2) (FP.i2d p3) h0 n0 Z0 aN S_N) hZ (hw _ (List.mem_of_getElem? (i := 7) rfl)) (hw _ (List.mem_of_getElem? (i := 1) rfl)) (by decide) (by decide)) q4a q4c (g := (mkF m 67 #[.val (.int p1), .val (.int p2), .val (.int p3), .val (.int (1 : Int32)), .val (.int (0 : Int32)), .val (.int p3), .val (.ref aN), .val (.double (FP.i2d p2)), .second, .val (.double (FP.i2d p3)), .second, .unset, .unset] [(.double (FP.i2d p3)), (.double (FP.i2d p2)), (.ref aN)])) rfl (by rw [hml]; rfl) (Steps.refl _) (argsL := [(.double (FP.i2d p2)), (.double (FP.i2d p3))]) (rest := []) (lenOf pd_0_0 rfl) rfl (by show 2 * 0 + _ ≤ _; exact Nat.le_of_eq rfl) (hb hby at_67) (fun _ _ => ⟨rfl, e3, (by decide : 0 + 0 ≤ _), (by decide : 0 + 0 ≤ _)⟩)
      dsimp only [Pt.U, Pt.locs, Pt.cells, Pt.slots] at X4 l4 y4 z4 st4 hQ4
      subst l4 y4 z4
      obtain ⟨rfl, N4q, E4⟩ := hQ4
      have N4 := Fr.app N0 N4q
      refine own_step (T' := T4) (f' := (mkF m 70 #[.val (.int p1), .val (.int p2), .val (.int p3), .val (.int (1 : Int32)), .val (.int (0 : Int32)), .val (.int p3), .val (.ref aN), .val (.double (FP.i2d p2)), .second, .val (.double (FP.i2d p3)), .second, .unset, .unset] [(.int (own_better aN (FP.i2d p2) (FP.i2d p3) aN))])) (fun t k => st4.trans k) ?_
      refine own_step (T' := T4) (f' := (mkF m 72 #[.val (.int p1), .val (.int p2), .val (.int p3), .val (.int (1 : Int32)), .val (.int (0 : Int32)), .val (.int p3), .val (.ref aN), .val (.double (FP.i2d p2)), .second, .val (.double (FP.i2d p3)), .second, .val (.int (own_better aN (FP.i2d p2) (FP.i2d p3) aN)), .unset] [])) (fun t k => XS.istore X4.here hx rfl (hb hby at_70) rfl (l' := #[.val (.int p1), .val (.int p2), .val (.int p3), .val (.int (1 : Int32)), .val (.int (0 : Int32)), .val (.int p3), .val (.ref aN), .val (.double (FP.i2d p2)), .second, .val (.double (FP.i2d p3)), .second, .val (.int (own_better aN (FP.i2d p2) (FP.i2d p3) aN)), .unset]) rfl k) ?_
      refine own_step (T' := T4) (f' := (mkF m 73 #[.val (.int p1), .val (.int p2), .val (.int p3), .val (.int (1 : Int32)), .val (.int (0 : Int32)), .val (.int p3), .val (.ref aN), .val (.double (FP.i2d p2)), .second, .val (.double (FP.i2d p3)), .second, .val (.int (own_better aN (FP.i2d p2) (FP.i2d p3) aN)), .unset] [(.int (1 : Int32))])) (fun t k => XS.iloadN X4.here hx rfl (hb hby at_72) rfl k) ?_
      refine own_step (T' := T4) (f' := (mkF m 76 #[.val (.int p1), .val (.int p2), .val (.int p3), .val (.int (1 : Int32)), .val (.int (0 : Int32)), .val (.int p3), .val (.ref aN), .val (.double (FP.i2d p2)), .second, .val (.double (FP.i2d p3)), .second, .val (.int (own_better aN (FP.i2d p2) (FP.i2d p3) aN)), .unset] [])) (fun t k => XS.ifNo X4.here hx rfl (hb hby at_73) rfl ((if0 _ _).trans (feq (by decide : ¬ ((1 : Int32) = (0 : Int32)))).1) k) ?_
      refine own_step (T' := T4) (f' := (mkF m 77 #[.val (.int p1), .val (.int p2), .val (.int p3), .val (.int (1 : Int32)), .val (.int (0 : Int32)), .val (.int p3), .val (.ref aN), .val (.double (FP.i2d p2)), .second, .val (.double (FP.i2d p3)), .second, .val (.int (own_better aN (FP.i2d p2) (FP.i2d p3) aN)), .unset] [(.int p2)])) (fun t k => XS.iloadN X4.here hx rfl (hb hby at_76) rfl k) ?_
      refine own_step (T' := T4) (f' := (mkF m 79 #[.val (.int p1), .val (.int p2), .val (.int p3), .val (.int (1 : Int32)), .val (.int (0 : Int32)), .val (.int p3), .val (.ref aN), .val (.double (FP.i2d p2)), .second, .val (.double (FP.i2d p3)), .second, .val (.int (own_better aN (FP.i2d p2) (FP.i2d p3) aN)), .unset] [(.int p3), (.int p2)])) (fun t k => XS.iload X4.here hx rfl (hb hby at_77) rfl k) ?_
      by_cases hc79_5 : p2 < p3
      · skip
        refine own_step (T' := T4) (f' := (mkF m 82 #[.val (.int p1), .val (.int p2), .val (.int p3), .val (.int (1 : Int32)), .val (.int (0 : Int32)), .val (.int p3), .val (.ref aN), .val (.double (FP.i2d p2)), .second, .val (.double (FP.i2d p3)), .second, .val (.int (own_better aN (FP.i2d p2) (FP.i2d p3) aN)), .unset] [])) (fun t k => XS.icmpNo X4.here hx rfl (hb hby at_79) rfl (tlt hc79_5).2.1 k) ?_
        refine own_step (T' := T4) (f' := (mkF m 83 #[.val (.int p1), .val (.int p2), .val (.int p3), .val (.int (1 : Int32)), .val (.int (0 : Int32)), .val (.int p3), .val (.ref aN), .val (.double (FP.i2d p2)), .second, .val (.double (FP.i2d p3)), .second, .val (.int (own_better aN (FP.i2d p2) (FP.i2d p3) aN)), .unset] [(.int (1 : Int32))])) (fun t k => XS.iconst X4.here hx rfl (hb hby at_82) k) ?_
        refine own_step (T' := T4) (f' := (mkF m 87 #[.val (.int p1), .val (.int p2), .val (.int p3), .val (.int (1 : Int32)), .val (.int (0 : Int32)), .val (.int p3), .val (.ref aN), .val (.double (FP.i2d p2)), .second, .val (.double (FP.i2d p3)), .second, .val (.int (own_better aN (FP.i2d p2) (FP.i2d p3) aN)), .unset] [(.int (1 : Int32))])) (fun t k => XS.goto X4.here hx rfl (pc0 := 83) (pc' := 87) rfl (hb hby at_83) (by decide) (by decide) k) ?_
        refine own_step (T' := T4) (f' := (mkF m 89 #[.val (.int p1), .val (.int p2), .val (.int p3), .val (.int (1 : Int32)), .val (.int (0 : Int32)), .val (.int p3), .val (.ref aN), .val (.double (FP.i2d p2)), .second, .val (.double (FP.i2d p3)), .second, .val (.int (own_better aN (FP.i2d p2) (FP.i2d p3) aN)), .val (.int (1 : Int32))] [])) (fun t k => XS.istore X4.here hx rfl (hb hby at_87) rfl (l' := #[.val (.int p1), .val (.int p2), .val (.int p3), .val (.int (1 : Int32)), .val (.int (0 : Int32)), .val (.int p3), .val (.ref aN), .val (.double (FP.i2d p2)), .second, .val (.double (FP.i2d p3)), .second, .val (.int (own_better aN (FP.i2d p2) (FP.i2d p3) aN)), .val (.int (1 : Int32))]) rfl k) ?_
        refine own_step (T' := T4) (f' := (mkF m 105 #[.val (.int p1), .val (.int p2), .val (.int p3), .val (.int (1 : Int32)), .val (.int (0 : Int32)), .val (.int p3), .val (.ref aN), .val (.double (FP.i2d p2)), .second, .val (.double (FP.i2d p3)), .second, .val (.int (own_better aN (FP.i2d p2) (FP.i2d p3) aN)), .val (.int (1 : Int32))] [])) (fun t k => XS.goto X4.here hx rfl (pc0 := 89) (pc' := 105) rfl (hb hby at_89) (by decide) (by decide) k) ?_
        refine own_step (T' := T4) (f' := (mkF m 107 #[.val (.int p1), .val (.int p2), .val (.int p3), .val (.int (1 : Int32)), .val (.int (0 : Int32)), .val (.int p3), .val (.ref aN), .val (.double (FP.i2d p2)), .second, .val (.double (FP.i2d p3)), .second, .val (.int (own_better aN (FP.i2d p2) (FP.i2d p3) aN)), .val (.int (1 : Int32))] [(.int (own_better aN (FP.i2d p2) (FP.i2d p3) aN))])) (fun t k => XS.iload X4.here hx rfl (hb hby at_105) rfl k) ?_
        refine own_step (T' := T4) (f' := (mkF m 109 #[.val (.int p1), .val (.int p2), .val (.int p3), .val (.int (1 : Int32)), .val (.int (0 : Int32)), .val (.int p3), .val (.ref aN), .val (.double (FP.i2d p2)), .second, .val (.double (FP.i2d p3)), .second, .val (.int (own_better aN (FP.i2d p2) (FP.i2d p3) aN)), .val (.int (1 : Int32))] [(.int (1 : Int32)), (.int (own_better aN (FP.i2d p2) (FP.i2d p3) aN))])) (fun t k => XS.iload X4.here hx rfl (hb hby at_107) rfl k) ?_
        refine own_step (T' := T4) (f' := (mkF m 112 #[.val (.int p1), .val (.int p2), .val (.int p3), .val (.int (1 : Int32)), .val (.int (0 : Int32)), .val (.int p3), .val (.ref aN), .val (.double (FP.i2d p2)), .second, .val (.double (FP.i2d p3)), .second, .val (.int (own_better aN (FP.i2d p2) (FP.i2d p3) aN)), .val (.int (1 : Int32))] [])) (fun t k => XS.icmpNo X4.here hx rfl (hb hby at_109) rfl (teq (own_min1 hc79_5)).2 k) ?_
        refine own_step (T' := T4) (f' := (mkF m 113 #[.val (.int p1), .val (.int p2), .val (.int p3), .val (.int (1 : Int32)), .val (.int (0 : Int32)), .val (.int p3), .val (.ref aN), .val (.double (FP.i2d p2)), .second, .val (.double (FP.i2d p3)), .second, .val (.int (own_better aN (FP.i2d p2) (FP.i2d p3) aN)), .val (.int (1 : Int32))] [(.int (1 : Int32))])) (fun t k => XS.iconst X4.here hx rfl (hb hby at_112) k) ?_
        refine own_step (T' := T4) (f' := (mkF m 117 #[.val (.int p1), .val (.int p2), .val (.int p3), .val (.int (1 : Int32)), .val (.int (0 : Int32)), .val (.int p3), .val (.ref aN), .val (.double (FP.i2d p2)), .second, .val (.double (FP.i2d p3)), .second, .val (.int (own_better aN (FP.i2d p2) (FP.i2d p3) aN)), .val (.int (1 : Int32))] [(.int (1 : Int32))])) (fun t k => XS.goto X4.here hx rfl (pc0 := 113) (pc' := 117) rfl (hb hby at_113) (by decide) (by decide) k) ?_
        exact own_retN X4 hx hlk (t := .boolean) Bd.returns (by simp) (hb hby at_117) (by decide) (by decide) ⟨rfl, N4⟩
      · skip
        refine own_step (T' := T4) (f' := (mkF m 86 #[.val (.int p1), .val (.int p2), .val (.int p3), .val (.int (1 : Int32)), .val (.int (0 : Int32)), .val (.int p3), .val (.ref aN), .val (.double (FP.i2d p2)), .second, .val (.double (FP.i2d p3)), .second, .val (.int (own_better aN (FP.i2d p2) (FP.i2d p3) aN)), .unset] [])) (fun t k => XS.icmpYes X4.here hx rfl (pc0 := 79) (pc' := 86) rfl (hb hby at_79) rfl (flt hc79_5).2.1 (by decide) (by decide) k) ?_
        refine own_step (T' := T4) (f' := (mkF m 87 #[.val (.int p1), .val (.int p2), .val (.int p3), .val (.int (1 : Int32)), .val (.int (0 : Int32)), .val (.int p3), .val (.ref aN), .val (.double (FP.i2d p2)), .second, .val (.double (FP.i2d p3)), .second, .val (.int (own_better aN (FP.i2d p2) (FP.i2d p3) aN)), .unset] [(.int (0 : Int32))])) (fun t k => XS.iconst X4.here hx rfl (hb hby at_86) k) ?_
        refine own_step (T' := T4) (f' := (mkF m 89 #[.val (.int p1), .val (.int p2), .val (.int p3), .val (.int (1 : Int32)), .val (.int (0 : Int32)), .val (.int p3), .val (.ref aN), .val (.double (FP.i2d p2)), .second, .val (.double (FP.i2d p3)), .second, .val (.int (own_better aN (FP.i2d p2) (FP.i2d p3) aN)), .val (.int (0 : Int32))] [])) (fun t k => XS.istore X4.here hx rfl (hb hby at_87) rfl (l' := #[.val (.int p1), .val (.int p2), .val (.int p3), .val (.int (1 : Int32)), .val (.int (0 : Int32)), .val (.int p3), .val (.ref aN), .val (.double (FP.i2d p2)), .second, .val (.double (FP.i2d p3)), .second, .val (.int (own_better aN (FP.i2d p2) (FP.i2d p3) aN)), .val (.int (0 : Int32))]) rfl k) ?_
        refine own_step (T' := T4) (f' := (mkF m 105 #[.val (.int p1), .val (.int p2), .val (.int p3), .val (.int (1 : Int32)), .val (.int (0 : Int32)), .val (.int p3), .val (.ref aN), .val (.double (FP.i2d p2)), .second, .val (.double (FP.i2d p3)), .second, .val (.int (own_better aN (FP.i2d p2) (FP.i2d p3) aN)), .val (.int (0 : Int32))] [])) (fun t k => XS.goto X4.here hx rfl (pc0 := 89) (pc' := 105) rfl (hb hby at_89) (by decide) (by decide) k) ?_
        refine own_step (T' := T4) (f' := (mkF m 107 #[.val (.int p1), .val (.int p2), .val (.int p3), .val (.int (1 : Int32)), .val (.int (0 : Int32)), .val (.int p3), .val (.ref aN), .val (.double (FP.i2d p2)), .second, .val (.double (FP.i2d p3)), .second, .val (.int (own_better aN (FP.i2d p2) (FP.i2d p3) aN)), .val (.int (0 : Int32))] [(.int (own_better aN (FP.i2d p2) (FP.i2d p3) aN))])) (fun t k => XS.iload X4.here hx rfl (hb hby at_105) rfl k) ?_
        refine own_step (T' := T4) (f' := (mkF m 109 #[.val (.int p1), .val (.int p2), .val (.int p3), .val (.int (1 : Int32)), .val (.int (0 : Int32)), .val (.int p3), .val (.ref aN), .val (.double (FP.i2d p2)), .second, .val (.double (FP.i2d p3)), .second, .val (.int (own_better aN (FP.i2d p2) (FP.i2d p3) aN)), .val (.int (0 : Int32))] [(.int (0 : Int32)), (.int (own_better aN (FP.i2d p2) (FP.i2d p3) aN))])) (fun t k => XS.iload X4.here hx rfl (hb hby at_107) rfl k) ?_
        refine own_step (T' := T4) (f' := (mkF m 112 #[.val (.int p1), .val (.int p2), .val (.int p3), .val (.int (1 : Int32)), .val (.int (0 : Int32)), .val (.int p3), .val (.ref aN), .val (.double (FP.i2d p2)), .second, .val (.double (FP.i2d p3)), .second, .val (.int (own_better aN (FP.i2d p2) (FP.i2d p3) aN)), .val (.int (0 : Int32))] [])) (fun t k => XS.icmpNo X4.here hx rfl (hb hby at_109) rfl (teq (own_min0 hc79_5)).2 k) ?_
        refine own_step (T' := T4) (f' := (mkF m 113 #[.val (.int p1), .val (.int p2), .val (.int p3), .val (.int (1 : Int32)), .val (.int (0 : Int32)), .val (.int p3), .val (.ref aN), .val (.double (FP.i2d p2)), .second, .val (.double (FP.i2d p3)), .second, .val (.int (own_better aN (FP.i2d p2) (FP.i2d p3) aN)), .val (.int (0 : Int32))] [(.int (1 : Int32))])) (fun t k => XS.iconst X4.here hx rfl (hb hby at_112) k) ?_
        refine own_step (T' := T4) (f' := (mkF m 117 #[.val (.int p1), .val (.int p2), .val (.int p3), .val (.int (1 : Int32)), .val (.int (0 : Int32)), .val (.int p3), .val (.ref aN), .val (.double (FP.i2d p2)), .second, .val (.double (FP.i2d p3)), .second, .val (.int (own_better aN (FP.i2d p2) (FP.i2d p3) aN)), .val (.int (0 : Int32))] [(.int (1 : Int32))])) (fun t k => XS.goto X4.here hx rfl (pc0 := 113) (pc' := 117) rfl (hb hby at_113) (by decide) (by decide) k) ?_
        exact own_retN X4 hx hlk (t := .boolean) Bd.returns (by simp) (hb hby at_117) (by decide) (by decide) ⟨rfl, N4⟩
    · skip
      refine own_step (T' := s₁) (f' := (mkF m 18 #[.val (.int p1), .val (.int p2), .val (.int p3), .val (.int (1 : Int32)), .unset, .unset, .unset, .unset, .unset, .unset, .unset, .unset, .unset] [])) (fun t k => XS.ifNo X0.here hx rfl (hb hby at_15) rfl ((if0 _ _).trans (feq hc15_2).1) k) ?_
      refine own_step (T' := s₁) (f' := (mkF m 19 #[.val (.int p1), .val (.int p2), .val (.int p3), .val (.int (1 : Int32)), .unset, .unset, .unset, .unset, .unset, .unset, .unset, .unset, .unset] [(.int (1 : Int32))])) (fun t k => XS.iconst X0.here hx rfl (hb hby at_18) k) ?_
      refine own_step (T' := s₁) (f' := (mkF m 23 #[.val (.int p1), .val (.int p2), .val (.int p3), .val (.int (1 : Int32)), .unset, .unset, .unset, .unset, .unset, .unset, .unset, .unset, .unset] [(.int (1 : Int32))])) (fun t k => XS.goto X0.here hx rfl (pc0 := 19) (pc' := 23) rfl (hb hby at_19) (by decide) (by decide) k) ?_
      refine own_step (T' := s₁) (f' := (mkF m 25 #[.val (.int p1), .val (.int p2), .val (.int p3), .val (.int (1 : Int32)), .val (.int (1 : Int32)), .unset, .unset, .unset, .unset, .unset, .unset, .unset, .unset] [])) (fun t k => XS.istore X0.here hx rfl (hb hby at_23) rfl (l' := #[.val (.int p1), .val (.int p2), .val (.int p3), .val (.int (1 : Int32)), .val (.int (1 : Int32)), .unset, .unset, .unset, .unset, .unset, .unset, .unset, .unset]) rfl k) ?_
      refine own_step (T' := s₁) (f' := (mkF m 27 #[.val (.int p1), .val (.int p2), .val (.int p3), .val (.int (1 : Int32)), .val (.int (1 : Int32)), .unset, .unset, .unset, .unset, .unset, .unset, .unset, .unset] [(.int (1 : Int32))])) (fun t k => XS.iload X0.here hx rfl (hb hby at_25) rfl k) ?_
      refine own_step (T' := s₁) (f' := (mkF m 30 #[.val (.int p1), .val (.int p2), .val (.int p3), .val (.int (1 : Int32)), .val (.int (1 : Int32)), .unset, .unset, .unset, .unset, .unset, .unset, .unset, .unset] [])) (fun t k => XS.ifNo X0.here hx rfl (hb hby at_27) rfl ((if0 _ _).trans (feq (by decide : ¬ ((1 : Int32) = (0 : Int32)))).1) k) ?_
      refine own_step (T' := s₁) (f' := (mkF m 31 #[.val (.int p1), .val (.int p2), .val (.int p3), .val (.int (1 : Int32)), .val (.int (1 : Int32)), .unset, .unset, .unset, .unset, .unset, .unset, .unset, .unset] [(.int p2)])) (fun t k => XS.iloadN X0.here hx rfl (hb hby at_30) rfl k) ?_
      refine own_step (T' := s₁) (f' := (mkF m 35 #[.val (.int p1), .val (.int p2), .val (.int p3), .val (.int (1 : Int32)), .val (.int (1 : Int32)), .unset, .unset, .unset, .unset, .unset, .unset, .unset, .unset] [(.int p2)])) (fun t k => XS.goto X0.here hx rfl (pc0 := 31) (pc' := 35) rfl (hb hby at_31) (by decide) (by decide) k) ?_
      refine own_step (T' := s₁) (f' := (mkF m 37 #[.val (.int p1), .val (.int p2), .val (.int p3), .val (.int (1 : Int32)), .val (.int (1 : Int32)), .val (.int p2), .unset, .unset, .unset, .unset, .unset, .unset, .unset] [])) (fun t k => XS.istore X0.here hx rfl (hb hby at_35) rfl (l' := #[.val (.int p1), .val (.int p2), .val (.int p3), .val (.int (1 : Int32)), .val (.int (1 : Int32)), .val (.int p2), .unset, .unset, .unset, .unset, .unset, .unset, .unset]) rfl k) ?_
      refine own_step (T' := s₁) (f' := (mkF m 38 #[.val (.int p1), .val (.int p2), .val (.int p3), .val (.int (1 : Int32)), .val (.int (1 : Int32)), .val (.int p2), .unset, .unset, .unset, .unset, .unset, .unset, .unset] [(.int (1 : Int32))])) (fun t k => XS.iloadN X0.here hx rfl (hb hby at_37) rfl k) ?_
      refine own_step (T' := s₁) (f' := (mkF m 41 #[.val (.int p1), .val (.int p2), .val (.int p3), .val (.int (1 : Int32)), .val (.int (1 : Int32)), .val (.int p2), .unset, .unset, .unset, .unset, .unset, .unset, .unset] [])) (fun t k => XS.ifNo X0.here hx rfl (hb hby at_38) rfl ((if0 _ _).trans (feq (by decide : ¬ ((1 : Int32) = (0 : Int32)))).1) k) ?_
      obtain ⟨T6, X6, e6, st6⟩ := getS2 X0 hx hZ hown (host := "") (Or.inl (hw _ (List.mem_of_getElem? (i := 0) rfl))) Via.refl e0 S_N (g := (mkF m 41 #[.val (.int p1), .val (.int p2), .val (.int p3), .val (.int (1 : Int32)), .val (.int (1 : Int32)), .val (.int p2), .unset, .unset, .unset, .unset, .unset, .unset, .unset] [])) rfl (hb hby at_41)
      refine own_step (T' := T6) (f' := (mkF m 44 #[.val (.int p1), .val (.int p2), .val (.int p3), .val (.int (1 : Int32)), .val (.int (1 : Int32)), .val (.int p2), .unset, .unset, .unset, .unset, .unset, .unset, .unset] [(.ref aN)])) (fun t k => st6 t k) ?_
      refine own_step (T' := T6) (f' := (mkF m 50 #[.val (.int p1), .val (.int p2), .val (.int p3), .val (.int (1 : Int32)), .val (.int (1 : Int32)), .val (.int p2), .unset, .unset, .unset, .unset, .unset, .unset, .unset] [(.ref aN)])) (fun t k => XS.goto X6.here hx rfl (pc0 := 44) (pc' := 50) rfl (hb hby at_44) (by decide) (by decide) k) ?_
      refine own_step (T' := T6) (f' := (mkF m 52 #[.val (.int p1), .val (.int p2), .val (.int p3), .val (.int (1 : Int32)), .val (.int (1 : Int32)), .val (.int p2), .val (.ref aN), .unset, .unset, .unset, .unset, .unset, .unset] [])) (fun t k => XS.astore X6.here hx rfl (hb hby at_50) rfl rfl (l' := #[.val (.int p1), .val (.int p2), .val (.int p3), .val (.int (1 : Int32)), .val (.int (1 : Int32)), .val (.int p2), .val (.ref aN), .unset, .unset, .unset, .unset, .unset, .unset]) rfl k) ?_
      refine own_step (T' := T6) (f' := (mkF m 53 #[.val (.int p1), .val (.int p2), .val (.int p3), .val (.int (1 : Int32)), .val (.int (1 : Int32)), .val (.int p2), .val (.ref aN), .unset, .unset, .unset, .unset, .unset, .unset] [(.int p2)])) (fun t k => XS.iloadN X6.here hx rfl (hb hby at_52) rfl k) ?_
      refine own_step (T' := T6) (f' := (mkF m 54 #[.val (.int p1), .val (.int p2), .val (.int p3), .val (.int (1 : Int32)), .val (.int (1 : Int32)), .val (.int p2), .val (.ref aN), .unset, .unset, .unset, .unset, .unset, .unset] [(.double (FP.i2d p2))])) (fun t k => XS.i2dS X6.here hx rfl (hb hby at_53) rfl rfl k) ?_
      refine own_step (T' := T6) (f' := (mkF m 56 #[.val (.int p1), .val (.int p2), .val (.int p3), .val (.int (1 : Int32)), .val (.int (1 : Int32)), .val (.int p2), .val (.ref aN), .val (.double (FP.i2d p2)), .second, .unset, .unset, .unset, .unset] [])) (fun t k => XS.dstore X6.here hx rfl (hb hby at_54) rfl (l' := #[.val (.int p1), .val (.int p2), .val (.int p3), .val (.int (1 : Int32)), .val (.int (1 : Int32)), .val (.int p2), .val (.ref aN), .val (.double (FP.i2d p2)), .second, .unset, .unset, .unset, .unset]) rfl k) ?_
      refine own_step (T' := T6) (f' := (mkF m 58 #[.val (.int p1), .val (.int p2), .val (.int p3), .val (.int (1 : Int32)), .val (.int (1 : Int32)), .val (.int p2), .val (.ref aN), .val (.double (FP.i2d p2)), .second, .unset, .unset, .unset, .unset] [(.int p2)])) (fun t k => XS.iload X6.here hx rfl (hb hby at_56) rfl k) ?_
      refine own_step (T' := T6) (f' := (mkF m 59 #[.val (.int p1), .val (.int p2), .val (.int p3), .val (.int (1 : Int32)), .val (.int (1 : Int32)), .val (.int p2), .val (.ref aN), .val (.double (FP.i2d p2)), .second, .unset, .unset, .unset, .unset] [(.double (FP.i2d p2))])) (fun t k => XS.i2dS X6.here hx rfl (hb hby at_58) rfl rfl k) ?_
      refine own_step (T' := T6) (f' := (mkF m 61 #[.val (.int p1), .val (.int p2), .val (.int p3), .val (.int (1 : Int32)), .val (.int (1 : Int32)), .val (.int p2), .val (.ref aN), .val (.double (FP.i2d p2)), .second, .val (.double (FP.i2d p2)), .second, .unset, .unset] [])) (fun t k => XS.dstore X6.here hx rfl (hb hby at_59) rfl (l' := #[.val (.int p1), .val (.int p2), .val (.int p3), .val (.int (1 : Int32)), .val (.int (1 : Int32)), .val (.int p2), .val (.ref aN), .val (.double (FP.i2d p2)), .second, .val (.double (FP.i2d p2)), .second, .unset, .unset]) rfl k) ?_
      refine own_step (T' := T6) (f' := (mkF m 63 #[.val (.int p1), .val (.int p2), .val (.int p3), .val (.int (1 : Int32)), .val (.int (1 : Int32)), .val (.int p2), .val (.ref aN), .val (.double (FP.i2d p2)), .second, .val (.double (FP.i2d p2)), .second, .unset, .unset] [(.ref aN)])) (fun t k => XS.aload X6.here hx rfl (hb hby at_61) rfl rfl k) ?_
      refine own_step (T' := T6) (f' := (mkF m 65 #[.val (.int p1), .val (.int p2), .val (.int p3), .val (.int (1 : Int32)), .val (.int (1 : Int32)), .val (.int p2), .val (.ref aN), .val (.double (FP.i2d p2)), .second, .val (.double (FP.i2d p2)), .second, .unset, .unset] [(.double (FP.i2d p2)), (.ref aN)])) (fun t k => XS.dload X6.here hx rfl (hb hby at_63) rfl k) ?_
      refine own_step (T' := T6) (f' := (mkF m 67 #[.val (.int p1), .val (.int p2), .val (.int p3), .val (.int (1 : Int32)), .val (.int (1 : Int32)), .val (.int p2), .val (.ref aN), .val (.double (FP.i2d p2)), .second, .val (.double (FP.i2d p2)), .second, .unset, .unset] [(.double (FP.i2d p2)), (.double (FP.i2d p2)), (.ref aN)])) (fun t k => XS.dload X6.here hx rfl (hb hby at_65) rfl k) ?_
      obtain ⟨cq7, kq7, q7a, q7b, q7c⟩ := isOf hZ e6 X_N
      obtain ⟨_, _, ⟨T7, L7, k7, n7⟩, -, X7, ⟨Lc7, hQ7, l7, y7, z7⟩, st7⟩ := X6.virtualBack hx (y := (⟨"com/example/inchworm/inchworm/model/Optimum", "isBetter", "(DD)Z"⟩ : MethodName)) (z := (⟨"com/example/inchworm/inchworm/model/Optimum", "isBetter", "(DD)Z"⟩ : MethodName)) hown (mvT hZ (hw _ (List.mem_of_getElem? (i := 3) rfl))) (mvT hZ (hw _ (List.mem_of_getElem? (i := 4) rfl))) (notFace_of_selects (args := #[]) (mvT hZ (hw _ (List.mem_of_getElem? (i := 6) rfl)))) (mvT hZ (hw _ (List.mem_of_getElem? (i := 6) rfl))) (mvT hZ (hw _ (List.mem_of_getElem? (i := 5) rfl))) (by decide) (backOf (W := 0) (rm1 l Z a0 hw [] aN (FP.i2d p2) (FP.i2d p2) h0 n0 Z0 aN S_N) hZ (hw _ (List.mem_of_getElem? (i := 7) rfl)) (hw _ (List.mem_of_getElem? (i := 1) rfl)) (by decide) (by decide)) q7a q7c (g := (mkF m 67 #[.val (.int p1), .val (.int p2), .val (.int p3), .val (.int (1 : Int32)), .val (.int (1 : Int32)), .val (.int p2), .val (.ref aN), .val (.double (FP.i2d p2)), .second, .val (.double (FP.i2d p2)), .second, .unset, .unset] [(.double (FP.i2d p2)), (.double (FP.i2d p2)), (.ref aN)])) rfl (by rw [hml]; rfl) (Steps.refl _) (argsL := [(.double (FP.i2d p2)), (.double (FP.i2d p2))]) (rest := []) (lenOf pd_0_0 rfl) rfl (by show 2 * 0 + _ ≤ _; exact Nat.le_of_eq rfl) (hb hby at_67) (fun _ _ => ⟨rfl, e6, (by decide : 0 + 0 ≤ _), (by decide : 0 + 0 ≤ _)⟩)
      dsimp only [Pt.U, Pt.locs, Pt.cells, Pt.slots] at X7 l7 y7 z7 st7 hQ7
      subst l7 y7 z7
      obtain ⟨rfl, N7q, E7⟩ := hQ7
      have N7 := Fr.app N0 N7q
      refine own_step (T' := T7) (f' := (mkF m 70 #[.val (.int p1), .val (.int p2), .val (.int p3), .val (.int (1 : Int32)), .val (.int (1 : Int32)), .val (.int p2), .val (.ref aN), .val (.double (FP.i2d p2)), .second, .val (.double (FP.i2d p2)), .second, .unset, .unset] [(.int (own_better aN (FP.i2d p2) (FP.i2d p2) aN))])) (fun t k => st7.trans k) ?_
      refine own_step (T' := T7) (f' := (mkF m 72 #[.val (.int p1), .val (.int p2), .val (.int p3), .val (.int (1 : Int32)), .val (.int (1 : Int32)), .val (.int p2), .val (.ref aN), .val (.double (FP.i2d p2)), .second, .val (.double (FP.i2d p2)), .second, .val (.int (own_better aN (FP.i2d p2) (FP.i2d p2) aN)), .unset] [])) (fun t k => XS.istore X7.here hx rfl (hb hby at_70) rfl (l' := #[.val (.int p1), .val (.int p2), .val (.int p3), .val (.int (1 : Int32)), .val (.int (1 : Int32)), .val (.int p2), .val (.ref aN), .val (.double (FP.i2d p2)), .second, .val (.double (FP.i2d p2)), .second, .val (.int (own_better aN (FP.i2d p2) (FP.i2d p2) aN)), .unset]) rfl k) ?_
      refine own_step (T' := T7) (f' := (mkF m 73 #[.val (.int p1), .val (.int p2), .val (.int p3), .val (.int (1 : Int32)), .val (.int (1 : Int32)), .val (.int p2), .val (.ref aN), .val (.double (FP.i2d p2)), .second, .val (.double (FP.i2d p2)), .second, .val (.int (own_better aN (FP.i2d p2) (FP.i2d p2) aN)), .unset] [(.int (1 : Int32))])) (fun t k => XS.iloadN X7.here hx rfl (hb hby at_72) rfl k) ?_
      refine own_step (T' := T7) (f' := (mkF m 76 #[.val (.int p1), .val (.int p2), .val (.int p3), .val (.int (1 : Int32)), .val (.int (1 : Int32)), .val (.int p2), .val (.ref aN), .val (.double (FP.i2d p2)), .second, .val (.double (FP.i2d p2)), .second, .val (.int (own_better aN (FP.i2d p2) (FP.i2d p2) aN)), .unset] [])) (fun t k => XS.ifNo X7.here hx rfl (hb hby at_73) rfl ((if0 _ _).trans (feq (by decide : ¬ ((1 : Int32) = (0 : Int32)))).1) k) ?_
      refine own_step (T' := T7) (f' := (mkF m 77 #[.val (.int p1), .val (.int p2), .val (.int p3), .val (.int (1 : Int32)), .val (.int (1 : Int32)), .val (.int p2), .val (.ref aN), .val (.double (FP.i2d p2)), .second, .val (.double (FP.i2d p2)), .second, .val (.int (own_better aN (FP.i2d p2) (FP.i2d p2) aN)), .unset] [(.int p2)])) (fun t k => XS.iloadN X7.here hx rfl (hb hby at_76) rfl k) ?_
      refine own_step (T' := T7) (f' := (mkF m 79 #[.val (.int p1), .val (.int p2), .val (.int p3), .val (.int (1 : Int32)), .val (.int (1 : Int32)), .val (.int p2), .val (.ref aN), .val (.double (FP.i2d p2)), .second, .val (.double (FP.i2d p2)), .second, .val (.int (own_better aN (FP.i2d p2) (FP.i2d p2) aN)), .unset] [(.int p2), (.int p2)])) (fun t k => XS.iload X7.here hx rfl (hb hby at_77) rfl k) ?_
      refine own_step (T' := T7) (f' := (mkF m 86 #[.val (.int p1), .val (.int p2), .val (.int p3), .val (.int (1 : Int32)), .val (.int (1 : Int32)), .val (.int p2), .val (.ref aN), .val (.double (FP.i2d p2)), .second, .val (.double (FP.i2d p2)), .second, .val (.int (own_better aN (FP.i2d p2) (FP.i2d p2) aN)), .unset] [])) (fun t k => XS.icmpYes X7.here hx rfl (pc0 := 79) (pc' := 86) rfl (hb hby at_79) rfl (flt (own_irr : ¬ (p2 < p2))).2.1 (by decide) (by decide) k) ?_
      refine own_step (T' := T7) (f' := (mkF m 87 #[.val (.int p1), .val (.int p2), .val (.int p3), .val (.int (1 : Int32)), .val (.int (1 : Int32)), .val (.int p2), .val (.ref aN), .val (.double (FP.i2d p2)), .second, .val (.double (FP.i2d p2)), .second, .val (.int (own_better aN (FP.i2d p2) (FP.i2d p2) aN)), .unset] [(.int (0 : Int32))])) (fun t k => XS.iconst X7.here hx rfl (hb hby at_86) k) ?_
      refine own_step (T' := T7) (f' := (mkF m 89 #[.val (.int p1), .val (.int p2), .val (.int p3), .val (.int (1 : Int32)), .val (.int (1 : Int32)), .val (.int p2), .val (.ref aN), .val (.double (FP.i2d p2)), .second, .val (.double (FP.i2d p2)), .second, .val (.int (own_better aN (FP.i2d p2) (FP.i2d p2) aN)), .val (.int (0 : Int32))] [])) (fun t k => XS.istore X7.here hx rfl (hb hby at_87) rfl (l' := #[.val (.int p1), .val (.int p2), .val (.int p3), .val (.int (1 : Int32)), .val (.int (1 : Int32)), .val (.int p2), .val (.ref aN), .val (.double (FP.i2d p2)), .second, .val (.double (FP.i2d p2)), .second, .val (.int (own_better aN (FP.i2d p2) (FP.i2d p2) aN)), .val (.int (0 : Int32))]) rfl k) ?_
      refine own_step (T' := T7) (f' := (mkF m 105 #[.val (.int p1), .val (.int p2), .val (.int p3), .val (.int (1 : Int32)), .val (.int (1 : Int32)), .val (.int p2), .val (.ref aN), .val (.double (FP.i2d p2)), .second, .val (.double (FP.i2d p2)), .second, .val (.int (own_better aN (FP.i2d p2) (FP.i2d p2) aN)), .val (.int (0 : Int32))] [])) (fun t k => XS.goto X7.here hx rfl (pc0 := 89) (pc' := 105) rfl (hb hby at_89) (by decide) (by decide) k) ?_
      refine own_step (T' := T7) (f' := (mkF m 107 #[.val (.int p1), .val (.int p2), .val (.int p3), .val (.int (1 : Int32)), .val (.int (1 : Int32)), .val (.int p2), .val (.ref aN), .val (.double (FP.i2d p2)), .second, .val (.double (FP.i2d p2)), .second, .val (.int (own_better aN (FP.i2d p2) (FP.i2d p2) aN)), .val (.int (0 : Int32))] [(.int (own_better aN (FP.i2d p2) (FP.i2d p2) aN))])) (fun t k => XS.iload X7.here hx rfl (hb hby at_105) rfl k) ?_
      refine own_step (T' := T7) (f' := (mkF m 109 #[.val (.int p1), .val (.int p2), .val (.int p3), .val (.int (1 : Int32)), .val (.int (1 : Int32)), .val (.int p2), .val (.ref aN), .val (.double (FP.i2d p2)), .second, .val (.double (FP.i2d p2)), .second, .val (.int (own_better aN (FP.i2d p2) (FP.i2d p2) aN)), .val (.int (0 : Int32))] [(.int (0 : Int32)), (.int (own_better aN (FP.i2d p2) (FP.i2d p2) aN))])) (fun t k => XS.iload X7.here hx rfl (hb hby at_107) rfl k) ?_
      refine own_step (T' := T7) (f' := (mkF m 112 #[.val (.int p1), .val (.int p2), .val (.int p3), .val (.int (1 : Int32)), .val (.int (1 : Int32)), .val (.int p2), .val (.ref aN), .val (.double (FP.i2d p2)), .second, .val (.double (FP.i2d p2)), .second, .val (.int (own_better aN (FP.i2d p2) (FP.i2d p2) aN)), .val (.int (0 : Int32))] [])) (fun t k => XS.icmpNo X7.here hx rfl (hb hby at_109) rfl (teq (own_min0 (own_irr : ¬ (p2 < p2)))).2 k) ?_
      refine own_step (T' := T7) (f' := (mkF m 113 #[.val (.int p1), .val (.int p2), .val (.int p3), .val (.int (1 : Int32)), .val (.int (1 : Int32)), .val (.int p2), .val (.ref aN), .val (.double (FP.i2d p2)), .second, .val (.double (FP.i2d p2)), .second, .val (.int (own_better aN (FP.i2d p2) (FP.i2d p2) aN)), .val (.int (0 : Int32))] [(.int (1 : Int32))])) (fun t k => XS.iconst X7.here hx rfl (hb hby at_112) k) ?_
      refine own_step (T' := T7) (f' := (mkF m 117 #[.val (.int p1), .val (.int p2), .val (.int p3), .val (.int (1 : Int32)), .val (.int (1 : Int32)), .val (.int p2), .val (.ref aN), .val (.double (FP.i2d p2)), .second, .val (.double (FP.i2d p2)), .second, .val (.int (own_better aN (FP.i2d p2) (FP.i2d p2) aN)), .val (.int (0 : Int32))] [(.int (1 : Int32))])) (fun t k => XS.goto X7.here hx rfl (pc0 := 113) (pc' := 117) rfl (hb hby at_113) (by decide) (by decide) k) ?_
      exact own_retN X7 hx hlk (t := .boolean) Bd.returns (by simp) (hb hby at_117) (by decide) (by decide) ⟨rfl, N7⟩
  · skip
    refine own_step (T' := s₁) (f' := (mkF m 10 #[.val (.int p1), .val (.int p2), .val (.int p3), .unset, .unset, .unset, .unset, .unset, .unset, .unset, .unset, .unset, .unset] [])) (fun t k => XS.ifYes X0.here hx rfl (pc0 := 3) (pc' := 10) rfl (hb hby at_3) rfl ((if0 _ _).trans (feq hc3_1).2) (by decide) (by decide) k) ?_
    refine own_step (T' := s₁) (f' := (mkF m 11 #[.val (.int p1), .val (.int p2), .val (.int p3), .unset, .unset, .unset, .unset, .unset, .unset, .unset, .unset, .unset, .unset] [(.int (0 : Int32))])) (fun t k => XS.iconst X0.here hx rfl (hb hby at_10) k) ?_
    refine own_step (T' := s₁) (f' := (mkF m 12 #[.val (.int p1), .val (.int p2), .val (.int p3), .val (.int (0 : Int32)), .unset, .unset, .unset, .unset, .unset, .unset, .unset, .unset, .unset] [])) (fun t k => XS.istoreN X0.here hx rfl (hb hby at_11) rfl (l' := #[.val (.int p1), .val (.int p2), .val (.int p3), .val (.int (0 : Int32)), .unset, .unset, .unset, .unset, .unset, .unset, .unset, .unset, .unset]) rfl k) ?_
    refine own_step (T' := s₁) (f' := (mkF m 13 #[.val (.int p1), .val (.int p2), .val (.int p3), .val (.int (0 : Int32)), .unset, .unset, .unset, .unset, .unset, .unset, .unset, .unset, .unset] [(.int p1)])) (fun t k => XS.iloadN X0.here hx rfl (hb hby at_12) rfl k) ?_
    refine own_step (T' := s₁) (f' := (mkF m 14 #[.val (.int p1), .val (.int p2), .val (.int p3), .val (.int (0 : Int32)), .unset, .unset, .unset, .unset, .unset, .unset, .unset, .unset, .unset] [(.int (2 : Int32)), (.int p1)])) (fun t k => XS.iconst X0.here hx rfl (hb hby at_13) k) ?_
    refine own_step (T' := s₁) (f' := (mkF m 15 #[.val (.int p1), .val (.int p2), .val (.int p3), .val (.int (0 : Int32)), .unset, .unset, .unset, .unset, .unset, .unset, .unset, .unset, .unset] [(.int (p1 &&& (2 : Int32)))])) (fun t k => XS.iand X0.here hx rfl (hb hby at_14) rfl k) ?_
    by_cases hc15_8 : (p1 &&& (2 : Int32)) = (0 : Int32)
    · skip
      refine own_step (T' := s₁) (f' := (mkF m 22 #[.val (.int p1), .val (.int p2), .val (.int p3), .val (.int (0 : Int32)), .unset, .unset, .unset, .unset, .unset, .unset, .unset, .unset, .unset] [])) (fun t k => XS.ifYes X0.here hx rfl (pc0 := 15) (pc' := 22) rfl (hb hby at_15) rfl ((if0 _ _).trans (teq hc15_8).1) (by decide) (by decide) k) ?_
      refine own_step (T' := s₁) (f' := (mkF m 23 #[.val (.int p1), .val (.int p2), .val (.int p3), .val (.int (0 : Int32)), .unset, .unset, .unset, .unset, .unset, .unset, .unset, .unset, .unset] [(.int (0 : Int32))])) (fun t k => XS.iconst X0.here hx rfl (hb hby at_22) k) ?_
      refine own_step (T' := s₁) (f' := (mkF m 25 #[.val (.int p1), .val (.int p2), .val (.int p3), .val (.int (0 : Int32)), .val (.int (0 : Int32)), .unset, .unset, .unset, .unset, .unset, .unset, .unset, .unset] [])) (fun t k => XS.istore X0.here hx rfl (hb hby at_23) rfl (l' := #[.val (.int p1), .val (.int p2), .val (.int p3), .val (.int (0 : Int32)), .val (.int (0 : Int32)), .unset, .unset, .unset, .unset, .unset, .unset, .unset, .unset]) rfl k) ?_
      refine own_step (T' := s₁) (f' := (mkF m 27 #[.val (.int p1), .val (.int p2), .val (.int p3), .val (.int (0 : Int32)), .val (.int (0 : Int32)), .unset, .unset, .unset, .unset, .unset, .unset, .unset, .unset] [(.int (0 : Int32))])) (fun t k => XS.iload X0.here hx rfl (hb hby at_25) rfl k) ?_
      refine own_step (T' := s₁) (f' := (mkF m 34 #[.val (.int p1), .val (.int p2), .val (.int p3), .val (.int (0 : Int32)), .val (.int (0 : Int32)), .unset, .unset, .unset, .unset, .unset, .unset, .unset, .unset] [])) (fun t k => XS.ifYes X0.here hx rfl (pc0 := 27) (pc' := 34) rfl (hb hby at_27) rfl ((if0 _ _).trans (teq (by decide : (0 : Int32) = (0 : Int32))).1) (by decide) (by decide) k) ?_
      refine own_step (T' := s₁) (f' := (mkF m 35 #[.val (.int p1), .val (.int p2), .val (.int p3), .val (.int (0 : Int32)), .val (.int (0 : Int32)), .unset, .unset, .unset, .unset, .unset, .unset, .unset, .unset] [(.int p3)])) (fun t k => XS.iloadN X0.here hx rfl (hb hby at_34) rfl k) ?_
      refine own_step (T' := s₁) (f' := (mkF m 37 #[.val (.int p1), .val (.int p2), .val (.int p3), .val (.int (0 : Int32)), .val (.int (0 : Int32)), .val (.int p3), .unset, .unset, .unset, .unset, .unset, .unset, .unset] [])) (fun t k => XS.istore X0.here hx rfl (hb hby at_35) rfl (l' := #[.val (.int p1), .val (.int p2), .val (.int p3), .val (.int (0 : Int32)), .val (.int (0 : Int32)), .val (.int p3), .unset, .unset, .unset, .unset, .unset, .unset, .unset]) rfl k) ?_
      refine own_step (T' := s₁) (f' := (mkF m 38 #[.val (.int p1), .val (.int p2), .val (.int p3), .val (.int (0 : Int32)), .val (.int (0 : Int32)), .val (.int p3), .unset, .unset, .unset, .unset, .unset, .unset, .unset] [(.int (0 : Int32))])) (fun t k => XS.iloadN X0.here hx rfl (hb hby at_37) rfl k) ?_
      refine own_step (T' := s₁) (f' := (mkF m 47 #[.val (.int p1), .val (.int p2), .val (.int p3), .val (.int (0 : Int32)), .val (.int (0 : Int32)), .val (.int p3), .unset, .unset, .unset, .unset, .unset, .unset, .unset] [])) (fun t k => XS.ifYes X0.here hx rfl (pc0 := 38) (pc' := 47) rfl (hb hby at_38) rfl ((if0 _ _).trans (teq (by decide : (0 : Int32) = (0 : Int32))).1) (by decide) (by decide) k) ?_
      obtain ⟨T9, X9, e9, st9⟩ := getS2 X0 hx hZ hown (host := "") (Or.inl (hw _ (List.mem_of_getElem? (i := 9) rfl))) Via.refl e0 S_M (g := (mkF m 47 #[.val (.int p1), .val (.int p2), .val (.int p3), .val (.int (0 : Int32)), .val (.int (0 : Int32)), .val (.int p3), .unset, .unset, .unset, .unset, .unset, .unset, .unset] [])) rfl (hb hby at_47)
      refine own_step (T' := T9) (f' := (mkF m 50 #[.val (.int p1), .val (.int p2), .val (.int p3), .val (.int (0 : Int32)), .val (.int (0 : Int32)), .val (.int p3), .unset, .unset, .unset, .unset, .unset, .unset, .unset] [(.ref aM)])) (fun t k => st9 t k) ?_
      refine own_step (T' := T9) (f' := (mkF m 52 #[.val (.int p1), .val (.int p2), .val (.int p3), .val (.int (0 : Int32)), .val (.int (0 : Int32)), .val (.int p3), .val (.ref aM), .unset, .unset, .unset, .unset, .unset, .unset] [])) (fun t k => XS.astore X9.here hx rfl (hb hby at_50) rfl rfl (l' := #[.val (.int p1), .val (.int p2), .val (.int p3), .val (.int (0 : Int32)), .val (.int (0 : Int32)), .val (.int p3), .val (.ref aM), .unset, .unset, .unset, .unset, .unset, .unset]) rfl k) ?_
      refine own_step (T' := T9) (f' := (mkF m 53 #[.val (.int p1), .val (.int p2), .val (.int p3), .val (.int (0 : Int32)), .val (.int (0 : Int32)), .val (.int p3), .val (.ref aM), .unset, .unset, .unset, .unset, .unset, .unset] [(.int p2)])) (fun t k => XS.iloadN X9.here hx rfl (hb hby at_52) rfl k) ?_
      refine own_step (T' := T9) (f' := (mkF m 54 #[.val (.int p1), .val (.int p2), .val (.int p3), .val (.int (0 : Int32)), .val (.int (0 : Int32)), .val (.int p3), .val (.ref aM), .unset, .unset, .unset, .unset, .unset, .unset] [(.double (FP.i2d p2))])) (fun t k => XS.i2dS X9.here hx rfl (hb hby at_53) rfl rfl k) ?_
      refine own_step (T' := T9) (f' := (mkF m 56 #[.val (.int p1), .val (.int p2), .val (.int p3), .val (.int (0 : Int32)), .val (.int (0 : Int32)), .val (.int p3), .val (.ref aM), .val (.double (FP.i2d p2)), .second, .unset, .unset, .unset, .unset] [])) (fun t k => XS.dstore X9.here hx rfl (hb hby at_54) rfl (l' := #[.val (.int p1), .val (.int p2), .val (.int p3), .val (.int (0 : Int32)), .val (.int (0 : Int32)), .val (.int p3), .val (.ref aM), .val (.double (FP.i2d p2)), .second, .unset, .unset, .unset, .unset]) rfl k) ?_
      refine own_step (T' := T9) (f' := (mkF m 58 #[.val (.int p1), .val (.int p2), .val (.int p3), .val (.int (0 : Int32)), .val (.int (0 : Int32)), .val (.int p3), .val (.ref aM), .val (.double (FP.i2d p2)), .second, .unset, .unset, .unset, .unset] [(.int p3)])) (fun t k => XS.iload X9.here hx rfl (hb hby at_56) rfl k) ?_
      refine own_step (T' := T9) (f' := (mkF m 59 #[.val (.int p1), .val (.int p2), .val (.int p3), .val (.int (0 : Int32)), .val (.int (0 : Int32)), .val (.int p3), .val (.ref aM), .val (.double (FP.i2d p2)), .second, .unset, .unset, .unset, .unset] [(.double (FP.i2d p3))])) (fun t k => XS.i2dS X9.here hx rfl (hb hby at_58) rfl rfl k) ?_
      refine own_step (T' := T9) (f' := (mkF m 61 #[.val (.int p1), .val (.int p2), .val (.int p3), .val (.int (0 : Int32)), .val (.int (0 : Int32)), .val (.int p3), .val (.ref aM), .val (.double (FP.i2d p2)), .second, .val (.double (FP.i2d p3)), .second, .unset, .unset] [])) (fun t k => XS.dstore X9.here hx rfl (hb hby at_59) rfl (l' := #[.val (.int p1), .val (.int p2), .val (.int p3), .val (.int (0 : Int32)), .val (.int (0 : Int32)), .val (.int p3), .val (.ref aM), .val (.double (FP.i2d p2)), .second, .val (.double (FP.i2d p3)), .second, .unset, .unset]) rfl k) ?_
      refine own_step (T' := T9) (f' := (mkF m 63 #[.val (.int p1), .val (.int p2), .val (.int p3), .val (.int (0 : Int32)), .val (.int (0 : Int32)), .val (.int p3), .val (.ref aM), .val (.double (FP.i2d p2)), .second, .val (.double (FP.i2d p3)), .second, .unset, .unset] [(.ref aM)])) (fun t k => XS.aload X9.here hx rfl (hb hby at_61) rfl rfl k) ?_
      refine own_step (T' := T9) (f' := (mkF m 65 #[.val (.int p1), .val (.int p2), .val (.int p3), .val (.int (0 : Int32)), .val (.int (0 : Int32)), .val (.int p3), .val (.ref aM), .val (.double (FP.i2d p2)), .second, .val (.double (FP.i2d p3)), .second, .unset, .unset] [(.double (FP.i2d p2)), (.ref aM)])) (fun t k => XS.dload X9.here hx rfl (hb hby at_63) rfl k) ?_
      refine own_step (T' := T9) (f' := (mkF m 67 #[.val (.int p1), .val (.int p2), .val (.int p3), .val (.int (0 : Int32)), .val (.int (0 : Int32)), .val (.int p3), .val (.ref aM), .val (.double (FP.i2d p2)), .second, .val (.double (FP.i2d p3)), .second, .unset, .unset] [(.double (FP.i2d p3)), (.double (FP.i2d p2)), (.ref aM)])) (fun t k => XS.dload X9.here hx rfl (hb hby at_65) rfl k) ?_
      obtain ⟨cq10, kq10, q10a, q10b, q10c⟩ := isOf hZ e9 X_M
      obtain ⟨_, _, ⟨T10, L10, k10, n10⟩, -, X10, ⟨Lc10, hQ10, l10, y10, z10⟩, st10⟩ := X9.virtualBack hx (y := (⟨"com/example/inchworm/inchworm/model/Optimum", "isBetter", "(DD)Z"⟩ : MethodName)) (z := (⟨"com/example/inchworm/inchworm/model/Optimum", "isBetter", "(DD)Z"⟩ : MethodName)) hown (mvT hZ (hw _ (List.mem_of_getElem? (i := 3) rfl))) (mvT hZ (hw _ (List.mem_of_getElem? (i := 4) rfl))) (notFace_of_selects (args := #[]) (mvT hZ (hw _ (List.mem_of_getElem? (i := 6) rfl)))) (mvT hZ (hw _ (List.mem_of_getElem? (i := 6) rfl))) (mvT hZ (hw _ (List.mem_of_getElem? (i := 5) rfl))) (by decide) (backOf (W := 0) (rm1 l Z a0 hw [] aM (FP.i2d p2) (FP.i2d p3) h0 n0 Z0 aN S_N) hZ (hw _ (List.mem_of_getElem? (i := 7) rfl)) (hw _ (List.mem_of_getElem? (i := 1) rfl)) (by decide) (by decide)) q10a q10c (g := (mkF m 67 #[.val (.int p1), .val (.int p2), .val (.int p3), .val (.int (0 : Int32)), .val (.int (0 : Int32)), .val (.int p3), .val (.ref aM), .val (.double (FP.i2d p2)), .second, .val (.double (FP.i2d p3)), .second, .unset, .unset] [(.double (FP.i2d p3)), (.double (FP.i2d p2)), (.ref aM)])) rfl (by rw [hml]; rfl) (Steps.refl _) (argsL := [(.double (FP.i2d p2)), (.double (FP.i2d p3))]) (rest := []) (lenOf pd_0_0 rfl) rfl (by show 2 * 0 + _ ≤ _; exact Nat.le_of_eq rfl) (hb hby at_67) (fun _ _ => ⟨rfl, e9, (by decide : 0 + 0 ≤ _), (by decide : 0 + 0 ≤ _)⟩)
      dsimp only [Pt.U, Pt.locs, Pt.cells, Pt.slots] at X10 l10 y10 z10 st10 hQ10
      subst l10 y10 z10
      obtain ⟨rfl, N10q, E10⟩ := hQ10
      have N10 := Fr.app N0 N10q
      refine own_step (T' := T10) (f' := (mkF m 70 #[.val (.int p1), .val (.int p2), .val (.int p3), .val (.int (0 : Int32)), .val (.int (0 : Int32)), .val (.int p3), .val (.ref aM), .val (.double (FP.i2d p2)), .second, .val (.double (FP.i2d p3)), .second, .unset, .unset] [(.int (own_better aM (FP.i2d p2) (FP.i2d p3) aN))])) (fun t k => st10.trans k) ?_
      refine own_step (T' := T10) (f' := (mkF m 72 #[.val (.int p1), .val (.int p2), .val (.int p3), .val (.int (0 : Int32)), .val (.int (0 : Int32)), .val (.int p3), .val (.ref aM), .val (.double (FP.i2d p2)), .second, .val (.double (FP.i2d p3)), .second, .val (.int (own_better aM (FP.i2d p2) (FP.i2d p3) aN)), .unset] [])) (fun t k => XS.istore X10.here hx rfl (hb hby at_70) rfl (l' := #[.val (.int p1), .val (.int p2), .val (.int p3), .val (.int (0 : Int32)), .val (.int (0 : Int32)), .val (.int p3), .val (.ref aM), .val (.double (FP.i2d p2)), .second, .val (.double (FP.i2d p3)), .second, .val (.int (own_better aM (FP.i2d p2) (FP.i2d p3) aN)), .unset]) rfl k) ?_
      refine own_step (T' := T10) (f' := (mkF m 73 #[.val (.int p1), .val (.int p2), .val (.int p3), .val (.int (0 : Int32)), .val (.int (0 : Int32)), .val (.int p3), .val (.ref aM), .val (.double (FP.i2d p2)), .second, .val (.double (FP.i2d p3)), .second, .val (.int (own_better aM (FP.i2d p2) (FP.i2d p3) aN)), .unset] [(.int (0 : Int32))])) (fun t k => XS.iloadN X10.here hx rfl (hb hby at_72) rfl k) ?_
      refine own_step (T' := T10) (f' := (mkF m 92 #[.val (.int p1), .val (.int p2), .val (.int p3), .val (.int (0 : Int32)), .val (.int (0 : Int32)), .val (.int p3), .val (.ref aM), .val (.double (FP.i2d p2)), .second, .val (.double (FP.i2d p3)), .second, .val (.int (own_better aM (FP.i2d p2) (FP.i2d p3) aN)), .unset] [])) (fun t k => XS.ifYes X10.here hx rfl (pc0 := 73) (pc' := 92) rfl (hb hby at_73) rfl ((if0 _ _).trans (teq (by decide : (0 : Int32) = (0 : Int32))).1) (by decide) (by decide) k) ?_
      refine own_step (T' := T10) (f' := (mkF m 93 #[.val (.int p1), .val (.int p2), .val (.int p3), .val (.int (0 : Int32)), .val (.int (0 : Int32)), .val (.int p3), .val (.ref aM), .val (.double (FP.i2d p2)), .second, .val (.double (FP.i2d p3)), .second, .val (.int (own_better aM (FP.i2d p2) (FP.i2d p3) aN)), .unset] [(.int p2)])) (fun t k => XS.iloadN X10.here hx rfl (hb hby at_92) rfl k) ?_
      refine own_step (T' := T10) (f' := (mkF m 95 #[.val (.int p1), .val (.int p2), .val (.int p3), .val (.int (0 : Int32)), .val (.int (0 : Int32)), .val (.int p3), .val (.ref aM), .val (.double (FP.i2d p2)), .second, .val (.double (FP.i2d p3)), .second, .val (.int (own_better aM (FP.i2d p2) (FP.i2d p3) aN)), .unset] [(.int p3), (.int p2)])) (fun t k => XS.iload X10.here hx rfl (hb hby at_93) rfl k) ?_
      by_cases hc95_11 : p3 < p2
      · skip
        refine own_step (T' := T10) (f' := (mkF m 98 #[.val (.int p1), .val (.int p2), .val (.int p3), .val (.int (0 : Int32)), .val (.int (0 : Int32)), .val (.int p3), .val (.ref aM), .val (.double (FP.i2d p2)), .second, .val (.double (FP.i2d p3)), .second, .val (.int (own_better aM (FP.i2d p2) (FP.i2d p3) aN)), .unset] [])) (fun t k => XS.icmpNo X10.here hx rfl (hb hby at_95) rfl (tlt hc95_11).2.2.2 k) ?_
        refine own_step (T' := T10) (f' := (mkF m 99 #[.val (.int p1), .val (.int p2), .val (.int p3), .val (.int (0 : Int32)), .val (.int (0 : Int32)), .val (.int p3), .val (.ref aM), .val (.double (FP.i2d p2)), .second, .val (.double (FP.i2d p3)), .second, .val (.int (own_better aM (FP.i2d p2) (FP.i2d p3) aN)), .unset] [(.int (1 : Int32))])) (fun t k => XS.iconst X10.here hx rfl (hb hby at_98) k) ?_
        refine own_step (T' := T10) (f' := (mkF m 103 #[.val (.int p1), .val (.int p2), .val (.int p3), .val (.int (0 : Int32)), .val (.int (0 : Int32)), .val (.int p3), .val (.ref aM), .val (.double (FP.i2d p2)), .second, .val (.double (FP.i2d p3)), .second, .val (.int (own_better aM (FP.i2d p2) (FP.i2d p3) aN)), .unset] [(.int (1 : Int32))])) (fun t k => XS.goto X10.here hx rfl (pc0 := 99) (pc' := 103) rfl (hb hby at_99) (by decide) (by decide) k) ?_
        refine own_step (T' := T10) (f' := (mkF m 105 #[.val (.int p1), .val (.int p2), .val (.int p3), .val (.int (0 : Int32)), .val (.int (0 : Int32)), .val (.int p3), .val (.ref aM), .val (.double (FP.i2d p2)), .second, .val (.double (FP.i2d p3)), .second, .val (.int (own_better aM (FP.i2d p2) (FP.i2d p3) aN)), .val (.int (1 : Int32))] [])) (fun t k => XS.istore X10.here hx rfl (hb hby at_103) rfl (l' := #[.val (.int p1), .val (.int p2), .val (.int p3), .val (.int (0 : Int32)), .val (.int (0 : Int32)), .val (.int p3), .val (.ref aM), .val (.double (FP.i2d p2)), .second, .val (.double (FP.i2d p3)), .second, .val (.int (own_better aM (FP.i2d p2) (FP.i2d p3) aN)), .val (.int (1 : Int32))]) rfl k) ?_
        refine own_step (T' := T10) (f' := (mkF m 107 #[.val (.int p1), .val (.int p2), .val (.int p3), .val (.int (0 : Int32)), .val (.int (0 : Int32)), .val (.int p3), .val (.ref aM), .val (.double (FP.i2d p2)), .second, .val (.double (FP.i2d p3)), .second, .val (.int (own_better aM (FP.i2d p2) (FP.i2d p3) aN)), .val (.int (1 : Int32))] [(.int (own_better aM (FP.i2d p2) (FP.i2d p3) aN))])) (fun t k => XS.iload X10.here hx rfl (hb hby at_105) rfl k) ?_
        refine own_step (T' := T10) (f' := (mkF m 109 #[.val (.int p1), .val (.int p2), .val (.int p3), .val (.int (0 : Int32)), .val (.int (0 : Int32)), .val (.int p3), .val (.ref aM), .val (.double (FP.i2d p2)), .second, .val (.double (FP.i2d p3)), .second, .val (.int (own_better aM (FP.i2d p2) (FP.i2d p3) aN)), .val (.int (1 : Int32))] [(.int (1 : Int32)), (.int (own_better aM (FP.i2d p2) (FP.i2d p3) aN))])) (fun t k => XS.iload X10.here hx rfl (hb hby at_107) rfl k) ?_
        refine own_step (T' := T10) (f' := (mkF m 112 #[.val (.int p1), .val (.int p2), .val (.int p3), .val (.int (0 : Int32)), .val (.int (0 : Int32)), .val (.int p3), .val (.ref aM), .val (.double (FP.i2d p2)), .second, .val (.double (FP.i2d p3)), .second, .val (.int (own_better aM (FP.i2d p2) (FP.i2d p3) aN)), .val (.int (1 : Int32))] [])) (fun t k => XS.icmpNo X10.here hx rfl (hb hby at_109) rfl (teq (own_max1 nMN hc95_11)).2 k) ?_
        refine own_step (T' := T10) (f' := (mkF m 113 #[.val (.int p1), .val (.int p2), .val (.int p3), .val (.int (0 : Int32)), .val (.int (0 : Int32)), .val (.int p3), .val (.ref aM), .val (.double (FP.i2d p2)), .second, .val (.double (FP.i2d p3)), .second, .val (.int (own_better aM (FP.i2d p2) (FP.i2d p3) aN)), .val (.int (1 : Int32))] [(.int (1 : Int32))])) (fun t k => XS.iconst X10.here hx rfl (hb hby at_112) k) ?_
        refine own_step (T' := T10) (f' := (mkF m 117 #[.val (.int p1), .val (.int p2), .val (.int p3), .val (.int (0 : Int32)), .val (.int (0 : Int32)), .val (.int p3), .val (.ref aM), .val (.double (FP.i2d p2)), .second, .val (.double (FP.i2d p3)), .second, .val (.int (own_better aM (FP.i2d p2) (FP.i2d p3) aN)), .val (.int (1 : Int32))] [(.int (1 : Int32))])) (fun t k => XS.goto X10.here hx rfl (pc0 := 113) (pc' := 117) rfl (hb hby at_113) (by decide) (by decide) k) ?_
        exact own_retN X10 hx hlk (t := .boolean) Bd.returns (by simp) (hb hby at_117) (by decide) (by decide) ⟨rfl, N10⟩
      · skip
        refine own_step (T' := T10) (f' := (mkF m 102 #[.val (.int p1), .val (.int p2), .val (.int p3), .val (.int (0 : Int32)), .val (.int (0 : Int32)), .val (.int p3), .val (.ref aM), .val (.double (FP.i2d p2)), .second, .val (.double (FP.i2d p3)), .second, .val (.int (own_better aM (FP.i2d p2) (FP.i2d p3) aN)), .unset] [])) (fun t k => XS.icmpYes X10.here hx rfl (pc0 := 95) (pc' := 102) rfl (hb hby at_95) rfl (flt hc95_11).2.2.2 (by decide) (by decide) k) ?_
        refine own_step (T' := T10) (f' := (mkF m 103 #[.val (.int p1), .val (.int p2), .val (.int p3), .val (.int (0 : Int32)), .val (.int (0 : Int32)), .val (.int p3), .val (.ref aM), .val (.double (FP.i2d p2)), .second, .val (.double (FP.i2d p3)), .second, .val (.int (own_better aM (FP.i2d p2) (FP.i2d p3) aN)), .unset] [(.int (0 : Int32))])) (fun t k => XS.iconst X10.here hx rfl (hb hby at_102) k) ?_
        refine own_step (T' := T10) (f' := (mkF m 105 #[.val (.int p1), .val (.int p2), .val (.int p3), .val (.int (0 : Int32)), .val (.int (0 : Int32)), .val (.int p3), .val (.ref aM), .val (.double (FP.i2d p2)), .second, .val (.double (FP.i2d p3)), .second, .val (.int (own_better aM (FP.i2d p2) (FP.i2d p3) aN)), .val (.int (0 : Int32))] [])) (fun t k => XS.istore X10.here hx rfl (hb hby at_103) rfl (l' := #[.val (.int p1), .val (.int p2), .val (.int p3), .val (.int (0 : Int32)), .val (.int (0 : Int32)), .val (.int p3), .val (.ref aM), .val (.double (FP.i2d p2)), .second, .val (.double (FP.i2d p3)), .second, .val (.int (own_better aM (FP.i2d p2) (FP.i2d p3) aN)), .val (.int (0 : Int32))]) rfl k) ?_
        refine own_step (T' := T10) (f' := (mkF m 107 #[.val (.int p1), .val (.int p2), .val (.int p3), .val (.int (0 : Int32)), .val (.int (0 : Int32)), .val (.int p3), .val (.ref aM), .val (.double (FP.i2d p2)), .second, .val (.double (FP.i2d p3)), .second, .val (.int (own_better aM (FP.i2d p2) (FP.i2d p3) aN)), .val (.int (0 : Int32))] [(.int (own_better aM (FP.i2d p2) (FP.i2d p3) aN))])) (fun t k => XS.iload X10.here hx rfl (hb hby at_105) rfl k) ?_
        refine own_step (T' := T10) (f' := (mkF m 109 #[.val (.int p1), .val (.int p2), .val (.int p3), .val (.int (0 : Int32)), .val (.int (0 : Int32)), .val (.int p3), .val (.ref aM), .val (.double (FP.i2d p2)), .second, .val (.double (FP.i2d p3)), .second, .val (.int (own_better aM (FP.i2d p2) (FP.i2d p3) aN)), .val (.int (0 : Int32))] [(.int (0 : Int32)), (.int (own_better aM (FP.i2d p2) (FP.i2d p3) aN))])) (fun t k => XS.iload X10.here hx rfl (hb hby at_107) rfl k) ?_
        refine own_step (T' := T10) (f' := (mkF m 112 #[.val (.int p1), .val (.int p2), .val (.int p3), .val (.int (0 : Int32)), .val (.int (0 : Int32)), .val (.int p3), .val (.ref aM), .val (.double (FP.i2d p2)), .second, .val (.double (FP.i2d p3)), .second, .val (.int (own_better aM (FP.i2d p2) (FP.i2d p3) aN)), .val (.int (0 : Int32))] [])) (fun t k => XS.icmpNo X10.here hx rfl (hb hby at_109) rfl (teq (own_max0 nMN hc95_11)).2 k) ?_
        refine own_step (T' := T10) (f' := (mkF m 113 #[.val (.int p1), .val (.int p2), .val (.int p3), .val (.int (0 : Int32)), .val (.int (0 : Int32)), .val (.int p3), .val (.ref aM), .val (.double (FP.i2d p2)), .second, .val (.double (FP.i2d p3)), .second, .val (.int (own_better aM (FP.i2d p2) (FP.i2d p3) aN)), .val (.int (0 : Int32))] [(.int (1 : Int32))])) (fun t k => XS.iconst X10.here hx rfl (hb hby at_112) k) ?_
        refine own_step (T' := T10) (f' := (mkF m 117 #[.val (.int p1), .val (.int p2), .val (.int p3), .val (.int (0 : Int32)), .val (.int (0 : Int32)), .val (.int p3), .val (.ref aM), .val (.double (FP.i2d p2)), .second, .val (.double (FP.i2d p3)), .second, .val (.int (own_better aM (FP.i2d p2) (FP.i2d p3) aN)), .val (.int (0 : Int32))] [(.int (1 : Int32))])) (fun t k => XS.goto X10.here hx rfl (pc0 := 113) (pc' := 117) rfl (hb hby at_113) (by decide) (by decide) k) ?_
        exact own_retN X10 hx hlk (t := .boolean) Bd.returns (by simp) (hb hby at_117) (by decide) (by decide) ⟨rfl, N10⟩
    · skip
      refine own_step (T' := s₁) (f' := (mkF m 18 #[.val (.int p1), .val (.int p2), .val (.int p3), .val (.int (0 : Int32)), .unset, .unset, .unset, .unset, .unset, .unset, .unset, .unset, .unset] [])) (fun t k => XS.ifNo X0.here hx rfl (hb hby at_15) rfl ((if0 _ _).trans (feq hc15_8).1) k) ?_
      refine own_step (T' := s₁) (f' := (mkF m 19 #[.val (.int p1), .val (.int p2), .val (.int p3), .val (.int (0 : Int32)), .unset, .unset, .unset, .unset, .unset, .unset, .unset, .unset, .unset] [(.int (1 : Int32))])) (fun t k => XS.iconst X0.here hx rfl (hb hby at_18) k) ?_
      refine own_step (T' := s₁) (f' := (mkF m 23 #[.val (.int p1), .val (.int p2), .val (.int p3), .val (.int (0 : Int32)), .unset, .unset, .unset, .unset, .unset, .unset, .unset, .unset, .unset] [(.int (1 : Int32))])) (fun t k => XS.goto X0.here hx rfl (pc0 := 19) (pc' := 23) rfl (hb hby at_19) (by decide) (by decide) k) ?_
      refine own_step (T' := s₁) (f' := (mkF m 25 #[.val (.int p1), .val (.int p2), .val (.int p3), .val (.int (0 : Int32)), .val (.int (1 : Int32)), .unset, .unset, .unset, .unset, .unset, .unset, .unset, .unset] [])) (fun t k => XS.istore X0.here hx rfl (hb hby at_23) rfl (l' := #[.val (.int p1), .val (.int p2), .val (.int p3), .val (.int (0 : Int32)), .val (.int (1 : Int32)), .unset, .unset, .unset, .unset, .unset, .unset, .unset, .unset]) rfl k) ?_
      refine own_step (T' := s₁) (f' := (mkF m 27 #[.val (.int p1), .val (.int p2), .val (.int p3), .val (.int (0 : Int32)), .val (.int (1 : Int32)), .unset, .unset, .unset, .unset, .unset, .unset, .unset, .unset] [(.int (1 : Int32))])) (fun t k => XS.iload X0.here hx rfl (hb hby at_25) rfl k) ?_
      refine own_step (T' := s₁) (f' := (mkF m 30 #[.val (.int p1), .val (.int p2), .val (.int p3), .val (.int (0 : Int32)), .val (.int (1 : Int32)), .unset, .unset, .unset, .unset, .unset, .unset, .unset, .unset] [])) (fun t k => XS.ifNo X0.here hx rfl (hb hby at_27) rfl ((if0 _ _).trans (feq (by decide : ¬ ((1 : Int32) = (0 : Int32)))).1) k) ?_
      refine own_step (T' := s₁) (f' := (mkF m 31 #[.val (.int p1), .val (.int p2), .val (.int p3), .val (.int (0 : Int32)), .val (.int (1 : Int32)), .unset, .unset, .unset, .unset, .unset, .unset, .unset, .unset] [(.int p2)])) (fun t k => XS.iloadN X0.here hx rfl (hb hby at_30) rfl k) ?_
      refine own_step (T' := s₁) (f' := (mkF m 35 #[.val (.int p1), .val (.int p2), .val (.int p3), .val (.int (0 : Int32)), .val (.int (1 : Int32)), .unset, .unset, .unset, .unset, .unset, .unset, .unset, .unset] [(.int p2)])) (fun t k => XS.goto X0.here hx rfl (pc0 := 31) (pc' := 35) rfl (hb hby at_31) (by decide) (by decide) k) ?_
      refine own_step (T' := s₁) (f' := (mkF m 37 #[.val (.int p1), .val (.int p2), .val (.int p3), .val (.int (0 : Int32)), .val (.int (1 : Int32)), .val (.int p2), .unset, .unset, .unset, .unset, .unset, .unset, .unset] [])) (fun t k => XS.istore X0.here hx rfl (hb hby at_35) rfl (l' := #[.val (.int p1), .val (.int p2), .val (.int p3), .val (.int (0 : Int32)), .val (.int (1 : Int32)), .val (.int p2), .unset, .unset, .unset, .unset, .unset, .unset, .unset]) rfl k) ?_
      refine own_step (T' := s₁) (f' := (mkF m 38 #[.val (.int p1), .val (.int p2), .val (.int p3), .val (.int (0 : Int32)), .val (.int (1 : Int32)), .val (.int p2), .unset, .unset, .unset, .unset, .unset, .unset, .unset] [(.int (0 : Int32))])) (fun t k => XS.iloadN X0.here hx rfl (hb hby at_37) rfl k) ?_
      refine own_step (T' := s₁) (f' := (mkF m 47 #[.val (.int p1), .val (.int p2), .val (.int p3), .val (.int (0 : Int32)), .val (.int (1 : Int32)), .val (.int p2), .unset, .unset, .unset, .unset, .unset, .unset, .unset] [])) (fun t k => XS.ifYes X0.here hx rfl (pc0 := 38) (pc' := 47) rfl (hb hby at_38) rfl ((if0 _ _).trans (teq (by decide : (0 : Int32) = (0 : Int32))).1) (by decide) (by decide) k) ?_
      obtain ⟨T12, X12, e12, st12⟩ := getS2 X0 hx hZ hown (host := "") (Or.inl (hw _ (List.mem_of_getElem? (i := 9) rfl))) Via.refl e0 S_M (g := (mkF m 47 #[.val (.int p1), .val (.int p2), .val (.int p3), .val (.int (0 : Int32)), .val (.int (1 : Int32)), .val (.int p2), .unset, .unset, .unset, .unset, .unset, .unset, .unset] [])) rfl (hb hby at_47)
      refine own_step (T' := T12) (f' := (mkF m 50 #[.val (.int p1), .val (.int p2), .val (.int p3), .val (.int (0 : Int32)), .val (.int (1 : Int32)), .val (.int p2), .unset, .unset, .unset, .unset, .unset, .unset, .unset] [(.ref aM)])) (fun t k => st12 t k) ?_
      refine own_step (T' := T12) (f' := (mkF m 52 #[.val (.int p1), .val (.int p2), .val (.int p3), .val (.int (0 : Int32)), .val (.int (1 : Int32)), .val (.int p2), .val (.ref aM), .unset, .unset, .unset, .unset, .unset, .unset] [])) (fun t k => XS.astore X12.here hx rfl (hb hby at_50) rfl rfl (l' := #[.val (.int p1), .val (.int p2), .val (.int p3), .val (.int (0 : Int32)), .val (.int (1 : Int32)), .val (.int p2), .val (.ref aM), .unset, .unset, .unset, .unset, .unset, .unset]) rfl k) ?_
      refine own_step (T' := T12) (f' := (mkF m 53 #[.val (.int p1), .val (.int p2), .val (.int p3), .val (.int (0 : Int32)), .val (.int (1 : Int32)), .val (.int p2), .val (.ref aM), .unset, .unset, .unset, .unset, .unset, .unset] [(.int p2)])) (fun t k => XS.iloadN X12.here hx rfl (hb hby at_52) rfl k) ?_
      refine own_step (T' := T12) (f' := (mkF m 54 #[.val (.int p1), .val (.int p2), .val (.int p3), .val (.int (0 : Int32)), .val (.int (1 : Int32)), .val (.int p2), .val (.ref aM), .unset, .unset, .unset, .unset, .unset, .unset] [(.double (FP.i2d p2))])) (fun t k => XS.i2dS X12.here hx rfl (hb hby at_53) rfl rfl k) ?_
      refine own_step (T' := T12) (f' := (mkF m 56 #[.val (.int p1), .val (.int p2), .val (.int p3), .val (.int (0 : Int32)), .val (.int (1 : Int32)), .val (.int p2), .val (.ref aM), .val (.double (FP.i2d p2)), .second, .unset, .unset, .unset, .unset] [])) (fun t k => XS.dstore X12.here hx rfl (hb hby at_54) rfl (l' := #[.val (.int p1), .val (.int p2), .val (.int p3), .val (.int (0 : Int32)), .val (.int (1 : Int32)), .val (.int p2), .val (.ref aM), .val (.double (FP.i2d p2)), .second, .unset, .unset, .unset, .unset]) rfl k) ?_
      refine own_step (T' := T12) (f' := (mkF m 58 #[.val (.int p1), .val (.int p2), .val (.int p3), .val (.int (0 : Int32)), .val (.int (1 : Int32)), .val (.int p2), .val (.ref aM), .val (.double (FP.i2d p2)), .second, .unset, .unset, .unset, .unset] [(.int p2)])) (fun t k => XS.iload X12.here hx rfl (hb hby at_56) rfl k) ?_
      refine own_step (T' := T12) (f' := (mkF m 59 #[.val (.int p1), .val (.int p2), .val (.int p3), .val (.int (0 : Int32)), .val (.int (1 : Int32)), .val (.int p2), .val (.ref aM), .val (.double (FP.i2d p2)), .second, .unset, .unset, .unset, .unset] [(.double (FP.i2d p2))])) (fun t k => XS.i2dS X12.here hx rfl (hb hby at_58) rfl rfl k) ?_
      refine own_step (T' := T12) (f' := (mkF m 61 #[.val (.int p1), .val (.int p2), .val (.int p3), .val (.int (0 : Int32)), .val (.int (1 : Int32)), .val (.int p2), .val (.ref aM), .val (.double (FP.i2d p2)), .second, .val (.double (FP.i2d p2)), .second, .unset, .unset] [])) (fun t k => XS.dstore X12.here hx rfl (hb hby at_59) rfl (l' := #[.val (.int p1), .val (.int p2), .val (.int p3), .val (.int (0 : Int32)), .val (.int (1 : Int32)), .val (.int p2), .val (.ref aM), .val (.double (FP.i2d p2)), .second, .val (.double (FP.i2d p2)), .second, .unset, .unset]) rfl k) ?_
      refine own_step (T' := T12) (f' := (mkF m 63 #[.val (.int p1), .val (.int p2), .val (.int p3), .val (.int (0 : Int32)), .val (.int (1 : Int32)), .val (.int p2), .val (.ref aM), .val (.double (FP.i2d p2)), .second, .val (.double (FP.i2d p2)), .second, .unset, .unset] [(.ref aM)])) (fun t k => XS.aload X12.here hx rfl (hb hby at_61) rfl rfl k) ?_
      refine own_step (T' := T12) (f' := (mkF m 65 #[.val (.int p1), .val (.int p2), .val (.int p3), .val (.int (0 : Int32)), .val (.int (1 : Int32)), .val (.int p2), .val (.ref aM), .val (.double (FP.i2d p2)), .second, .val (.double (FP.i2d p2)), .second, .unset, .unset] [(.double (FP.i2d p2)), (.ref aM)])) (fun t k => XS.dload X12.here hx rfl (hb hby at_63) rfl k) ?_
      refine own_step (T' := T12) (f' := (mkF m 67 #[.val (.int p1), .val (.int p2), .val (.int p3), .val (.int (0 : Int32)), .val (.int (1 : Int32)), .val (.int p2), .val (.ref aM), .val (.double (FP.i2d p2)), .second, .val (.double (FP.i2d p2)), .second, .unset, .unset] [(.double (FP.i2d p2)), (.double (FP.i2d p2)), (.ref aM)])) (fun t k => XS.dload X12.here hx rfl (hb hby at_65) rfl k) ?_
      obtain ⟨cq13, kq13, q13a, q13b, q13c⟩ := isOf hZ e12 X_M
      obtain ⟨_, _, ⟨T13, L13, k13, n13⟩, -, X13, ⟨Lc13, hQ13, l13, y13, z13⟩, st13⟩ := X12.virtualBack hx (y := (⟨"com/example/inchworm/inchworm/model/Optimum", "isBetter", "(DD)Z"⟩ : MethodName)) (z := (⟨"com/example/inchworm/inchworm/model/Optimum", "isBetter", "(DD)Z"⟩ : MethodName)) hown (mvT hZ (hw _ (List.mem_of_getElem? (i := 3) rfl))) (mvT hZ (hw _ (List.mem_of_getElem? (i := 4) rfl))) (notFace_of_selects (args := #[]) (mvT hZ (hw _ (List.mem_of_getElem? (i := 6) rfl)))) (mvT hZ (hw _ (List.mem_of_getElem? (i := 6) rfl))) (mvT hZ (hw _ (List.mem_of_getElem? (i := 5) rfl))) (by decide) (backOf (W := 0) (rm1 l Z a0 hw [] aM (FP.i2d p2) (FP.i2d p2) h0 n0 Z0 aN S_N) hZ (hw _ (List.mem_of_getElem? (i := 7) rfl)) (hw _ (List.mem_of_getElem? (i := 1) rfl)) (by decide) (by decide)) q13a q13c (g := (mkF m 67 #[.val (.int p1), .val (.int p2), .val (.int p3), .val (.int (0 : Int32)), .val (.int (1 : Int32)), .val (.int p2), .val (.ref aM), .val (.double (FP.i2d p2)), .second, .val (.double (FP.i2d p2)), .second, .unset, .unset] [(.double (FP.i2d p2)), (.double (FP.i2d p2)), (.ref aM)])) rfl (by rw [hml]; rfl) (Steps.refl _) (argsL := [(.double (FP.i2d p2)), (.double (FP.i2d p2))]) (rest := []) (lenOf pd_0_0 rfl) rfl (by show 2 * 0 + _ ≤ _; exact Nat.le_of_eq rfl) (hb hby at_67) (fun _ _ => ⟨rfl, e12, (by decide : 0 + 0 ≤ _), (by decide : 0 + 0 ≤ _)⟩)
      dsimp only [Pt.U, Pt.locs, Pt.cells, Pt.slots] at X13 l13 y13 z13 st13 hQ13
      subst l13 y13 z13
      obtain ⟨rfl, N13q, E13⟩ := hQ13
      have N13 := Fr.app N0 N13q
      refine own_step (T' := T13) (f' := (mkF m 70 #[.val (.int p1), .val (.int p2), .val (.int p3), .val (.int (0 : Int32)), .val (.int (1 : Int32)), .val (.int p2), .val (.ref aM), .val (.double (FP.i2d p2)), .second, .val (.double (FP.i2d p2)), .second, .unset, .unset] [(.int (own_better aM (FP.i2d p2) (FP.i2d p2) aN))])) (fun t k => st13.trans k) ?_
      refine own_step (T' := T13) (f' := (mkF m 72 #[.val (.int p1), .val (.int p2), .val (.int p3), .val (.int (0 : Int32)), .val (.int (1 : Int32)), .val (.int p2), .val (.ref aM), .val (.double (FP.i2d p2)), .second, .val (.double (FP.i2d p2)), .second, .val (.int (own_better aM (FP.i2d p2) (FP.i2d p2) aN)), .unset] [])) (fun t k => XS.istore X13.here hx rfl (hb hby at_70) rfl (l' := #[.val (.int p1), .val (.int p2), .val (.int p3), .val (.int (0 : Int32)), .val (.int (1 : Int32)), .val (.int p2), .val (.ref aM), .val (.double (FP.i2d p2)), .second, .val (.double (FP.i2d p2)), .second, .val (.int (own_better aM (FP.i2d p2) (FP.i2d p2) aN)), .unset]) rfl k) ?_
      refine own_step (T' := T13) (f' := (mkF m 73 #[.val (.int p1), .val (.int p2), .val (.int p3), .val (.int (0 : Int32)), .val (.int (1 : Int32)), .val (.int p2), .val (.ref aM), .val (.double (FP.i2d p2)), .second, .val (.double (FP.i2d p2)), .second, .val (.int (own_better aM (FP.i2d p2) (FP.i2d p2) aN)), .unset] [(.int (0 : Int32))])) (fun t k => XS.iloadN X13.here hx rfl (hb hby at_72) rfl k) ?_
      refine own_step (T' := T13) (f' := (mkF m 92 #[.val (.int p1), .val (.int p2), .val (.int p3), .val (.int (0 : Int32)), .val (.int (1 : Int32)), .val (.int p2), .val (.ref aM), .val (.double (FP.i2d p2)), .second, .val (.double (FP.i2d p2)), .second, .val (.int (own_better aM (FP.i2d p2) (FP.i2d p2) aN)), .unset] [])) (fun t k => XS.ifYes X13.here hx rfl (pc0 := 73) (pc' := 92) rfl (hb hby at_73) rfl ((if0 _ _).trans (teq (by decide : (0 : Int32) = (0 : Int32))).1) (by decide) (by decide) k) ?_
      refine own_step (T' := T13) (f' := (mkF m 93 #[.val (.int p1), .val (.int p2), .val (.int p3), .val (.int (0 : Int32)), .val (.int (1 : Int32)), .val (.int p2), .val (.ref aM), .val (.double (FP.i2d p2)), .second, .val (.double (FP.i2d p2)), .second, .val (.int (own_better aM (FP.i2d p2) (FP.i2d p2) aN)), .unset] [(.int p2)])) (fun t k => XS.iloadN X13.here hx rfl (hb hby at_92) rfl k) ?_
      refine own_step (T' := T13) (f' := (mkF m 95 #[.val (.int p1), .val (.int p2), .val (.int p3), .val (.int (0 : Int32)), .val (.int (1 : Int32)), .val (.int p2), .val (.ref aM), .val (.double (FP.i2d p2)), .second, .val (.double (FP.i2d p2)), .second, .val (.int (own_better aM (FP.i2d p2) (FP.i2d p2) aN)), .unset] [(.int p2), (.int p2)])) (fun t k => XS.iload X13.here hx rfl (hb hby at_93) rfl k) ?_
      refine own_step (T' := T13) (f' := (mkF m 102 #[.val (.int p1), .val (.int p2), .val (.int p3), .val (.int (0 : Int32)), .val (.int (1 : Int32)), .val (.int p2), .val (.ref aM), .val (.double (FP.i2d p2)), .second, .val (.double (FP.i2d p2)), .second, .val (.int (own_better aM (FP.i2d p2) (FP.i2d p2) aN)), .unset] [])) (fun t k => XS.icmpYes X13.here hx rfl (pc0 := 95) (pc' := 102) rfl (hb hby at_95) rfl (flt (own_irr : ¬ (p2 < p2))).2.2.2 (by decide) (by decide) k) ?_
      refine own_step (T' := T13) (f' := (mkF m 103 #[.val (.int p1), .val (.int p2), .val (.int p3), .val (.int (0 : Int32)), .val (.int (1 : Int32)), .val (.int p2), .val (.ref aM), .val (.double (FP.i2d p2)), .second, .val (.double (FP.i2d p2)), .second, .val (.int (own_better aM (FP.i2d p2) (FP.i2d p2) aN)), .unset] [(.int (0 : Int32))])) (fun t k => XS.iconst X13.here hx rfl (hb hby at_102) k) ?_
      refine own_step (T' := T13) (f' := (mkF m 105 #[.val (.int p1), .val (.int p2), .val (.int p3), .val (.int (0 : Int32)), .val (.int (1 : Int32)), .val (.int p2), .val (.ref aM), .val (.double (FP.i2d p2)), .second, .val (.double (FP.i2d p2)), .second, .val (.int (own_better aM (FP.i2d p2) (FP.i2d p2) aN)), .val (.int (0 : Int32))] [])) (fun t k => XS.istore X13.here hx rfl (hb hby at_103) rfl (l' := #[.val (.int p1), .val (.int p2), .val (.int p3), .val (.int (0 : Int32)), .val (.int (1 : Int32)), .val (.int p2), .val (.ref aM), .val (.double (FP.i2d p2)), .second, .val (.double (FP.i2d p2)), .second, .val (.int (own_better aM (FP.i2d p2) (FP.i2d p2) aN)), .val (.int (0 : Int32))]) rfl k) ?_
      refine own_step (T' := T13) (f' := (mkF m 107 #[.val (.int p1), .val (.int p2), .val (.int p3), .val (.int (0 : Int32)), .val (.int (1 : Int32)), .val (.int p2), .val (.ref aM), .val (.double (FP.i2d p2)), .second, .val (.double (FP.i2d p2)), .second, .val (.int (own_better aM (FP.i2d p2) (FP.i2d p2) aN)), .val (.int (0 : Int32))] [(.int (own_better aM (FP.i2d p2) (FP.i2d p2) aN))])) (fun t k => XS.iload X13.here hx rfl (hb hby at_105) rfl k) ?_
      refine own_step (T' := T13) (f' := (mkF m 109 #[.val (.int p1), .val (.int p2), .val (.int p3), .val (.int (0 : Int32)), .val (.int (1 : Int32)), .val (.int p2), .val (.ref aM), .val (.double (FP.i2d p2)), .second, .val (.double (FP.i2d p2)), .second, .val (.int (own_better aM (FP.i2d p2) (FP.i2d p2) aN)), .val (.int (0 : Int32))] [(.int (0 : Int32)), (.int (own_better aM (FP.i2d p2) (FP.i2d p2) aN))])) (fun t k => XS.iload X13.here hx rfl (hb hby at_107) rfl k) ?_
      refine own_step (T' := T13) (f' := (mkF m 112 #[.val (.int p1), .val (.int p2), .val (.int p3), .val (.int (0 : Int32)), .val (.int (1 : Int32)), .val (.int p2), .val (.ref aM), .val (.double (FP.i2d p2)), .second, .val (.double (FP.i2d p2)), .second, .val (.int (own_better aM (FP.i2d p2) (FP.i2d p2) aN)), .val (.int (0 : Int32))] [])) (fun t k => XS.icmpNo X13.here hx rfl (hb hby at_109) rfl (teq (own_max0 nMN (own_irr : ¬ (p2 < p2)))).2 k) ?_
      refine own_step (T' := T13) (f' := (mkF m 113 #[.val (.int p1), .val (.int p2), .val (.int p3), .val (.int (0 : Int32)), .val (.int (1 : Int32)), .val (.int p2), .val (.ref aM), .val (.double (FP.i2d p2)), .second, .val (.double (FP.i2d p2)), .second, .val (.int (own_better aM (FP.i2d p2) (FP.i2d p2) aN)), .val (.int (0 : Int32))] [(.int (1 : Int32))])) (fun t k => XS.iconst X13.here hx rfl (hb hby at_112) k) ?_
      refine own_step (T' := T13) (f' := (mkF m 117 #[.val (.int p1), .val (.int p2), .val (.int p3), .val (.int (0 : Int32)), .val (.int (1 : Int32)), .val (.int p2), .val (.ref aM), .val (.double (FP.i2d p2)), .second, .val (.double (FP.i2d p2)), .second, .val (.int (own_better aM (FP.i2d p2) (FP.i2d p2) aN)), .val (.int (0 : Int32))] [(.int (1 : Int32))])) (fun t k => XS.goto X13.here hx rfl (pc0 := 113) (pc' := 117) rfl (hb hby at_113) (by decide) (by decide) k) ?_
      exact own_retN X13 hx hlk (t := .boolean) Bd.returns (by simp) (hb hby at_117) (by decide) (by decide) ⟨rfl, N13⟩

set_option maxRecDepth 65536 in
set_option maxHeartbeats 40000000 in
theorem comes_1 {Post : Tables → Env → Array Value → State → Outcome → State → Prop} (hpost : ∀ tb e args s v u, (limb_1_1.after args s (.returned v) u = true ∧ limb_1_2.after args s (.returned v) u = true ∧ True) → FrameEnd s (.returned v) u (Jvm.fieldLocs frame_1_writes args s ++ Jvm.arrayLocs frame_1_arrays args s ++ Jvm.staticLocs frame_1_statics s) 0 0 → Post tb e args s (.returned v) u) :
    ArmFor flags0 classFile x code maxLocals ret World_1 tables_1 room_1 Calls_1 rest_1 Pre_1 Post := by
  intro l hfl _ _ p e ha hc hk s m args below hf hA hF happ hP
  obtain ⟨hcalls, hrest, hpre⟩ := hP
  obtain ⟨-, -, -, hnamed, -, -, -, hat⟩ := (Spec.applies_iff hf).mp happ
  obtain ⟨hg, hn⟩ := and_e (Cond.before_iff.mp (show (Jvm.Cond.and given_1 narrow_1).before args s = true from hpre))
  obtain ⟨hcnt, hg0⟩ := and_e hg
  obtain ⟨ga0, hg1⟩ := and_e hg0
  obtain ⟨ga1, hg2⟩ := and_e hg1
  have ga2 := hg2
  obtain ⟨w0, w1, w2, rfl⟩ : ∃ w0 w1 w2 : Value, args = #[w0, w1, w2] := by
    have hs : args.size = 3 := by simpa [Cond.value, given_1] using hcnt
    obtain ⟨L⟩ := args
    match L, hs with
    | [w0, w1, w2], _ => exact ⟨w0, w1, w2, rfl⟩
  have hw := fun d (hd : d ∈ tables_1) => atoms_spec (ws := Jvm.Cond.code x code maxLocals ret :: tables_1) hat d (List.mem_cons_of_mem _ hd)
  obtain ⟨i0, ei0⟩ := is_v ga0
  obtain rfl : w0 = (.int i0) := Option.some.inj ei0
  obtain ⟨i1, ei1⟩ := is_v ga1
  obtain rfl : w1 = (.int i1) := Option.some.inj ei1
  obtain ⟨i2, ei2⟩ := is_v ga2
  obtain rfl : w2 = (.int i2) := Option.some.inj ei2
  obtain ⟨nr0, hn0⟩ := and_e hn
  obtain ⟨nr1, hn1⟩ := and_e hn0
  obtain ⟨nr2, hn2⟩ := and_e hn1
  have nr3 := hn2
  obtain ⟨aN, evN⟩ := exa_v nr0
  have S_N : Sta s s.heap "com/example/inchworm/inchworm/model/Optimum" "MIN" "Lcom/example/inchworm/inchworm/model/Optimum;" (.ref aN) := Sta.start evN (Or.inr ⟨(hw _ (List.mem_of_getElem? (i := 1) rfl)), (hw _ (List.mem_of_getElem? (i := 2) rfl))⟩)
  have X_N : Exa s s.heap aN "com/example/inchworm/inchworm/model/Optimum" := Exa.start evN nr0
  obtain ⟨aM, evM⟩ := exa_v nr1
  have S_M : Sta s s.heap "com/example/inchworm/inchworm/model/Optimum" "MAX" "Lcom/example/inchworm/inchworm/model/Optimum;" (.ref aM) := Sta.start evM (Or.inr ⟨(hw _ (List.mem_of_getElem? (i := 1) rfl)), (hw _ (List.mem_of_getElem? (i := 10) rfl))⟩)
  have X_M : Exa s s.heap aM "com/example/inchworm/inchworm/model/Optimum" := Exa.start evM nr1
  have oM := own_ord evM nr2
  have oN := own_ord evN nr3
  obtain ⟨n, o, h1, h2, h3, _, L, rfl, ⟨rfl, N⟩, hq⟩ := rm0 l s _ hw tables_1 i0 i1 i2 s.heap s.heap.size (Nat.le_refl _) aN aM S_N S_M X_N X_M (own_apart oM oN (by decide)) p e ha hc hk s m _ below hf ((Spec.applies_iff_loose hf).mp happ).1 ⟨rfl, State.Warmed39.refl s, rfl⟩ trivial
  refine ⟨n, _, h1, h2, h3, hpost _ _ _ _ _ _ ⟨Cond.after_iff.mpr rfl, Cond.after_iff.mpr (eq_i res_at (Term.int_eval (1)) rfl), trivial⟩ ⟨hq.1, hq.2.1, (hq.2.2.sift fun y hy => Or.inr (N y hy)).mono (by decide) (by decide)⟩⟩
theorem main_1_1 : Claimed_1_1 := comes_1 fun _ _ _ _ _ _ h hF => ⟨h.1, hF⟩
theorem main_1_2 : Claimed_1_2 := comes_1 fun _ _ _ _ _ _ h hF => ⟨h.2.1, hF⟩
end Jvm.Pilot.@@N@@
namespace Jvm.Pilot.@@N@@
open Jvm Jvm.ClassFile Sem Op Lib Jvm.Free Jvm.Stand Jvm.Pilot.@@N@@.Jvm.D
/-! MADE BY PROGRAM (witnessworld.py) out of the Statement's table words and the real class files: 12 classes; the members and pool entries that the words name. The judged class is class 1, her method 1. -/
namespace start1
open Jvm.ClassFile
def u (s : String) : CpInfo := .utf8 (stringToUtf16 s)
/-- a pool by its gaps: so many unusable entries, then the entry; so many at the end -/
def gap : Nat → List CpInfo → List CpInfo
  | 0, r => r
  | n + 1, r => .unusable :: gap n r
def poolList (es : List (Nat × CpInfo)) (last : Nat) : List CpInfo := es.foldr (fun e r => gap e.1 (e.2 :: r)) (gap last [])
def pool (es : List (Nat × CpInfo)) (last : Nat) : Array CpInfo := ⟨poolList es last⟩
def fileOf (pool : Array CpInfo) (this : Nat) (attrs : Array Attribute := #[]) (ms : Array MethodInfo := #[]) (fl : Nat := 33) (sup : Nat := 0) (ifs : Array Nat := #[]) (fds : Array FieldInfo := #[]) : ClassFile where
  minorVersion := 0
  majorVersion := 65
  constantPool := pool
  accessFlags := fl
  thisClass := this
  superClass := sup
  interfaces := ifs
  fields := fds
  methods := ms
  attributes := attrs
def plain (name : String) (sup : Option ClassId) : Class where
  name := name
  kind := .ordinary
  loader := none
  accessFlags := 33
  super := sup
  interfaces := #[]
  cf := none
  fields := #[]
  methods := #[]
  instanceTypes := #[]
  staticTypes := #[]
  resolved := #[]
  callSites := []
  init := .initialized
  statics := none
  mirror := none

def pool0 : Array CpInfo := pool [(5, u "<init>"), (0, u "()V"), (1, .class_ 10), (1, u "java/lang/Object")] 113

def k0m0 : Method := { name := "<init>", desc := "()V", sig := { parameters := [], returnType := none }, accessFlags := 1, code := none }
/-- java/lang/Object -/
def k0 : Class := { plain "java/lang/Object" none with
  accessFlags := 33
  interfaces := #[]
  cf := some (fileOf pool0 8 #[] #[{ accessFlags := 1, nameIndex := 5, descriptorIndex := 6, attributes := #[] }] 33 0 #[] #[])
  fields := #[]
  methods := #[k0m0]
  instanceTypes := #[]
  staticTypes := #[]
  resolved := Array.replicate 124 none
  statics := none }

def pool1 : Array CpInfo := pool [(2, .class_ 4), (1, u "java/lang/Object"), (0, u "<init>"), (0, u "()V"), (0, .fieldref 8 9), (0, .class_ 10), (0, .nameAndType 11 12), (0, u "com/example/inchworm/inchworm/model/Optimum"), (0, u "MIN"), (0, u "Lcom/example/inchworm/inchworm/model/Optimum;"), (0, .fieldref 8 14), (0, .nameAndType 15 12), (0, u "MAX"), (0, .methodref 8 17), (0, .nameAndType 18 19), (0, u "isBetter"), (0, u "(DD)Z"), (0, .class_ 21), (0, u "com/example/inchworm/inchworm/model/OptimumIsBetterPinLaw"), (2, u "law"), (0, u "(III)Z")] 3

def k1m0 : Method := { name := "<init>", desc := "()V", sig := { parameters := [], returnType := none }, accessFlags := 1, code := none }
def k1c1 : Code := { maxStack := 5, maxLocals := 13, code := code, exceptionTable := #[], attributes := #[] }
def k1m1 : Method := { name := "law", desc := "(III)Z", sig := { parameters := [.int, .int, .int], returnType := some .boolean }, accessFlags := 9, code := some k1c1 }
/-- com/example/inchworm/inchworm/model/OptimumIsBetterPinLaw -/
def k1 : Class := { plain "com/example/inchworm/inchworm/model/OptimumIsBetterPinLaw" (some 0) with
  accessFlags := 49
  interfaces := #[]
  cf := some (fileOf pool1 20 #[] #[{ accessFlags := 1, nameIndex := 5, descriptorIndex := 6, attributes := #[] }, { accessFlags := 9, nameIndex := 24, descriptorIndex := 25, attributes := #[] }] 49 2 #[] #[])
  fields := #[]
  methods := #[k1m0, k1m1]
  instanceTypes := #[]
  staticTypes := #[]
  resolved := Array.replicate 29 none
  statics := none }

def pool2 : Array CpInfo := pool [(1, .class_ 2), (0, u "java/lang/constant/Constable"), (0, .class_ 4), (0, u "java/lang/Object")] 6

/-- java/lang/constant/Constable -/
def k2 : Class := { plain "java/lang/constant/Constable" (some 0) with
  accessFlags := 1537
  interfaces := #[]
  cf := some (fileOf pool2 1 #[] #[] 1537 3 #[] #[])
  fields := #[]
  methods := #[]
  instanceTypes := #[]
  staticTypes := #[]
  resolved := Array.replicate 11 none
  statics := none }

def pool3 : Array CpInfo := pool [(1, .class_ 2), (0, u "java/lang/Comparable"), (0, .class_ 4), (0, u "java/lang/Object")] 7

/-- java/lang/Comparable -/
def k3 : Class := { plain "java/lang/Comparable" (some 0) with
  accessFlags := 1537
  interfaces := #[]
  cf := some (fileOf pool3 1 #[] #[] 1537 3 #[] #[])
  fields := #[]
  methods := #[]
  instanceTypes := #[]
  staticTypes := #[]
  resolved := Array.replicate 12 none
  statics := none }

def pool4 : Array CpInfo := pool [(1, .class_ 2), (0, u "java/io/Serializable"), (0, .class_ 4), (0, u "java/lang/Object")] 2

/-- java/io/Serializable -/
def k4 : Class := { plain "java/io/Serializable" (some 0) with
  accessFlags := 1537
  interfaces := #[]
  cf := some (fileOf pool4 1 #[] #[] 1537 3 #[] #[])
  fields := #[]
  methods := #[]
  instanceTypes := #[]
  staticTypes := #[]
  resolved := Array.replicate 7 none
  statics := none }

def pool5 : Array CpInfo := pool [(2, .class_ 4), (1, u "java/lang/Enum"), (0, u "name"), (0, u "Ljava/lang/String;"), (2, u "ordinal"), (0, u "I"), (1, .class_ 14), (1, u "java/lang/Object"), (4, u "hash"), (86, .class_ 108), (1, u "java/lang/Enum$EnumDesc"), (2, .class_ 112), (0, u "java/lang/constant/Constable"), (0, .class_ 114), (0, u "java/lang/Comparable"), (0, .class_ 116), (0, u "java/io/Serializable")] 87

/-- java/lang/Enum -/
def k5 : Class := { plain "java/lang/Enum" (some 0) with
  accessFlags := 1057
  interfaces := #[2, 3, 4]
  cf := some (fileOf pool5 2 #[.nestMembers #[106]] #[] 1057 12 #[111, 113, 115] #[{ accessFlags := 18, nameIndex := 5, descriptorIndex := 6, attributes := #[] }, { accessFlags := 18, nameIndex := 9, descriptorIndex := 10, attributes := #[] }, { accessFlags := 2, nameIndex := 19, descriptorIndex := 10, attributes := #[] }])
  fields := #[{ name := "name", type := (.object "java/lang/String"), accessFlags := 18, slot := 0, constantValue := 0 }, { name := "ordinal", type := .int, accessFlags := 18, slot := 1, constantValue := 0 }, { name := "hash", type := .int, accessFlags := 2, slot := 2, constantValue := 0 }]
  methods := #[]
  instanceTypes := #[(.object "java/lang/String"), .int, .int]
  staticTypes := #[]
  resolved := Array.replicate 204 none
  statics := none }

def pool6 : Array CpInfo := pool [(1, .class_ 2), (0, u "com/example/inchworm/inchworm/model/Optimum"), (0, .fieldref 1 4), (0, .nameAndType 5 6), (0, u "MIN"), (0, u "Lcom/example/inchworm/inchworm/model/Optimum;"), (2, u "MAX"), (2, u "$VALUES"), (0, u "[Lcom/example/inchworm/inchworm/model/Optimum;"), (6, .class_ 22), (1, u "java/lang/Enum"), (20, u "isBetter"), (0, u "(DD)Z")] 5

def k6c0 : Code := { maxStack := 4, maxLocals := 5, code := prog_121_method_4_code, exceptionTable := #[], attributes := #[] }
def k6m0 : Method := { name := "isBetter", desc := "(DD)Z", sig := { parameters := [.double, .double], returnType := some .boolean }, accessFlags := 1, code := some k6c0 }
/-- com/example/inchworm/inchworm/model/Optimum -/
def k6 : Class := { plain "com/example/inchworm/inchworm/model/Optimum" (some 5) with
  accessFlags := 16433
  interfaces := #[]
  cf := some (fileOf pool6 1 #[] #[{ accessFlags := 1, nameIndex := 43, descriptorIndex := 44, attributes := #[] }] 16433 20 #[] #[{ accessFlags := 16409, nameIndex := 5, descriptorIndex := 6, attributes := #[] }, { accessFlags := 16409, nameIndex := 9, descriptorIndex := 6, attributes := #[] }, { accessFlags := 4122, nameIndex := 12, descriptorIndex := 13, attributes := #[] }])
  fields := #[{ name := "MIN", type := (.object "com/example/inchworm/inchworm/model/Optimum"), accessFlags := 16409, slot := 0, constantValue := 0 }, { name := "MAX", type := (.object "com/example/inchworm/inchworm/model/Optimum"), accessFlags := 16409, slot := 1, constantValue := 0 }, { name := "$VALUES", type := (.array (.object "com/example/inchworm/inchworm/model/Optimum")), accessFlags := 4122, slot := 2, constantValue := 0 }]
  methods := #[k6m0]
  instanceTypes := #[(.object "java/lang/String"), .int, .int]
  staticTypes := #[(.object "com/example/inchworm/inchworm/model/Optimum"), (.object "com/example/inchworm/inchworm/model/Optimum"), (.array (.object "com/example/inchworm/inchworm/model/Optimum"))]
  resolved := Array.replicate 50 none
  statics := some 0 }

def pool7 : Array CpInfo := pool [(1, u "java/lang/Cloneable"), (0, .class_ 1), (0, u "java/lang/Object"), (0, .class_ 3)] 3

/-- java/lang/Cloneable -/
def k7 : Class := { plain "java/lang/Cloneable" (some 0) with
  accessFlags := 1537
  interfaces := #[]
  cf := some (fileOf pool7 2 #[] #[] 1537 4 #[] #[])
  fields := #[]
  methods := #[]
  instanceTypes := #[]
  staticTypes := #[]
  resolved := Array.replicate 8 none
  statics := none }

/-- the primitive byte -/
def k8 : Class := { plain "byte" none with kind := .primitive 'B', accessFlags := 0x411 }
/-- [B -/
def k9 : Class := { plain "[B" (some 0) with kind := .array 8 .byte, interfaces := #[7, 4], accessFlags := 1041 }

/-- the primitive int -/
def k10 : Class := { plain "int" none with kind := .primitive 'I', accessFlags := 0x411 }
/-- [I -/
def k11 : Class := { plain "[I" (some 0) with kind := .array 10 .int, interfaces := #[7, 4], accessFlags := 1041 }

def heap : Heap := #[{ cls := 6, slots := #[.ref 1, .ref 2, .null], vm := .statics 6 },
  { cls := 6, slots := #[.null, .int 0, .int 0], vm := .none },
  { cls := 6, slots := #[.null, .int 1, .int 0], vm := .none }]
def classes : Array Class := #[k0, k1, k2, k3, k4, k5, k6, k7, k8, k9, k10, k11]
def interned : List (Array UInt16 × Addr) := []
def slotsUsed : Nat := 9
def theMethod : MethodId := ⟨1, 1⟩
def args0 : Array Value := #[.int 5, .int 7, .int 9]
def aboutOver (below : List Frame) : State where
  vm := { classes := classes, interned := interned.toArray }
  heap := heap
  slotsUsed := slotsUsed
  threads := #[{ frames := .invoking theMethod args0 :: below }]
def below0 : List Frame := [.native { method := ⟨0, 0⟩, args := #[] }]
def about1 : State := aboutOver below0
def p0 : Program := .bare "" "" ""
def e0 : Env := launch0.env 0 0 0
theorem w_frames : about1.frames = Frame.invoking theMethod args0 :: below0 := rfl
set_option maxRecDepth 65536 in
theorem w_args : argsFit about1.vm theMethod args0 = true := by decide +kernel
set_option maxRecDepth 65536 in
theorem w_heap : heapFits about1 = true := by decide +kernel
set_option maxRecDepth 65536 in
theorem w_runnable : about1.curStatus? = some .runnable := by decide +kernel
set_option maxRecDepth 65536 in
theorem w_alone : about1.alone = true := by decide +kernel
set_option maxRecDepth 65536 in
theorem w_named : about1.methodNamed? x = some theMethod := by decide +kernel
set_option maxRecDepth 65536 in
theorem w_hears : about1.hears theMethod below0 = true := by decide +kernel
set_option maxRecDepth 65536 in
theorem w_ripe : about1.ripe theMethod args0 below0 = true := by decide +kernel
theorem w_running : about1.status = .running := rfl
set_option maxRecDepth 65536 in
theorem w_room : about1.hasRoom e0.platform room_1 = true :=
  launch0.hasRoom_least _ room_1 (by decide +kernel) (by decide +kernel) (by decide +kernel) (by decide +kernel) (by decide +kernel) (by decide +kernel)
theorem allAtoms_all (ts : List Jvm.Cond) (a : Array Jvm.Value) (st : Jvm.State) : (allAtoms ts).before a st = ts.all (fun c => c.before a st) := by
  induction ts with
  | nil => rfl
  | cons c t ih =>
    show (Jvm.Cond.and c (allAtoms t)).before a st = _
    rw [Jvm.Cond.before_and, ih, List.all_cons]
def words1 : List Jvm.Cond := Jvm.Cond.code x code maxLocals ret :: tables_1
/-- a 'code' word, met by the world's own term for the bytes: nothing is compared byte by byte -/
theorem code_word {y : MethodName} {bytes : ByteArray} {mx : Nat} {rt : Option FieldType} {a : Array Value} {s : State} {m : MethodId} {meth : Method} {c : Code} (h1 : s.methodNamed? y = some m) (h2 : s.vm.method? m = some meth) (h3 : meth.code = some c) (h4 : c.code = bytes)
    (h5 : (c.maxLocals == mx && c.exceptionTable.isEmpty && decide (c.maxStack ≤ mostOperands) && decide (meth.sig.returnType = rt) && !meth.locks && decide (parseMethodDescriptor y.desc = some meth.sig)) = true) : (Jvm.Cond.code y bytes mx rt).before a s = true := by
  simp only [Bool.and_eq_true, beq_iff_eq, Bool.not_eq_true', decide_eq_true_eq] at h5
  obtain ⟨⟨⟨⟨⟨g1, g2⟩, g3⟩, g4⟩, g5⟩, g6⟩ := h5
  simp [Cond.before, Cond.holds, Cond.value, h1, h2, h3, h4, g1, g2, g3, g4, g5, g6]
def isCode : Jvm.Cond → Bool
  | .code _ _ _ _ => true
  | _ => false
theorem all_split {L : List Jvm.Cond} {P : Jvm.Cond → Bool} (h1 : L.all (fun c => isCode c || P c) = true) (h2 : ∀ c ∈ L.filter isCode, P c = true) : L.all P = true := by
  refine List.all_eq_true.mpr fun c hc => ?_
  have h := List.all_eq_true.mp h1 c hc
  rcases Bool.eq_false_or_eq_true (isCode c) with hi | hi
  · exact h2 c (List.mem_filter.mpr ⟨hc, hi⟩)
  · simpa [hi] using h
set_option maxRecDepth 65536 in
theorem w_c0 : (Jvm.Cond.code x code maxLocals ret).before args0 about1 = true := code_word (m := ⟨1, 1⟩) (meth := k1m1) (c := k1c1) (by decide +kernel) rfl rfl rfl (by decide +kernel)
set_option maxRecDepth 65536 in
theorem w_c1 : (Jvm.Cond.code ({ cls := "com/example/inchworm/inchworm/model/Optimum", name := "isBetter", desc := "(DD)Z" } : Jvm.MethodName) prog_121_method_4_code (5 : Nat) (Option.some Jvm.ClassFile.FieldType.boolean)).before args0 about1 = true := code_word (m := ⟨6, 0⟩) (meth := k6m0) (c := k6c0) (by decide +kernel) rfl rfl rfl (by decide +kernel)
def codes1 : List Jvm.Cond := [Jvm.Cond.code x code maxLocals ret, Jvm.Cond.code ({ cls := "com/example/inchworm/inchworm/model/Optimum", name := "isBetter", desc := "(DD)Z" } : Jvm.MethodName) prog_121_method_4_code (5 : Nat) (Option.some Jvm.ClassFile.FieldType.boolean)]
set_option maxRecDepth 65536 in
theorem codes_eq : words1.filter isCode = codes1 := rfl
theorem w_codes : ∀ c ∈ words1.filter isCode, c.before args0 about1 = true := by
  rw [codes_eq]
  intro c hc
  simp only [codes1, List.mem_cons, List.not_mem_nil, or_false] at hc
  rcases hc with rfl | rfl
  · exact w_c0
  · exact w_c1
set_option maxRecDepth 65536 in
theorem w_t1 : words1.all (fun c => isCode c || c.before args0 about1) = true := by decide +kernel
theorem w_tables : (allAtoms (Jvm.Cond.code x code maxLocals ret :: tables_1)).before args0 about1 = true := by
  rw [allAtoms_all]
  show words1.all (fun c => c.before args0 about1) = true
  refine all_split ?_ w_codes
  rw [w_t1]
set_option maxRecDepth 65536 in
theorem w_case : (Jvm.Cond.and given_1 narrow_1).before args0 about1 = true := by decide +kernel
theorem w_applies : (headSpec (Jvm.Cond.code x code maxLocals ret :: tables_1) room_1).applies x e0.platform about1 = true :=
  (Spec.applies_iff w_frames).mpr ⟨w_running, w_runnable, w_alone, w_named, w_hears, w_ripe, w_room, w_tables⟩
theorem atStart : AtStart classFile x code maxLocals ret World_1 tables_1 room_1 Calls_1 rest_1 Pre_1 launch0 p0 e0 about1 theMethod args0 below0 :=
  ⟨lists_1, trivial, launch0.admits_env _ _ _, launch0.least_env, fairChoices_fair.cas, fairChoices_fair.clock, w_frames, w_args, w_heap, w_applies, trivial, trivial, w_case⟩
end start1
theorem witness_1 : WitnessClaimed_1 := ⟨start1.p0, start1.e0, start1.about1, start1.theMethod, start1.args0, start1.below0, start1.atStart⟩
end Jvm.Pilot.@@N@@
