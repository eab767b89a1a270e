import JvmDerived
import JvmDerived.Pilot.@@N@@Statement
import JvmDerived.Pilot.@@N@@Code
set_option linter.unusedVariables false
set_option linter.unusedSimpArgs false
namespace Jvm.Pilot.@@N@@
open Jvm Jvm.ClassFile Sem Op Lib Jvm.Free Jvm.Stand Jvm.LawKit Jvm.RoadKit Bundle Jvm.Pilot.@@N@@.Jvm.D

section Own
variable {p : Program} {l : Launch} {e : Env} {R : Room} {s : State} {m : MethodId} {args : Array Value} {below : List Frame} {meth : Method} {c : Code} {T T' : State} {locs : List Loc} {cells slots : Nat}
/-- from the frame f over T the run comes to the method's return, with Q -/
def OwnEnds (p : Program) (e : Env) (below : List Frame) (s : State) (Q : Option Value → Heap → List Loc → Prop) (k n : Nat) (T : State) (f : JFrame) : Prop :=
  ∃ s₂ o, Steps p.tables e below (T.setTop f) s₂ ∧ s₂.status = .running ∧ Ended s₂ below o ∧ ∃ v L, o = .returned v ∧ Q v s₂.heap L ∧ FrameEnd s o s₂ L k n
theorem own_step {Q : Option Value → Heap → List Loc → Prop} {k n : Nat} {f f' : JFrame} (h : ∀ t, Steps p.tables e below (T'.setTop f') t → Steps p.tables e below (T.setTop f) t) (g : OwnEnds p e below s Q k n T' f') : OwnEnds p e below s Q k n T f := by
  obtain ⟨s2, o, h1, h2⟩ := g
  exact ⟨s2, o, h _ h1, h2⟩
theorem own_retN (X : Stand p l e R s m args below meth c T locs cells slots) (hx : p.tables.exec = Jvm.exec) (hlk : meth.locks = false) {pc : Nat} {Ls : Array Slot} {z : Int32} {t : FieldType} {rest : List Value} (hret : meth.sig.returnType = some t) (ht : t = .boolean ∨ t = .byte ∨ t = .char ∨ t = .short)
    (hd : decode c.code pc = .ok (.ireturn, 1)) {Q : Option Value → Heap → List Loc → Prop} {k n : Nat} (hk : cells ≤ k) (hn : slots ≤ n) (hQ : Q (some (.int (nar t z))) T.heap locs) : OwnEnds p e below s Q k n T (mkF m pc Ls (.int z :: rest)) := by
  obtain ⟨fs, hr, hrun, hended, hW, hsame⟩ := X.leave (v := some (.int (nar t z))) (fun h => by rw [hret] at h; cases h) hlk
  exact ⟨_, _, retN X hx hret ht hd hr, hrun, hended, _, _, rfl, hQ, ⟨_, rfl⟩, hW, hsame.mono hk hn⟩
theorem own_retO (X : Stand p l e R s m args below meth c T locs cells slots) (hx : p.tables.exec = Jvm.exec) (hlk : meth.locks = false) {pc : Nat} {Ls : Array Slot} {w : Value} {t : FieldType} {i : Instr} {rest : List Value} (hret : meth.sig.returnType = some t) (hnw : narrow t w = w)
    (hi : (i = .ireturn ∧ (t = .int ∨ t = .boolean ∨ t = .byte ∨ t = .char ∨ t = .short) ∧ ∃ z, w = .int z) ∨ (i = .lreturn ∧ t = .long ∧ ∃ z, w = .long z) ∨ (i = .dreturn ∧ t = .double ∧ ∃ z, w = .double z) ∨ (i = .freturn ∧ t = .float ∧ ∃ z, w = .float z) ∨ (i = .areturn ∧ t.isReference = true ∧ w.isRef = true))
    (hd : decode c.code pc = .ok (i, 1)) {Q : Option Value → Heap → List Loc → Prop} {k n : Nat} (hk : cells ≤ k) (hn : slots ≤ n) (hQ : Q (some w) T.heap locs) : OwnEnds p e below s Q k n T (mkF m pc Ls (w :: rest)) := by
  obtain ⟨fs, hr, hrun, hended, hW, hsame⟩ := X.leave (v := some w) (fun h => by rw [hret] at h; cases h) hlk
  exact ⟨_, _, retOut X hx hret hnw hi hd hr, hrun, hended, _, _, rfl, hQ, ⟨_, rfl⟩, hW, hsame.mono hk hn⟩
theorem own_retV (X : Stand p l e R s m args below meth c T locs cells slots) (hx : p.tables.exec = Jvm.exec) (hlk : meth.locks = false) {pc : Nat} {Ls : Array Slot} (hret : meth.sig.returnType = none)
    (hd : decode c.code pc = .ok (.return_, 1)) {Q : Option Value → Heap → List Loc → Prop} {k n : Nat} (hk : cells ≤ k) (hn : slots ≤ n) (hQ : Q none T.heap locs) : OwnEnds p e below s Q k n T (mkF m pc Ls []) := by
  obtain ⟨fs, hr, hrun, hended, hW, hsame⟩ := X.leave (v := none) (fun _ => rfl) hlk
  exact ⟨_, _, X.returnOut hx hret hd hr, hrun, hended, _, _, rfl, hQ, ⟨_, rfl⟩, hW, hsame.mono hk hn⟩
end Own
theorem own_mvM {Z s : State} {a0 args : Array Value} {own host : String} {index : Nat} {y : MethodName} (hZ : Z.Warmed39 s.vm) (w : (Jvm.Cond.methodLinkNest own index y host).before a0 Z = true) : (Jvm.Cond.methodLinkNest own index y host).before args s = true := (Cond.methodLinkNest_wide hZ w :)
theorem own_irr {x : Int32} : ¬ x < x := by rw [Int32.lt_iff_toInt_lt]; omega
theorem own_lceq {x y : Int64} (h : x = y) : ifCond.holds .eq (lcmpW x y) = true ∧ ifCond.holds .ne (lcmpW x y) = false := by
  have q : lcmpW x y = 0 := by rw [lcW]; exact (lc_eq x y).mpr h
  exact ⟨(if0 _ _).trans (teq q).1, (if0 _ _).trans (teq q).2⟩
theorem own_lcne {x y : Int64} (h : ¬ x = y) : ifCond.holds .eq (lcmpW x y) = false ∧ ifCond.holds .ne (lcmpW x y) = true := by
  have q : ¬ lcmpW x y = 0 := by rw [lcW]; exact fun z => h ((lc_eq x y).mp z)
  exact ⟨(if0 _ _).trans (feq q).1, (if0 _ _).trans (feq q).2⟩
theorem own_lclt {x y : Int64} (h : x < y) : ifCond.holds .lt (lcmpW x y) = true ∧ ifCond.holds .ge (lcmpW x y) = false ∧ ifCond.holds .gt (lcmpW y x) = true ∧ ifCond.holds .le (lcmpW y x) = false := by
  have q : lcmpW x y < 0 := by rw [lcW]; exact (lc_lt x y).mpr h
  have q' : 0 < lcmpW y x := by rw [lcW]; exact (lc_gt y x).mpr h
  exact ⟨(if0 _ _).trans (tlt q).1, (if0 _ _).trans (tlt q).2.1, (if0 _ _).trans (tlt q').2.2.1, (if0 _ _).trans (tlt q').2.2.2⟩
theorem own_lcnl {x y : Int64} (h : ¬ x < y) : ifCond.holds .lt (lcmpW x y) = false ∧ ifCond.holds .ge (lcmpW x y) = true ∧ ifCond.holds .gt (lcmpW y x) = false ∧ ifCond.holds .le (lcmpW y x) = true := by
  have q : ¬ lcmpW x y < 0 := by rw [lcW]; exact fun z => h ((lc_lt x y).mp z)
  have q' : ¬ 0 < lcmpW y x := by rw [lcW]; exact fun z => h ((lc_gt y x).mp z)
  exact ⟨(if0 _ _).trans (flt q).1, (if0 _ _).trans (flt q).2.1, (if0 _ _).trans (flt q').2.2.1, (if0 _ _).trans (flt q').2.2.2⟩
theorem own_ord {args : Array Value} {s : State} {t : Term} {a : Addr} {C n d : String} {k : Int32} (ev : t.eval args s none [] s = some (.ref a)) (h : (Jvm.Cond.eq (.field t C n d) (.int k)).value args s none s [] = some true) : s.fieldOf? a C n d = some (.int k) := by
  have h1 := fld_at (C := C) (n := n) (dd := d) ev
  obtain ⟨x, y, e1, e2, -, k2⟩ := cmp_v (Or.inl h)
  obtain rfl : y = .int k := (Option.some.inj e2).symm
  obtain ⟨z, rfl⟩ := k2
  have q : z = k := by simpa [Jvm.Cond.value, e1, e2] using h
  rw [← h1, e1, q]
theorem own_apart {s : State} {a b : Addr} {C n d : String} {k j : Int32} (h1 : s.fieldOf? a C n d = some (.int k)) (h2 : s.fieldOf? b C n d = some (.int j)) (hk : k ≠ j) : ¬ a = b := fun e => by
  subst e; rw [h1] at h2; exact hk (Value.int.inj (Option.some.inj h2))

theorem d1_0 : decode prog_11_method_14_code 0 = .ok (.iload_n 0, 1) := by decide +kernel
theorem d1_1 : decode prog_11_method_14_code 1 = .ok (.bipush 97, 2) := by decide +kernel
theorem d1_3 : decode prog_11_method_14_code 3 = .ok (.if_icmp .lt 9, 3) := by decide +kernel
theorem d1_6 : decode prog_11_method_14_code 6 = .ok (.iload_n 0, 1) := by decide +kernel
theorem d1_7 : decode prog_11_method_14_code 7 = .ok (.bipush 122, 2) := by decide +kernel
theorem d1_9 : decode prog_11_method_14_code 9 = .ok (.if_icmp .le 41, 3) := by decide +kernel
theorem d1_12 : decode prog_11_method_14_code 12 = .ok (.iload_n 0, 1) := by decide +kernel
theorem d1_13 : decode prog_11_method_14_code 13 = .ok (.bipush 65, 2) := by decide +kernel
theorem d1_15 : decode prog_11_method_14_code 15 = .ok (.if_icmp .lt 9, 3) := by decide +kernel
theorem d1_18 : decode prog_11_method_14_code 18 = .ok (.iload_n 0, 1) := by decide +kernel
theorem d1_19 : decode prog_11_method_14_code 19 = .ok (.bipush 90, 2) := by decide +kernel
theorem d1_21 : decode prog_11_method_14_code 21 = .ok (.if_icmp .le 29, 3) := by decide +kernel
theorem d1_24 : decode prog_11_method_14_code 24 = .ok (.iload_n 0, 1) := by decide +kernel
theorem d1_25 : decode prog_11_method_14_code 25 = .ok (.bipush 95, 2) := by decide +kernel
theorem d1_27 : decode prog_11_method_14_code 27 = .ok (.if_icmp .eq 23, 3) := by decide +kernel
theorem d1_30 : decode prog_11_method_14_code 30 = .ok (.iload_n 0, 1) := by decide +kernel
theorem d1_31 : decode prog_11_method_14_code 31 = .ok (.bipush 36, 2) := by decide +kernel
theorem d1_33 : decode prog_11_method_14_code 33 = .ok (.if_icmp .eq 17, 3) := by decide +kernel
theorem d1_36 : decode prog_11_method_14_code 36 = .ok (.iload_n 0, 1) := by decide +kernel
theorem d1_37 : decode prog_11_method_14_code 37 = .ok (.sipush 128, 3) := by decide +kernel
theorem d1_40 : decode prog_11_method_14_code 40 = .ok (.if_icmp .lt 14, 3) := by decide +kernel
theorem d1_43 : decode prog_11_method_14_code 43 = .ok (.iload_n 0, 1) := by decide +kernel
theorem d1_44 : decode prog_11_method_14_code 44 = .ok (.sipush 255, 3) := by decide +kernel
theorem d1_47 : decode prog_11_method_14_code 47 = .ok (.if_icmp .gt 7, 3) := by decide +kernel
theorem d1_50 : decode prog_11_method_14_code 50 = .ok (.iconst 1, 1) := by decide +kernel
theorem d1_51 : decode prog_11_method_14_code 51 = .ok (.goto 4, 3) := by decide +kernel
theorem d1_54 : decode prog_11_method_14_code 54 = .ok (.iconst 0, 1) := by decide +kernel
theorem d1_55 : decode prog_11_method_14_code 55 = .ok (.ireturn, 1) := by decide +kernel
theorem pn_1 : plainName "com/example/lit2/lit2/input/CwebSyntax" = true := by first | (simp [plainName, overriddenIn]; done) | decide +kernel
theorem ef_rm1 (m : MethodId) (x0 : Int32) : entryFrame m #[(.int x0)] 1 = mkF m 0 #[.val (.int x0)] [] := by first | (simp [entryFrame, mkF, argsToLocals, Value.category]; done) | rfl
def own_isLetter (p1 : Int32) : Int32 := (if p1 < (97 : Int32) then (if p1 < (65 : Int32) then (if p1 = (95 : Int32) then (1 : Int32) else (if p1 = (36 : Int32) then (1 : Int32) else (if p1 < (128 : Int32) then (0 : Int32) else (if (255 : Int32) < p1 then (0 : Int32) else (1 : Int32))))) else (if (90 : Int32) < p1 then (if p1 = (95 : Int32) then (1 : Int32) else (if p1 = (36 : Int32) then (1 : Int32) else (if p1 < (128 : Int32) then (0 : Int32) else (if (255 : Int32) < p1 then (0 : Int32) else (1 : Int32))))) else (1 : Int32))) else (if (122 : Int32) < p1 then (if p1 < (65 : Int32) then (if p1 = (95 : Int32) then (1 : Int32) else (if p1 = (36 : Int32) then (1 : Int32) else (if p1 < (128 : Int32) then (0 : Int32) else (if (255 : Int32) < p1 then (0 : Int32) else (1 : Int32))))) else (if (90 : Int32) < p1 then (if p1 = (95 : Int32) then (1 : Int32) else (if p1 = (36 : Int32) then (1 : Int32) else (if p1 < (128 : Int32) then (0 : Int32) else (if (255 : Int32) < p1 then (0 : Int32) else (1 : Int32))))) else (1 : Int32))) else (1 : Int32)))
def Q1 (p1 : Int32) (h0 : Heap) (n0 : Nat) (v : Option Value) (h : Heap) (L : List Loc) : Prop := v = some (.int (own_isLetter p1)) ∧ Fr n0 L ∧ h = h0
set_option maxRecDepth 65536 in
set_option maxHeartbeats 40000000 in
theorem rm1 (l : Launch) (Z : State) (a0 : Array Value) (hw : ∀ d ∈ tables_1, d.before a0 Z = true) (ws : List Jvm.Cond) (p1 : Int32) (h0 : Heap) (n0 : Nat) (Z0 : n0 ≤ h0.size)  :
    MetFree l (⟨"com/example/lit2/lit2/input/CwebSyntax", "isLetter", "(I)Z"⟩ : MethodName) (head1 (Jvm.Cond.code (⟨"com/example/lit2/lit2/input/CwebSyntax", "isLetter", "(I)Z"⟩ : MethodName) prog_11_method_14_code 1 (some .boolean) :: ws) ({ frames := 0, cells := 0, slots := 0, locals := 0 } : Room)) (fun a U => a = #[(.int p1)] ∧ Z.Warmed39 U.vm ∧ U.heap = h0) (fun _ _ _ _ _ => True) (fun _ U o U' => ∃ v L, o = .returned v ∧ Q1 p1 h0 n0 v U'.heap L ∧ FrameEnd U o U' L ({ frames := 0, cells := 0, slots := 0, locals := 0 } : Room).cells ({ frames := 0, cells := 0, slots := 0, locals := 0 } : Room).slots) := by
  refine MetFree.of_bodySF (plainFor_of_name pn_1) hisR ?_
  intro p e s m args below meth c s₁ Bd hml0 hP hK
  obtain ⟨rfl, hZ, hh⟩ := hP
  have hx := Bd.exec
  have hby := Bd.bytes
  have hlk : meth.locks = false := BodyLoose.notSynchronized Bd
  have hml : c.maxLocals = 1 := hml0
  have hown : s.vm.findClass "com/example/lit2/lit2/input/CwebSyntax" = some m.cls := findClass_of_methodNamed Bd.named
  have hnm := (name_of_methodNamed Bd.named Bd.method).1
  have X0 : Stand p l e ({ frames := 0, cells := 0, slots := 0, locals := 0 } : Room) s m #[(.int p1)] below meth c s₁ [] 0 0 := Stand.of_body Bd
  have e0 : s₁.heap = h0 := by rw [← hh, Bd.state]; rfl
  have N0 := Fr.nil n0
  show OwnEnds p e below s (Q1 p1 h0 n0) ({ frames := 0, cells := 0, slots := 0, locals := 0 } : Room).cells ({ frames := 0, cells := 0, slots := 0, locals := 0 } : Room).slots s₁ (entryFrame m #[(.int p1)] 1)
  refine own_step (T' := s₁) (f' := (mkF m 0 #[.val (.int p1)] [])) (fun t k => castTop (ef_rm1 m p1) k) ?_
  refine own_step (T' := s₁) (f' := (mkF m 1 #[.val (.int p1)] [(.int p1)])) (fun t k => XS.iloadN X0.here hx rfl (hb hby d1_0) rfl k) ?_
  refine own_step (T' := s₁) (f' := (mkF m 3 #[.val (.int p1)] [(.int (97 : Int32)), (.int p1)])) (fun t k => XS.bipush X0.here hx rfl (hb hby d1_1) k) ?_
  by_cases hc3_1 : p1 < (97 : Int32)
  · skip
    refine own_step (T' := s₁) (f' := (mkF m 12 #[.val (.int p1)] [])) (fun t k => XS.icmpYes X0.here hx rfl (pc0 := 3) (pc' := 12) rfl (hb hby d1_3) rfl (tlt hc3_1).1 (by decide) (by decide) k) ?_
    refine own_step (T' := s₁) (f' := (mkF m 13 #[.val (.int p1)] [(.int p1)])) (fun t k => XS.iloadN X0.here hx rfl (hb hby d1_12) rfl k) ?_
    refine own_step (T' := s₁) (f' := (mkF m 15 #[.val (.int p1)] [(.int (65 : Int32)), (.int p1)])) (fun t k => XS.bipush X0.here hx rfl (hb hby d1_13) k) ?_
    by_cases hc15_2 : p1 < (65 : Int32)
    · skip
      refine own_step (T' := s₁) (f' := (mkF m 24 #[.val (.int p1)] [])) (fun t k => XS.icmpYes X0.here hx rfl (pc0 := 15) (pc' := 24) rfl (hb hby d1_15) rfl (tlt hc15_2).1 (by decide) (by decide) k) ?_
      refine own_step (T' := s₁) (f' := (mkF m 25 #[.val (.int p1)] [(.int p1)])) (fun t k => XS.iloadN X0.here hx rfl (hb hby d1_24) rfl k) ?_
      refine own_step (T' := s₁) (f' := (mkF m 27 #[.val (.int p1)] [(.int (95 : Int32)), (.int p1)])) (fun t k => XS.bipush X0.here hx rfl (hb hby d1_25) k) ?_
      by_cases hc27_3 : p1 = (95 : Int32)
      · skip
        refine own_step (T' := s₁) (f' := (mkF m 50 #[.val (.int p1)] [])) (fun t k => XS.icmpYes X0.here hx rfl (pc0 := 27) (pc' := 50) rfl (hb hby d1_27) rfl (teq hc27_3).1 (by decide) (by decide) k) ?_
        refine own_step (T' := s₁) (f' := (mkF m 51 #[.val (.int p1)] [(.int (1 : Int32))])) (fun t k => XS.iconst X0.here hx rfl (hb hby d1_50) k) ?_
        refine own_step (T' := s₁) (f' := (mkF m 55 #[.val (.int p1)] [(.int (1 : Int32))])) (fun t k => XS.goto X0.here hx rfl (pc0 := 51) (pc' := 55) rfl (hb hby d1_51) (by decide) (by decide) k) ?_
        exact own_retN X0 hx hlk (t := .boolean) Bd.returns (by simp) (hb hby d1_55) (by decide) (by decide) ⟨by unfold own_isLetter; rw [if_pos hc3_1, if_pos hc15_2, if_pos hc27_3]; try rfl, N0, e0⟩
      · skip
        refine own_step (T' := s₁) (f' := (mkF m 30 #[.val (.int p1)] [])) (fun t k => XS.icmpNo X0.here hx rfl (hb hby d1_27) rfl (feq hc27_3).1 k) ?_
        refine own_step (T' := s₁) (f' := (mkF m 31 #[.val (.int p1)] [(.int p1)])) (fun t k => XS.iloadN X0.here hx rfl (hb hby d1_30) rfl k) ?_
        refine own_step (T' := s₁) (f' := (mkF m 33 #[.val (.int p1)] [(.int (36 : Int32)), (.int p1)])) (fun t k => XS.bipush X0.here hx rfl (hb hby d1_31) k) ?_
        by_cases hc33_4 : p1 = (36 : Int32)
        · skip
          refine own_step (T' := s₁) (f' := (mkF m 50 #[.val (.int p1)] [])) (fun t k => XS.icmpYes X0.here hx rfl (pc0 := 33) (pc' := 50) rfl (hb hby d1_33) rfl (teq hc33_4).1 (by decide) (by decide) k) ?_
          refine own_step (T' := s₁) (f' := (mkF m 51 #[.val (.int p1)] [(.int (1 : Int32))])) (fun t k => XS.iconst X0.here hx rfl (hb hby d1_50) k) ?_
          refine own_step (T' := s₁) (f' := (mkF m 55 #[.val (.int p1)] [(.int (1 : Int32))])) (fun t k => XS.goto X0.here hx rfl (pc0 := 51) (pc' := 55) rfl (hb hby d1_51) (by decide) (by decide) k) ?_
          exact own_retN X0 hx hlk (t := .boolean) Bd.returns (by simp) (hb hby d1_55) (by decide) (by decide) ⟨by unfold own_isLetter; rw [if_pos hc3_1, if_pos hc15_2, if_neg hc27_3, if_pos hc33_4]; try rfl, N0, e0⟩
        · skip
          refine own_step (T' := s₁) (f' := (mkF m 36 #[.val (.int p1)] [])) (fun t k => XS.icmpNo X0.here hx rfl (hb hby d1_33) rfl (feq hc33_4).1 k) ?_
          refine own_step (T' := s₁) (f' := (mkF m 37 #[.val (.int p1)] [(.int p1)])) (fun t k => XS.iloadN X0.here hx rfl (hb hby d1_36) rfl k) ?_
          refine own_step (T' := s₁) (f' := (mkF m 40 #[.val (.int p1)] [(.int (128 : Int32)), (.int p1)])) (fun t k => XS.sipush X0.here hx rfl (hb hby d1_37) k) ?_
          by_cases hc40_5 : p1 < (128 : Int32)
          · skip
            refine own_step (T' := s₁) (f' := (mkF m 54 #[.val (.int p1)] [])) (fun t k => XS.icmpYes X0.here hx rfl (pc0 := 40) (pc' := 54) rfl (hb hby d1_40) rfl (tlt hc40_5).1 (by decide) (by decide) k) ?_
            refine own_step (T' := s₁) (f' := (mkF m 55 #[.val (.int p1)] [(.int (0 : Int32))])) (fun t k => XS.iconst X0.here hx rfl (hb hby d1_54) k) ?_
            exact own_retN X0 hx hlk (t := .boolean) Bd.returns (by simp) (hb hby d1_55) (by decide) (by decide) ⟨by unfold own_isLetter; rw [if_pos hc3_1, if_pos hc15_2, if_neg hc27_3, if_neg hc33_4, if_pos hc40_5]; try rfl, N0, e0⟩
          · skip
            refine own_step (T' := s₁) (f' := (mkF m 43 #[.val (.int p1)] [])) (fun t k => XS.icmpNo X0.here hx rfl (hb hby d1_40) rfl (flt hc40_5).1 k) ?_
            refine own_step (T' := s₁) (f' := (mkF m 44 #[.val (.int p1)] [(.int p1)])) (fun t k => XS.iloadN X0.here hx rfl (hb hby d1_43) rfl k) ?_
            refine own_step (T' := s₁) (f' := (mkF m 47 #[.val (.int p1)] [(.int (255 : Int32)), (.int p1)])) (fun t k => XS.sipush X0.here hx rfl (hb hby d1_44) k) ?_
            by_cases hc47_6 : (255 : Int32) < p1
            · skip
              refine own_step (T' := s₁) (f' := (mkF m 54 #[.val (.int p1)] [])) (fun t k => XS.icmpYes X0.here hx rfl (pc0 := 47) (pc' := 54) rfl (hb hby d1_47) rfl (tlt hc47_6).2.2.1 (by decide) (by decide) k) ?_
              refine own_step (T' := s₁) (f' := (mkF m 55 #[.val (.int p1)] [(.int (0 : Int32))])) (fun t k => XS.iconst X0.here hx rfl (hb hby d1_54) k) ?_
              exact own_retN X0 hx hlk (t := .boolean) Bd.returns (by simp) (hb hby d1_55) (by decide) (by decide) ⟨by unfold own_isLetter; rw [if_pos hc3_1, if_pos hc15_2, if_neg hc27_3, if_neg hc33_4, if_neg hc40_5, if_pos hc47_6]; try rfl, N0, e0⟩
            · skip
              refine own_step (T' := s₁) (f' := (mkF m 50 #[.val (.int p1)] [])) (fun t k => XS.icmpNo X0.here hx rfl (hb hby d1_47) rfl (flt hc47_6).2.2.1 k) ?_
              refine own_step (T' := s₁) (f' := (mkF m 51 #[.val (.int p1)] [(.int (1 : Int32))])) (fun t k => XS.iconst X0.here hx rfl (hb hby d1_50) k) ?_
              refine own_step (T' := s₁) (f' := (mkF m 55 #[.val (.int p1)] [(.int (1 : Int32))])) (fun t k => XS.goto X0.here hx rfl (pc0 := 51) (pc' := 55) rfl (hb hby d1_51) (by decide) (by decide) k) ?_
              exact own_retN X0 hx hlk (t := .boolean) Bd.returns (by simp) (hb hby d1_55) (by decide) (by decide) ⟨by unfold own_isLetter; rw [if_pos hc3_1, if_pos hc15_2, if_neg hc27_3, if_neg hc33_4, if_neg hc40_5, if_neg hc47_6]; try rfl, N0, e0⟩
    · skip
      refine own_step (T' := s₁) (f' := (mkF m 18 #[.val (.int p1)] [])) (fun t k => XS.icmpNo X0.here hx rfl (hb hby d1_15) rfl (flt hc15_2).1 k) ?_
      refine own_step (T' := s₁) (f' := (mkF m 19 #[.val (.int p1)] [(.int p1)])) (fun t k => XS.iloadN X0.here hx rfl (hb hby d1_18) rfl k) ?_
      refine own_step (T' := s₁) (f' := (mkF m 21 #[.val (.int p1)] [(.int (90 : Int32)), (.int p1)])) (fun t k => XS.bipush X0.here hx rfl (hb hby d1_19) k) ?_
      by_cases hc21_7 : (90 : Int32) < p1
      · skip
        refine own_step (T' := s₁) (f' := (mkF m 24 #[.val (.int p1)] [])) (fun t k => XS.icmpNo X0.here hx rfl (hb hby d1_21) rfl (tlt hc21_7).2.2.2 k) ?_
        refine own_step (T' := s₁) (f' := (mkF m 25 #[.val (.int p1)] [(.int p1)])) (fun t k => XS.iloadN X0.here hx rfl (hb hby d1_24) rfl k) ?_
        refine own_step (T' := s₁) (f' := (mkF m 27 #[.val (.int p1)] [(.int (95 : Int32)), (.int p1)])) (fun t k => XS.bipush X0.here hx rfl (hb hby d1_25) k) ?_
        by_cases hc27_8 : p1 = (95 : Int32)
        · skip
          refine own_step (T' := s₁) (f' := (mkF m 50 #[.val (.int p1)] [])) (fun t k => XS.icmpYes X0.here hx rfl (pc0 := 27) (pc' := 50) rfl (hb hby d1_27) rfl (teq hc27_8).1 (by decide) (by decide) k) ?_
          refine own_step (T' := s₁) (f' := (mkF m 51 #[.val (.int p1)] [(.int (1 : Int32))])) (fun t k => XS.iconst X0.here hx rfl (hb hby d1_50) k) ?_
          refine own_step (T' := s₁) (f' := (mkF m 55 #[.val (.int p1)] [(.int (1 : Int32))])) (fun t k => XS.goto X0.here hx rfl (pc0 := 51) (pc' := 55) rfl (hb hby d1_51) (by decide) (by decide) k) ?_
          exact own_retN X0 hx hlk (t := .boolean) Bd.returns (by simp) (hb hby d1_55) (by decide) (by decide) ⟨by unfold own_isLetter; rw [if_pos hc3_1, if_neg hc15_2, if_pos hc21_7, if_pos hc27_8]; try rfl, N0, e0⟩
        · skip
          refine own_step (T' := s₁) (f' := (mkF m 30 #[.val (.int p1)] [])) (fun t k => XS.icmpNo X0.here hx rfl (hb hby d1_27) rfl (feq hc27_8).1 k) ?_
          refine own_step (T' := s₁) (f' := (mkF m 31 #[.val (.int p1)] [(.int p1)])) (fun t k => XS.iloadN X0.here hx rfl (hb hby d1_30) rfl k) ?_
          refine own_step (T' := s₁) (f' := (mkF m 33 #[.val (.int p1)] [(.int (36 : Int32)), (.int p1)])) (fun t k => XS.bipush X0.here hx rfl (hb hby d1_31) k) ?_
          by_cases hc33_9 : p1 = (36 : Int32)
          · skip
            refine own_step (T' := s₁) (f' := (mkF m 50 #[.val (.int p1)] [])) (fun t k => XS.icmpYes X0.here hx rfl (pc0 := 33) (pc' := 50) rfl (hb hby d1_33) rfl (teq hc33_9).1 (by decide) (by decide) k) ?_
            refine own_step (T' := s₁) (f' := (mkF m 51 #[.val (.int p1)] [(.int (1 : Int32))])) (fun t k => XS.iconst X0.here hx rfl (hb hby d1_50) k) ?_
            refine own_step (T' := s₁) (f' := (mkF m 55 #[.val (.int p1)] [(.int (1 : Int32))])) (fun t k => XS.goto X0.here hx rfl (pc0 := 51) (pc' := 55) rfl (hb hby d1_51) (by decide) (by decide) k) ?_
            exact own_retN X0 hx hlk (t := .boolean) Bd.returns (by simp) (hb hby d1_55) (by decide) (by decide) ⟨by unfold own_isLetter; rw [if_pos hc3_1, if_neg hc15_2, if_pos hc21_7, if_neg hc27_8, if_pos hc33_9]; try rfl, N0, e0⟩
          · skip
            refine own_step (T' := s₁) (f' := (mkF m 36 #[.val (.int p1)] [])) (fun t k => XS.icmpNo X0.here hx rfl (hb hby d1_33) rfl (feq hc33_9).1 k) ?_
            refine own_step (T' := s₁) (f' := (mkF m 37 #[.val (.int p1)] [(.int p1)])) (fun t k => XS.iloadN X0.here hx rfl (hb hby d1_36) rfl k) ?_
            refine own_step (T' := s₁) (f' := (mkF m 40 #[.val (.int p1)] [(.int (128 : Int32)), (.int p1)])) (fun t k => XS.sipush X0.here hx rfl (hb hby d1_37) k) ?_
            by_cases hc40_10 : p1 < (128 : Int32)
            · skip
              refine own_step (T' := s₁) (f' := (mkF m 54 #[.val (.int p1)] [])) (fun t k => XS.icmpYes X0.here hx rfl (pc0 := 40) (pc' := 54) rfl (hb hby d1_40) rfl (tlt hc40_10).1 (by decide) (by decide) k) ?_
              refine own_step (T' := s₁) (f' := (mkF m 55 #[.val (.int p1)] [(.int (0 : Int32))])) (fun t k => XS.iconst X0.here hx rfl (hb hby d1_54) k) ?_
              exact own_retN X0 hx hlk (t := .boolean) Bd.returns (by simp) (hb hby d1_55) (by decide) (by decide) ⟨by unfold own_isLetter; rw [if_pos hc3_1, if_neg hc15_2, if_pos hc21_7, if_neg hc27_8, if_neg hc33_9, if_pos hc40_10]; try rfl, N0, e0⟩
            · skip
              refine own_step (T' := s₁) (f' := (mkF m 43 #[.val (.int p1)] [])) (fun t k => XS.icmpNo X0.here hx rfl (hb hby d1_40) rfl (flt hc40_10).1 k) ?_
              refine own_step (T' := s₁) (f' := (mkF m 44 #[.val (.int p1)] [(.int p1)])) (fun t k => XS.iloadN X0.here hx rfl (hb hby d1_43) rfl k) ?_
              refine own_step (T' := s₁) (f' := (mkF m 47 #[.val (.int p1)] [(.int (255 : Int32)), (.int p1)])) (fun t k => XS.sipush X0.here hx rfl (hb hby d1_44) k) ?_
              by_cases hc47_11 : (255 : Int32) < p1
              · skip
                refine own_step (T' := s₁) (f' := (mkF m 54 #[.val (.int p1)] [])) (fun t k => XS.icmpYes X0.here hx rfl (pc0 := 47) (pc' := 54) rfl (hb hby d1_47) rfl (tlt hc47_11).2.2.1 (by decide) (by decide) k) ?_
                refine own_step (T' := s₁) (f' := (mkF m 55 #[.val (.int p1)] [(.int (0 : Int32))])) (fun t k => XS.iconst X0.here hx rfl (hb hby d1_54) k) ?_
                exact own_retN X0 hx hlk (t := .boolean) Bd.returns (by simp) (hb hby d1_55) (by decide) (by decide) ⟨by unfold own_isLetter; rw [if_pos hc3_1, if_neg hc15_2, if_pos hc21_7, if_neg hc27_8, if_neg hc33_9, if_neg hc40_10, if_pos hc47_11]; try rfl, N0, e0⟩
              · skip
                refine own_step (T' := s₁) (f' := (mkF m 50 #[.val (.int p1)] [])) (fun t k => XS.icmpNo X0.here hx rfl (hb hby d1_47) rfl (flt hc47_11).2.2.1 k) ?_
                refine own_step (T' := s₁) (f' := (mkF m 51 #[.val (.int p1)] [(.int (1 : Int32))])) (fun t k => XS.iconst X0.here hx rfl (hb hby d1_50) k) ?_
                refine own_step (T' := s₁) (f' := (mkF m 55 #[.val (.int p1)] [(.int (1 : Int32))])) (fun t k => XS.goto X0.here hx rfl (pc0 := 51) (pc' := 55) rfl (hb hby d1_51) (by decide) (by decide) k) ?_
                exact own_retN X0 hx hlk (t := .boolean) Bd.returns (by simp) (hb hby d1_55) (by decide) (by decide) ⟨by unfold own_isLetter; rw [if_pos hc3_1, if_neg hc15_2, if_pos hc21_7, if_neg hc27_8, if_neg hc33_9, if_neg hc40_10, if_neg hc47_11]; try rfl, N0, e0⟩
      · skip
        refine own_step (T' := s₁) (f' := (mkF m 50 #[.val (.int p1)] [])) (fun t k => XS.icmpYes X0.here hx rfl (pc0 := 21) (pc' := 50) rfl (hb hby d1_21) rfl (flt hc21_7).2.2.2 (by decide) (by decide) k) ?_
        refine own_step (T' := s₁) (f' := (mkF m 51 #[.val (.int p1)] [(.int (1 : Int32))])) (fun t k => XS.iconst X0.here hx rfl (hb hby d1_50) k) ?_
        refine own_step (T' := s₁) (f' := (mkF m 55 #[.val (.int p1)] [(.int (1 : Int32))])) (fun t k => XS.goto X0.here hx rfl (pc0 := 51) (pc' := 55) rfl (hb hby d1_51) (by decide) (by decide) k) ?_
        exact own_retN X0 hx hlk (t := .boolean) Bd.returns (by simp) (hb hby d1_55) (by decide) (by decide) ⟨by unfold own_isLetter; rw [if_pos hc3_1, if_neg hc15_2, if_neg hc21_7]; try rfl, N0, e0⟩
  · skip
    refine own_step (T' := s₁) (f' := (mkF m 6 #[.val (.int p1)] [])) (fun t k => XS.icmpNo X0.here hx rfl (hb hby d1_3) rfl (flt hc3_1).1 k) ?_
    refine own_step (T' := s₁) (f' := (mkF m 7 #[.val (.int p1)] [(.int p1)])) (fun t k => XS.iloadN X0.here hx rfl (hb hby d1_6) rfl k) ?_
    refine own_step (T' := s₁) (f' := (mkF m 9 #[.val (.int p1)] [(.int (122 : Int32)), (.int p1)])) (fun t k => XS.bipush X0.here hx rfl (hb hby d1_7) k) ?_
    by_cases hc9_12 : (122 : Int32) < p1
    · skip
      refine own_step (T' := s₁) (f' := (mkF m 12 #[.val (.int p1)] [])) (fun t k => XS.icmpNo X0.here hx rfl (hb hby d1_9) rfl (tlt hc9_12).2.2.2 k) ?_
      refine own_step (T' := s₁) (f' := (mkF m 13 #[.val (.int p1)] [(.int p1)])) (fun t k => XS.iloadN X0.here hx rfl (hb hby d1_12) rfl k) ?_
      refine own_step (T' := s₁) (f' := (mkF m 15 #[.val (.int p1)] [(.int (65 : Int32)), (.int p1)])) (fun t k => XS.bipush X0.here hx rfl (hb hby d1_13) k) ?_
      by_cases hc15_13 : p1 < (65 : Int32)
      · skip
        refine own_step (T' := s₁) (f' := (mkF m 24 #[.val (.int p1)] [])) (fun t k => XS.icmpYes X0.here hx rfl (pc0 := 15) (pc' := 24) rfl (hb hby d1_15) rfl (tlt hc15_13).1 (by decide) (by decide) k) ?_
        refine own_step (T' := s₁) (f' := (mkF m 25 #[.val (.int p1)] [(.int p1)])) (fun t k => XS.iloadN X0.here hx rfl (hb hby d1_24) rfl k) ?_
        refine own_step (T' := s₁) (f' := (mkF m 27 #[.val (.int p1)] [(.int (95 : Int32)), (.int p1)])) (fun t k => XS.bipush X0.here hx rfl (hb hby d1_25) k) ?_
        by_cases hc27_14 : p1 = (95 : Int32)
        · skip
          refine own_step (T' := s₁) (f' := (mkF m 50 #[.val (.int p1)] [])) (fun t k => XS.icmpYes X0.here hx rfl (pc0 := 27) (pc' := 50) rfl (hb hby d1_27) rfl (teq hc27_14).1 (by decide) (by decide) k) ?_
          refine own_step (T' := s₁) (f' := (mkF m 51 #[.val (.int p1)] [(.int (1 : Int32))])) (fun t k => XS.iconst X0.here hx rfl (hb hby d1_50) k) ?_
          refine own_step (T' := s₁) (f' := (mkF m 55 #[.val (.int p1)] [(.int (1 : Int32))])) (fun t k => XS.goto X0.here hx rfl (pc0 := 51) (pc' := 55) rfl (hb hby d1_51) (by decide) (by decide) k) ?_
          exact own_retN X0 hx hlk (t := .boolean) Bd.returns (by simp) (hb hby d1_55) (by decide) (by decide) ⟨by unfold own_isLetter; rw [if_neg hc3_1, if_pos hc9_12, if_pos hc15_13, if_pos hc27_14]; try rfl, N0, e0⟩
        · skip
          refine own_step (T' := s₁) (f' := (mkF m 30 #[.val (.int p1)] [])) (fun t k => XS.icmpNo X0.here hx rfl (hb hby d1_27) rfl (feq hc27_14).1 k) ?_
          refine own_step (T' := s₁) (f' := (mkF m 31 #[.val (.int p1)] [(.int p1)])) (fun t k => XS.iloadN X0.here hx rfl (hb hby d1_30) rfl k) ?_
          refine own_step (T' := s₁) (f' := (mkF m 33 #[.val (.int p1)] [(.int (36 : Int32)), (.int p1)])) (fun t k => XS.bipush X0.here hx rfl (hb hby d1_31) k) ?_
          by_cases hc33_15 : p1 = (36 : Int32)
          · skip
            refine own_step (T' := s₁) (f' := (mkF m 50 #[.val (.int p1)] [])) (fun t k => XS.icmpYes X0.here hx rfl (pc0 := 33) (pc' := 50) rfl (hb hby d1_33) rfl (teq hc33_15).1 (by decide) (by decide) k) ?_
            refine own_step (T' := s₁) (f' := (mkF m 51 #[.val (.int p1)] [(.int (1 : Int32))])) (fun t k => XS.iconst X0.here hx rfl (hb hby d1_50) k) ?_
            refine own_step (T' := s₁) (f' := (mkF m 55 #[.val (.int p1)] [(.int (1 : Int32))])) (fun t k => XS.goto X0.here hx rfl (pc0 := 51) (pc' := 55) rfl (hb hby d1_51) (by decide) (by decide) k) ?_
            exact own_retN X0 hx hlk (t := .boolean) Bd.returns (by simp) (hb hby d1_55) (by decide) (by decide) ⟨by unfold own_isLetter; rw [if_neg hc3_1, if_pos hc9_12, if_pos hc15_13, if_neg hc27_14, if_pos hc33_15]; try rfl, N0, e0⟩
          · skip
            refine own_step (T' := s₁) (f' := (mkF m 36 #[.val (.int p1)] [])) (fun t k => XS.icmpNo X0.here hx rfl (hb hby d1_33) rfl (feq hc33_15).1 k) ?_
            refine own_step (T' := s₁) (f' := (mkF m 37 #[.val (.int p1)] [(.int p1)])) (fun t k => XS.iloadN X0.here hx rfl (hb hby d1_36) rfl k) ?_
            refine own_step (T' := s₁) (f' := (mkF m 40 #[.val (.int p1)] [(.int (128 : Int32)), (.int p1)])) (fun t k => XS.sipush X0.here hx rfl (hb hby d1_37) k) ?_
            by_cases hc40_16 : p1 < (128 : Int32)
            · skip
              refine own_step (T' := s₁) (f' := (mkF m 54 #[.val (.int p1)] [])) (fun t k => XS.icmpYes X0.here hx rfl (pc0 := 40) (pc' := 54) rfl (hb hby d1_40) rfl (tlt hc40_16).1 (by decide) (by decide) k) ?_
              refine own_step (T' := s₁) (f' := (mkF m 55 #[.val (.int p1)] [(.int (0 : Int32))])) (fun t k => XS.iconst X0.here hx rfl (hb hby d1_54) k) ?_
              exact own_retN X0 hx hlk (t := .boolean) Bd.returns (by simp) (hb hby d1_55) (by decide) (by decide) ⟨by unfold own_isLetter; rw [if_neg hc3_1, if_pos hc9_12, if_pos hc15_13, if_neg hc27_14, if_neg hc33_15, if_pos hc40_16]; try rfl, N0, e0⟩
            · skip
              refine own_step (T' := s₁) (f' := (mkF m 43 #[.val (.int p1)] [])) (fun t k => XS.icmpNo X0.here hx rfl (hb hby d1_40) rfl (flt hc40_16).1 k) ?_
              refine own_step (T' := s₁) (f' := (mkF m 44 #[.val (.int p1)] [(.int p1)])) (fun t k => XS.iloadN X0.here hx rfl (hb hby d1_43) rfl k) ?_
              refine own_step (T' := s₁) (f' := (mkF m 47 #[.val (.int p1)] [(.int (255 : Int32)), (.int p1)])) (fun t k => XS.sipush X0.here hx rfl (hb hby d1_44) k) ?_
              by_cases hc47_17 : (255 : Int32) < p1
              · skip
                refine own_step (T' := s₁) (f' := (mkF m 54 #[.val (.int p1)] [])) (fun t k => XS.icmpYes X0.here hx rfl (pc0 := 47) (pc' := 54) rfl (hb hby d1_47) rfl (tlt hc47_17).2.2.1 (by decide) (by decide) k) ?_
                refine own_step (T' := s₁) (f' := (mkF m 55 #[.val (.int p1)] [(.int (0 : Int32))])) (fun t k => XS.iconst X0.here hx rfl (hb hby d1_54) k) ?_
                exact own_retN X0 hx hlk (t := .boolean) Bd.returns (by simp) (hb hby d1_55) (by decide) (by decide) ⟨by unfold own_isLetter; rw [if_neg hc3_1, if_pos hc9_12, if_pos hc15_13, if_neg hc27_14, if_neg hc33_15, if_neg hc40_16, if_pos hc47_17]; try rfl, N0, e0⟩
              · skip
                refine own_step (T' := s₁) (f' := (mkF m 50 #[.val (.int p1)] [])) (fun t k => XS.icmpNo X0.here hx rfl (hb hby d1_47) rfl (flt hc47_17).2.2.1 k) ?_
                refine own_step (T' := s₁) (f' := (mkF m 51 #[.val (.int p1)] [(.int (1 : Int32))])) (fun t k => XS.iconst X0.here hx rfl (hb hby d1_50) k) ?_
                refine own_step (T' := s₁) (f' := (mkF m 55 #[.val (.int p1)] [(.int (1 : Int32))])) (fun t k => XS.goto X0.here hx rfl (pc0 := 51) (pc' := 55) rfl (hb hby d1_51) (by decide) (by decide) k) ?_
                exact own_retN X0 hx hlk (t := .boolean) Bd.returns (by simp) (hb hby d1_55) (by decide) (by decide) ⟨by unfold own_isLetter; rw [if_neg hc3_1, if_pos hc9_12, if_pos hc15_13, if_neg hc27_14, if_neg hc33_15, if_neg hc40_16, if_neg hc47_17]; try rfl, N0, e0⟩
      · skip
        refine own_step (T' := s₁) (f' := (mkF m 18 #[.val (.int p1)] [])) (fun t k => XS.icmpNo X0.here hx rfl (hb hby d1_15) rfl (flt hc15_13).1 k) ?_
        refine own_step (T' := s₁) (f' := (mkF m 19 #[.val (.int p1)] [(.int p1)])) (fun t k => XS.iloadN X0.here hx rfl (hb hby d1_18) rfl k) ?_
        refine own_step (T' := s₁) (f' := (mkF m 21 #[.val (.int p1)] [(.int (90 : Int32)), (.int p1)])) (fun t k => XS.bipush X0.here hx rfl (hb hby d1_19) k) ?_
        by_cases hc21_18 : (90 : Int32) < p1
        · skip
          refine own_step (T' := s₁) (f' := (mkF m 24 #[.val (.int p1)] [])) (fun t k => XS.icmpNo X0.here hx rfl (hb hby d1_21) rfl (tlt hc21_18).2.2.2 k) ?_
          refine own_step (T' := s₁) (f' := (mkF m 25 #[.val (.int p1)] [(.int p1)])) (fun t k => XS.iloadN X0.here hx rfl (hb hby d1_24) rfl k) ?_
          refine own_step (T' := s₁) (f' := (mkF m 27 #[.val (.int p1)] [(.int (95 : Int32)), (.int p1)])) (fun t k => XS.bipush X0.here hx rfl (hb hby d1_25) k) ?_
          by_cases hc27_19 : p1 = (95 : Int32)
          · skip
            refine own_step (T' := s₁) (f' := (mkF m 50 #[.val (.int p1)] [])) (fun t k => XS.icmpYes X0.here hx rfl (pc0 := 27) (pc' := 50) rfl (hb hby d1_27) rfl (teq hc27_19).1 (by decide) (by decide) k) ?_
            refine own_step (T' := s₁) (f' := (mkF m 51 #[.val (.int p1)] [(.int (1 : Int32))])) (fun t k => XS.iconst X0.here hx rfl (hb hby d1_50) k) ?_
            refine own_step (T' := s₁) (f' := (mkF m 55 #[.val (.int p1)] [(.int (1 : Int32))])) (fun t k => XS.goto X0.here hx rfl (pc0 := 51) (pc' := 55) rfl (hb hby d1_51) (by decide) (by decide) k) ?_
            exact own_retN X0 hx hlk (t := .boolean) Bd.returns (by simp) (hb hby d1_55) (by decide) (by decide) ⟨by unfold own_isLetter; rw [if_neg hc3_1, if_pos hc9_12, if_neg hc15_13, if_pos hc21_18, if_pos hc27_19]; try rfl, N0, e0⟩
          · skip
            refine own_step (T' := s₁) (f' := (mkF m 30 #[.val (.int p1)] [])) (fun t k => XS.icmpNo X0.here hx rfl (hb hby d1_27) rfl (feq hc27_19).1 k) ?_
            refine own_step (T' := s₁) (f' := (mkF m 31 #[.val (.int p1)] [(.int p1)])) (fun t k => XS.iloadN X0.here hx rfl (hb hby d1_30) rfl k) ?_
            refine own_step (T' := s₁) (f' := (mkF m 33 #[.val (.int p1)] [(.int (36 : Int32)), (.int p1)])) (fun t k => XS.bipush X0.here hx rfl (hb hby d1_31) k) ?_
            by_cases hc33_20 : p1 = (36 : Int32)
            · skip
              refine own_step (T' := s₁) (f' := (mkF m 50 #[.val (.int p1)] [])) (fun t k => XS.icmpYes X0.here hx rfl (pc0 := 33) (pc' := 50) rfl (hb hby d1_33) rfl (teq hc33_20).1 (by decide) (by decide) k) ?_
              refine own_step (T' := s₁) (f' := (mkF m 51 #[.val (.int p1)] [(.int (1 : Int32))])) (fun t k => XS.iconst X0.here hx rfl (hb hby d1_50) k) ?_
              refine own_step (T' := s₁) (f' := (mkF m 55 #[.val (.int p1)] [(.int (1 : Int32))])) (fun t k => XS.goto X0.here hx rfl (pc0 := 51) (pc' := 55) rfl (hb hby d1_51) (by decide) (by decide) k) ?_
              exact own_retN X0 hx hlk (t := .boolean) Bd.returns (by simp) (hb hby d1_55) (by decide) (by decide) ⟨by unfold own_isLetter; rw [if_neg hc3_1, if_pos hc9_12, if_neg hc15_13, if_pos hc21_18, if_neg hc27_19, if_pos hc33_20]; try rfl, N0, e0⟩
            · skip
              refine own_step (T' := s₁) (f' := (mkF m 36 #[.val (.int p1)] [])) (fun t k => XS.icmpNo X0.here hx rfl (hb hby d1_33) rfl (feq hc33_20).1 k) ?_
              refine own_step (T' := s₁) (f' := (mkF m 37 #[.val (.int p1)] [(.int p1)])) (fun t k => XS.iloadN X0.here hx rfl (hb hby d1_36) rfl k) ?_
              refine own_step (T' := s₁) (f' := (mkF m 40 #[.val (.int p1)] [(.int (128 : Int32)), (.int p1)])) (fun t k => XS.sipush X0.here hx rfl (hb hby d1_37) k) ?_
              by_cases hc40_21 : p1 < (128 : Int32)
              · skip
                refine own_step (T' := s₁) (f' := (mkF m 54 #[.val (.int p1)] [])) (fun t k => XS.icmpYes X0.here hx rfl (pc0 := 40) (pc' := 54) rfl (hb hby d1_40) rfl (tlt hc40_21).1 (by decide) (by decide) k) ?_
                refine own_step (T' := s₁) (f' := (mkF m 55 #[.val (.int p1)] [(.int (0 : Int32))])) (fun t k => XS.iconst X0.here hx rfl (hb hby d1_54) k) ?_
                exact own_retN X0 hx hlk (t := .boolean) Bd.returns (by simp) (hb hby d1_55) (by decide) (by decide) ⟨by unfold own_isLetter; rw [if_neg hc3_1, if_pos hc9_12, if_neg hc15_13, if_pos hc21_18, if_neg hc27_19, if_neg hc33_20, if_pos hc40_21]; try rfl, N0, e0⟩
              · skip
                refine own_step (T' := s₁) (f' := (mkF m 43 #[.val (.int p1)] [])) (fun t k => XS.icmpNo X0.here hx rfl (hb hby d1_40) rfl (flt hc40_21).1 k) ?_
                refine own_step (T' := s₁) (f' := (mkF m 44 #[.val (.int p1)] [(.int p1)])) (fun t k => XS.iloadN X0.here hx rfl (hb hby d1_43) rfl k) ?_
                refine own_step (T' := s₁) (f' := (mkF m 47 #[.val (.int p1)] [(.int (255 : Int32)), (.int p1)])) (fun t k => XS.sipush X0.here hx rfl (hb hby d1_44) k) ?_
                by_cases hc47_22 : (255 : Int32) < p1
                · skip
                  refine own_step (T' := s₁) (f' := (mkF m 54 #[.val (.int p1)] [])) (fun t k => XS.icmpYes X0.here hx rfl (pc0 := 47) (pc' := 54) rfl (hb hby d1_47) rfl (tlt hc47_22).2.2.1 (by decide) (by decide) k) ?_
                  refine own_step (T' := s₁) (f' := (mkF m 55 #[.val (.int p1)] [(.int (0 : Int32))])) (fun t k => XS.iconst X0.here hx rfl (hb hby d1_54) k) ?_
                  exact own_retN X0 hx hlk (t := .boolean) Bd.returns (by simp) (hb hby d1_55) (by decide) (by decide) ⟨by unfold own_isLetter; rw [if_neg hc3_1, if_pos hc9_12, if_neg hc15_13, if_pos hc21_18, if_neg hc27_19, if_neg hc33_20, if_neg hc40_21, if_pos hc47_22]; try rfl, N0, e0⟩
                · skip
                  refine own_step (T' := s₁) (f' := (mkF m 50 #[.val (.int p1)] [])) (fun t k => XS.icmpNo X0.here hx rfl (hb hby d1_47) rfl (flt hc47_22).2.2.1 k) ?_
                  refine own_step (T' := s₁) (f' := (mkF m 51 #[.val (.int p1)] [(.int (1 : Int32))])) (fun t k => XS.iconst X0.here hx rfl (hb hby d1_50) k) ?_
                  refine own_step (T' := s₁) (f' := (mkF m 55 #[.val (.int p1)] [(.int (1 : Int32))])) (fun t k => XS.goto X0.here hx rfl (pc0 := 51) (pc' := 55) rfl (hb hby d1_51) (by decide) (by decide) k) ?_
                  exact own_retN X0 hx hlk (t := .boolean) Bd.returns (by simp) (hb hby d1_55) (by decide) (by decide) ⟨by unfold own_isLetter; rw [if_neg hc3_1, if_pos hc9_12, if_neg hc15_13, if_pos hc21_18, if_neg hc27_19, if_neg hc33_20, if_neg hc40_21, if_neg hc47_22]; try rfl, N0, e0⟩
        · skip
          refine own_step (T' := s₁) (f' := (mkF m 50 #[.val (.int p1)] [])) (fun t k => XS.icmpYes X0.here hx rfl (pc0 := 21) (pc' := 50) rfl (hb hby d1_21) rfl (flt hc21_18).2.2.2 (by decide) (by decide) k) ?_
          refine own_step (T' := s₁) (f' := (mkF m 51 #[.val (.int p1)] [(.int (1 : Int32))])) (fun t k => XS.iconst X0.here hx rfl (hb hby d1_50) k) ?_
          refine own_step (T' := s₁) (f' := (mkF m 55 #[.val (.int p1)] [(.int (1 : Int32))])) (fun t k => XS.goto X0.here hx rfl (pc0 := 51) (pc' := 55) rfl (hb hby d1_51) (by decide) (by decide) k) ?_
          exact own_retN X0 hx hlk (t := .boolean) Bd.returns (by simp) (hb hby d1_55) (by decide) (by decide) ⟨by unfold own_isLetter; rw [if_neg hc3_1, if_pos hc9_12, if_neg hc15_13, if_neg hc21_18]; try rfl, N0, e0⟩
    · skip
      refine own_step (T' := s₁) (f' := (mkF m 50 #[.val (.int p1)] [])) (fun t k => XS.icmpYes X0.here hx rfl (pc0 := 9) (pc' := 50) rfl (hb hby d1_9) rfl (flt hc9_12).2.2.2 (by decide) (by decide) k) ?_
      refine own_step (T' := s₁) (f' := (mkF m 51 #[.val (.int p1)] [(.int (1 : Int32))])) (fun t k => XS.iconst X0.here hx rfl (hb hby d1_50) k) ?_
      refine own_step (T' := s₁) (f' := (mkF m 55 #[.val (.int p1)] [(.int (1 : Int32))])) (fun t k => XS.goto X0.here hx rfl (pc0 := 51) (pc' := 55) rfl (hb hby d1_51) (by decide) (by decide) k) ?_
      exact own_retN X0 hx hlk (t := .boolean) Bd.returns (by simp) (hb hby d1_55) (by decide) (by decide) ⟨by unfold own_isLetter; rw [if_neg hc3_1, if_neg hc9_12]; try rfl, N0, e0⟩

theorem d2_0 : decode method_2_code 0 = .ok (.iload_n 0, 1) := by decide +kernel
theorem d2_1 : decode method_2_code 1 = .ok (.bipush 32, 2) := by decide +kernel
theorem d2_3 : decode method_2_code 3 = .ok (.ior, 1) := by decide +kernel
theorem d2_4 : decode method_2_code 4 = .ok (.istore_n 1, 1) := by decide +kernel
theorem d2_5 : decode method_2_code 5 = .ok (.iload_n 1, 1) := by decide +kernel
theorem d2_6 : decode method_2_code 6 = .ok (.bipush 97, 2) := by decide +kernel
theorem d2_8 : decode method_2_code 8 = .ok (.if_icmp .lt 13, 3) := by decide +kernel
theorem d2_11 : decode method_2_code 11 = .ok (.iload_n 1, 1) := by decide +kernel
theorem d2_12 : decode method_2_code 12 = .ok (.bipush 122, 2) := by decide +kernel
theorem d2_14 : decode method_2_code 14 = .ok (.if_icmp .gt 7, 3) := by decide +kernel
theorem d2_17 : decode method_2_code 17 = .ok (.iconst 1, 1) := by decide +kernel
theorem d2_18 : decode method_2_code 18 = .ok (.goto 4, 3) := by decide +kernel
theorem d2_21 : decode method_2_code 21 = .ok (.iconst 0, 1) := by decide +kernel
theorem d2_22 : decode method_2_code 22 = .ok (.istore_n 2, 1) := by decide +kernel
theorem d2_23 : decode method_2_code 23 = .ok (.iload_n 0, 1) := by decide +kernel
theorem d2_24 : decode method_2_code 24 = .ok (.bipush 7, 2) := by decide +kernel
theorem d2_26 : decode method_2_code 26 = .ok (.iushr, 1) := by decide +kernel
theorem d2_27 : decode method_2_code 27 = .ok (.iconst 1, 1) := by decide +kernel
theorem d2_28 : decode method_2_code 28 = .ok (.if_icmp .ne 7, 3) := by decide +kernel
theorem d2_31 : decode method_2_code 31 = .ok (.iconst 1, 1) := by decide +kernel
theorem d2_32 : decode method_2_code 32 = .ok (.goto 4, 3) := by decide +kernel
theorem d2_35 : decode method_2_code 35 = .ok (.iconst 0, 1) := by decide +kernel
theorem d2_36 : decode method_2_code 36 = .ok (.istore_n 3, 1) := by decide +kernel
theorem d2_37 : decode method_2_code 37 = .ok (.iload_n 2, 1) := by decide +kernel
theorem d2_38 : decode method_2_code 38 = .ok (.ifCond .ne 19, 3) := by decide +kernel
theorem d2_41 : decode method_2_code 41 = .ok (.iload_n 0, 1) := by decide +kernel
theorem d2_42 : decode method_2_code 42 = .ok (.bipush 95, 2) := by decide +kernel
theorem d2_44 : decode method_2_code 44 = .ok (.if_icmp .eq 13, 3) := by decide +kernel
theorem d2_47 : decode method_2_code 47 = .ok (.iload_n 0, 1) := by decide +kernel
theorem d2_48 : decode method_2_code 48 = .ok (.bipush 36, 2) := by decide +kernel
theorem d2_50 : decode method_2_code 50 = .ok (.if_icmp .eq 7, 3) := by decide +kernel
theorem d2_53 : decode method_2_code 53 = .ok (.iload_n 3, 1) := by decide +kernel
theorem d2_54 : decode method_2_code 54 = .ok (.ifCond .eq 7, 3) := by decide +kernel
theorem d2_57 : decode method_2_code 57 = .ok (.iconst 1, 1) := by decide +kernel
theorem d2_58 : decode method_2_code 58 = .ok (.goto 4, 3) := by decide +kernel
theorem d2_61 : decode method_2_code 61 = .ok (.iconst 0, 1) := by decide +kernel
theorem d2_62 : decode method_2_code 62 = .ok (.ireturn, 1) := by decide +kernel
theorem pn_2 : plainName "com/example/lit2/lit2/input/CwebSyntaxIsLetterPinLaw" = true := by first | (simp [plainName, overriddenIn]; done) | decide +kernel
theorem ef_rm2 (m : MethodId) (x0 : Int32) : entryFrame m #[(.int x0)] 4 = mkF m 0 #[.val (.int x0), .unset, .unset, .unset] [] := by first | (simp [entryFrame, mkF, argsToLocals, Value.category]; done) | rfl
def own_expected (p1 : Int32) : Int32 := (if (p1 ||| (32 : Int32)) < (97 : Int32) then (if ((p1.toUInt32 >>> ((7 : Int32) &&& 31).toUInt32).toInt32) = (1 : Int32) then (if p1 = (95 : Int32) then (1 : Int32) else (if p1 = (36 : Int32) then (1 : Int32) else (1 : Int32))) else (if p1 = (95 : Int32) then (1 : Int32) else (if p1 = (36 : Int32) then (1 : Int32) else (0 : Int32)))) else (if (122 : Int32) < (p1 ||| (32 : Int32)) then (if ((p1.toUInt32 >>> ((7 : Int32) &&& 31).toUInt32).toInt32) = (1 : Int32) then (if p1 = (95 : Int32) then (1 : Int32) else (if p1 = (36 : Int32) then (1 : Int32) else (1 : Int32))) else (if p1 = (95 : Int32) then (1 : Int32) else (if p1 = (36 : Int32) then (1 : Int32) else (0 : Int32)))) else (if ((p1.toUInt32 >>> ((7 : Int32) &&& 31).toUInt32).toInt32) = (1 : Int32) then (1 : Int32) else (1 : Int32))))
def Q2 (p1 : Int32) (h0 : Heap) (n0 : Nat) (v : Option Value) (h : Heap) (L : List Loc) : Prop := v = some (.int (own_expected p1)) ∧ Fr n0 L ∧ h = h0
set_option maxRecDepth 65536 in
set_option maxHeartbeats 40000000 in
theorem rm2 (l : Launch) (Z : State) (a0 : Array Value) (hw : ∀ d ∈ tables_1, d.before a0 Z = true) (ws : List Jvm.Cond) (p1 : Int32) (h0 : Heap) (n0 : Nat) (Z0 : n0 ≤ h0.size)  :
    MetFree l (⟨"com/example/lit2/lit2/input/CwebSyntaxIsLetterPinLaw", "expected", "(I)Z"⟩ : MethodName) (head1 (Jvm.Cond.code (⟨"com/example/lit2/lit2/input/CwebSyntaxIsLetterPinLaw", "expected", "(I)Z"⟩ : MethodName) method_2_code 4 (some .boolean) :: ws) ({ frames := 0, cells := 0, slots := 0, locals := 0 } : Room)) (fun a U => a = #[(.int p1)] ∧ Z.Warmed39 U.vm ∧ U.heap = h0) (fun _ _ _ _ _ => True) (fun _ U o U' => ∃ v L, o = .returned v ∧ Q2 p1 h0 n0 v U'.heap L ∧ FrameEnd U o U' L ({ frames := 0, cells := 0, slots := 0, locals := 0 } : Room).cells ({ frames := 0, cells := 0, slots := 0, locals := 0 } : Room).slots) := by
  refine MetFree.of_bodySF (plainFor_of_name pn_2) hisR ?_
  intro p e s m args below meth c s₁ Bd hml0 hP hK
  obtain ⟨rfl, hZ, hh⟩ := hP
  have hx := Bd.exec
  have hby := Bd.bytes
  have hlk : meth.locks = false := BodyLoose.notSynchronized Bd
  have hml : c.maxLocals = 4 := hml0
  have hown : s.vm.findClass "com/example/lit2/lit2/input/CwebSyntaxIsLetterPinLaw" = some m.cls := findClass_of_methodNamed Bd.named
  have hnm := (name_of_methodNamed Bd.named Bd.method).1
  have X0 : Stand p l e ({ frames := 0, cells := 0, slots := 0, locals := 0 } : Room) s m #[(.int p1)] below meth c s₁ [] 0 0 := Stand.of_body Bd
  have e0 : s₁.heap = h0 := by rw [← hh, Bd.state]; rfl
  have N0 := Fr.nil n0
  show OwnEnds p e below s (Q2 p1 h0 n0) ({ frames := 0, cells := 0, slots := 0, locals := 0 } : Room).cells ({ frames := 0, cells := 0, slots := 0, locals := 0 } : Room).slots s₁ (entryFrame m #[(.int p1)] 4)
  refine own_step (T' := s₁) (f' := (mkF m 0 #[.val (.int p1), .unset, .unset, .unset] [])) (fun t k => castTop (ef_rm2 m p1) k) ?_
  refine own_step (T' := s₁) (f' := (mkF m 1 #[.val (.int p1), .unset, .unset, .unset] [(.int p1)])) (fun t k => XS.iloadN X0.here hx rfl (hb hby d2_0) rfl k) ?_
  refine own_step (T' := s₁) (f' := (mkF m 3 #[.val (.int p1), .unset, .unset, .unset] [(.int (32 : Int32)), (.int p1)])) (fun t k => XS.bipush X0.here hx rfl (hb hby d2_1) k) ?_
  refine own_step (T' := s₁) (f' := (mkF m 4 #[.val (.int p1), .unset, .unset, .unset] [(.int (p1 ||| (32 : Int32)))])) (fun t k => XS.ior X0.here hx rfl (hb hby d2_3) rfl k) ?_
  refine own_step (T' := s₁) (f' := (mkF m 5 #[.val (.int p1), .val (.int (p1 ||| (32 : Int32))), .unset, .unset] [])) (fun t k => XS.istoreN X0.here hx rfl (hb hby d2_4) rfl (l' := #[.val (.int p1), .val (.int (p1 ||| (32 : Int32))), .unset, .unset]) rfl k) ?_
  refine own_step (T' := s₁) (f' := (mkF m 6 #[.val (.int p1), .val (.int (p1 ||| (32 : Int32))), .unset, .unset] [(.int (p1 ||| (32 : Int32)))])) (fun t k => XS.iloadN X0.here hx rfl (hb hby d2_5) rfl k) ?_
  refine own_step (T' := s₁) (f' := (mkF m 8 #[.val (.int p1), .val (.int (p1 ||| (32 : Int32))), .unset, .unset] [(.int (97 : Int32)), (.int (p1 ||| (32 : Int32)))])) (fun t k => XS.bipush X0.here hx rfl (hb hby d2_6) k) ?_
  by_cases hc8_1 : (p1 ||| (32 : Int32)) < (97 : Int32)
  · skip
    refine own_step (T' := s₁) (f' := (mkF m 21 #[.val (.int p1), .val (.int (p1 ||| (32 : Int32))), .unset, .unset] [])) (fun t k => XS.icmpYes X0.here hx rfl (pc0 := 8) (pc' := 21) rfl (hb hby d2_8) rfl (tlt hc8_1).1 (by decide) (by decide) k) ?_
    refine own_step (T' := s₁) (f' := (mkF m 22 #[.val (.int p1), .val (.int (p1 ||| (32 : Int32))), .unset, .unset] [(.int (0 : Int32))])) (fun t k => XS.iconst X0.here hx rfl (hb hby d2_21) k) ?_
    refine own_step (T' := s₁) (f' := (mkF m 23 #[.val (.int p1), .val (.int (p1 ||| (32 : Int32))), .val (.int (0 : Int32)), .unset] [])) (fun t k => XS.istoreN X0.here hx rfl (hb hby d2_22) rfl (l' := #[.val (.int p1), .val (.int (p1 ||| (32 : Int32))), .val (.int (0 : Int32)), .unset]) rfl k) ?_
    refine own_step (T' := s₁) (f' := (mkF m 24 #[.val (.int p1), .val (.int (p1 ||| (32 : Int32))), .val (.int (0 : Int32)), .unset] [(.int p1)])) (fun t k => XS.iloadN X0.here hx rfl (hb hby d2_23) rfl k) ?_
    refine own_step (T' := s₁) (f' := (mkF m 26 #[.val (.int p1), .val (.int (p1 ||| (32 : Int32))), .val (.int (0 : Int32)), .unset] [(.int (7 : Int32)), (.int p1)])) (fun t k => XS.bipush X0.here hx rfl (hb hby d2_24) k) ?_
    refine own_step (T' := s₁) (f' := (mkF m 27 #[.val (.int p1), .val (.int (p1 ||| (32 : Int32))), .val (.int (0 : Int32)), .unset] [(.int ((p1.toUInt32 >>> ((7 : Int32) &&& 31).toUInt32).toInt32))])) (fun t k => XS.iushr X0.here hx rfl (hb hby d2_26) rfl k) ?_
    refine own_step (T' := s₁) (f' := (mkF m 28 #[.val (.int p1), .val (.int (p1 ||| (32 : Int32))), .val (.int (0 : Int32)), .unset] [(.int (1 : Int32)), (.int ((p1.toUInt32 >>> ((7 : Int32) &&& 31).toUInt32).toInt32))])) (fun t k => XS.iconst X0.here hx rfl (hb hby d2_27) k) ?_
    by_cases hc28_2 : ((p1.toUInt32 >>> ((7 : Int32) &&& 31).toUInt32).toInt32) = (1 : Int32)
    · skip
      refine own_step (T' := s₁) (f' := (mkF m 31 #[.val (.int p1), .val (.int (p1 ||| (32 : Int32))), .val (.int (0 : Int32)), .unset] [])) (fun t k => XS.icmpNo X0.here hx rfl (hb hby d2_28) rfl (teq hc28_2).2 k) ?_
      refine own_step (T' := s₁) (f' := (mkF m 32 #[.val (.int p1), .val (.int (p1 ||| (32 : Int32))), .val (.int (0 : Int32)), .unset] [(.int (1 : Int32))])) (fun t k => XS.iconst X0.here hx rfl (hb hby d2_31) k) ?_
      refine own_step (T' := s₁) (f' := (mkF m 36 #[.val (.int p1), .val (.int (p1 ||| (32 : Int32))), .val (.int (0 : Int32)), .unset] [(.int (1 : Int32))])) (fun t k => XS.goto X0.here hx rfl (pc0 := 32) (pc' := 36) rfl (hb hby d2_32) (by decide) (by decide) k) ?_
      refine own_step (T' := s₁) (f' := (mkF m 37 #[.val (.int p1), .val (.int (p1 ||| (32 : Int32))), .val (.int (0 : Int32)), .val (.int (1 : Int32))] [])) (fun t k => XS.istoreN X0.here hx rfl (hb hby d2_36) rfl (l' := #[.val (.int p1), .val (.int (p1 ||| (32 : Int32))), .val (.int (0 : Int32)), .val (.int (1 : Int32))]) rfl k) ?_
      refine own_step (T' := s₁) (f' := (mkF m 38 #[.val (.int p1), .val (.int (p1 ||| (32 : Int32))), .val (.int (0 : Int32)), .val (.int (1 : Int32))] [(.int (0 : Int32))])) (fun t k => XS.iloadN X0.here hx rfl (hb hby d2_37) rfl k) ?_
      refine own_step (T' := s₁) (f' := (mkF m 41 #[.val (.int p1), .val (.int (p1 ||| (32 : Int32))), .val (.int (0 : Int32)), .val (.int (1 : Int32))] [])) (fun t k => XS.ifNo X0.here hx rfl (hb hby d2_38) rfl ((if0 _ _).trans (teq (by decide : (0 : Int32) = (0 : Int32))).2) k) ?_
      refine own_step (T' := s₁) (f' := (mkF m 42 #[.val (.int p1), .val (.int (p1 ||| (32 : Int32))), .val (.int (0 : Int32)), .val (.int (1 : Int32))] [(.int p1)])) (fun t k => XS.iloadN X0.here hx rfl (hb hby d2_41) rfl k) ?_
      refine own_step (T' := s₁) (f' := (mkF m 44 #[.val (.int p1), .val (.int (p1 ||| (32 : Int32))), .val (.int (0 : Int32)), .val (.int (1 : Int32))] [(.int (95 : Int32)), (.int p1)])) (fun t k => XS.bipush X0.here hx rfl (hb hby d2_42) k) ?_
      by_cases hc44_3 : p1 = (95 : Int32)
      · skip
        refine own_step (T' := s₁) (f' := (mkF m 57 #[.val (.int p1), .val (.int (p1 ||| (32 : Int32))), .val (.int (0 : Int32)), .val (.int (1 : Int32))] [])) (fun t k => XS.icmpYes X0.here hx rfl (pc0 := 44) (pc' := 57) rfl (hb hby d2_44) rfl (teq hc44_3).1 (by decide) (by decide) k) ?_
        refine own_step (T' := s₁) (f' := (mkF m 58 #[.val (.int p1), .val (.int (p1 ||| (32 : Int32))), .val (.int (0 : Int32)), .val (.int (1 : Int32))] [(.int (1 : Int32))])) (fun t k => XS.iconst X0.here hx rfl (hb hby d2_57) k) ?_
        refine own_step (T' := s₁) (f' := (mkF m 62 #[.val (.int p1), .val (.int (p1 ||| (32 : Int32))), .val (.int (0 : Int32)), .val (.int (1 : Int32))] [(.int (1 : Int32))])) (fun t k => XS.goto X0.here hx rfl (pc0 := 58) (pc' := 62) rfl (hb hby d2_58) (by decide) (by decide) k) ?_
        exact own_retN X0 hx hlk (t := .boolean) Bd.returns (by simp) (hb hby d2_62) (by decide) (by decide) ⟨by unfold own_expected; rw [if_pos hc8_1, if_pos hc28_2, if_pos hc44_3]; try rfl, N0, e0⟩
      · skip
        refine own_step (T' := s₁) (f' := (mkF m 47 #[.val (.int p1), .val (.int (p1 ||| (32 : Int32))), .val (.int (0 : Int32)), .val (.int (1 : Int32))] [])) (fun t k => XS.icmpNo X0.here hx rfl (hb hby d2_44) rfl (feq hc44_3).1 k) ?_
        refine own_step (T' := s₁) (f' := (mkF m 48 #[.val (.int p1), .val (.int (p1 ||| (32 : Int32))), .val (.int (0 : Int32)), .val (.int (1 : Int32))] [(.int p1)])) (fun t k => XS.iloadN X0.here hx rfl (hb hby d2_47) rfl k) ?_
        refine own_step (T' := s₁) (f' := (mkF m 50 #[.val (.int p1), .val (.int (p1 ||| (32 : Int32))), .val (.int (0 : Int32)), .val (.int (1 : Int32))] [(.int (36 : Int32)), (.int p1)])) (fun t k => XS.bipush X0.here hx rfl (hb hby d2_48) k) ?_
        by_cases hc50_4 : p1 = (36 : Int32)
        · skip
          refine own_step (T' := s₁) (f' := (mkF m 57 #[.val (.int p1), .val (.int (p1 ||| (32 : Int32))), .val (.int (0 : Int32)), .val (.int (1 : Int32))] [])) (fun t k => XS.icmpYes X0.here hx rfl (pc0 := 50) (pc' := 57) rfl (hb hby d2_50) rfl (teq hc50_4).1 (by decide) (by decide) k) ?_
          refine own_step (T' := s₁) (f' := (mkF m 58 #[.val (.int p1), .val (.int (p1 ||| (32 : Int32))), .val (.int (0 : Int32)), .val (.int (1 : Int32))] [(.int (1 : Int32))])) (fun t k => XS.iconst X0.here hx rfl (hb hby d2_57) k) ?_
          refine own_step (T' := s₁) (f' := (mkF m 62 #[.val (.int p1), .val (.int (p1 ||| (32 : Int32))), .val (.int (0 : Int32)), .val (.int (1 : Int32))] [(.int (1 : Int32))])) (fun t k => XS.goto X0.here hx rfl (pc0 := 58) (pc' := 62) rfl (hb hby d2_58) (by decide) (by decide) k) ?_
          exact own_retN X0 hx hlk (t := .boolean) Bd.returns (by simp) (hb hby d2_62) (by decide) (by decide) ⟨by unfold own_expected; rw [if_pos hc8_1, if_pos hc28_2, if_neg hc44_3, if_pos hc50_4]; try rfl, N0, e0⟩
        · skip
          refine own_step (T' := s₁) (f' := (mkF m 53 #[.val (.int p1), .val (.int (p1 ||| (32 : Int32))), .val (.int (0 : Int32)), .val (.int (1 : Int32))] [])) (fun t k => XS.icmpNo X0.here hx rfl (hb hby d2_50) rfl (feq hc50_4).1 k) ?_
          refine own_step (T' := s₁) (f' := (mkF m 54 #[.val (.int p1), .val (.int (p1 ||| (32 : Int32))), .val (.int (0 : Int32)), .val (.int (1 : Int32))] [(.int (1 : Int32))])) (fun t k => XS.iloadN X0.here hx rfl (hb hby d2_53) rfl k) ?_
          refine own_step (T' := s₁) (f' := (mkF m 57 #[.val (.int p1), .val (.int (p1 ||| (32 : Int32))), .val (.int (0 : Int32)), .val (.int (1 : Int32))] [])) (fun t k => XS.ifNo X0.here hx rfl (hb hby d2_54) rfl ((if0 _ _).trans (feq (by decide : ¬ ((1 : Int32) = (0 : Int32)))).1) k) ?_
          refine own_step (T' := s₁) (f' := (mkF m 58 #[.val (.int p1), .val (.int (p1 ||| (32 : Int32))), .val (.int (0 : Int32)), .val (.int (1 : Int32))] [(.int (1 : Int32))])) (fun t k => XS.iconst X0.here hx rfl (hb hby d2_57) k) ?_
          refine own_step (T' := s₁) (f' := (mkF m 62 #[.val (.int p1), .val (.int (p1 ||| (32 : Int32))), .val (.int (0 : Int32)), .val (.int (1 : Int32))] [(.int (1 : Int32))])) (fun t k => XS.goto X0.here hx rfl (pc0 := 58) (pc' := 62) rfl (hb hby d2_58) (by decide) (by decide) k) ?_
          exact own_retN X0 hx hlk (t := .boolean) Bd.returns (by simp) (hb hby d2_62) (by decide) (by decide) ⟨by unfold own_expected; rw [if_pos hc8_1, if_pos hc28_2, if_neg hc44_3, if_neg hc50_4]; try rfl, N0, e0⟩
    · skip
      refine own_step (T' := s₁) (f' := (mkF m 35 #[.val (.int p1), .val (.int (p1 ||| (32 : Int32))), .val (.int (0 : Int32)), .unset] [])) (fun t k => XS.icmpYes X0.here hx rfl (pc0 := 28) (pc' := 35) rfl (hb hby d2_28) rfl (feq hc28_2).2 (by decide) (by decide) k) ?_
      refine own_step (T' := s₁) (f' := (mkF m 36 #[.val (.int p1), .val (.int (p1 ||| (32 : Int32))), .val (.int (0 : Int32)), .unset] [(.int (0 : Int32))])) (fun t k => XS.iconst X0.here hx rfl (hb hby d2_35) k) ?_
      refine own_step (T' := s₁) (f' := (mkF m 37 #[.val (.int p1), .val (.int (p1 ||| (32 : Int32))), .val (.int (0 : Int32)), .val (.int (0 : Int32))] [])) (fun t k => XS.istoreN X0.here hx rfl (hb hby d2_36) rfl (l' := #[.val (.int p1), .val (.int (p1 ||| (32 : Int32))), .val (.int (0 : Int32)), .val (.int (0 : Int32))]) rfl k) ?_
      refine own_step (T' := s₁) (f' := (mkF m 38 #[.val (.int p1), .val (.int (p1 ||| (32 : Int32))), .val (.int (0 : Int32)), .val (.int (0 : Int32))] [(.int (0 : Int32))])) (fun t k => XS.iloadN X0.here hx rfl (hb hby d2_37) rfl k) ?_
      refine own_step (T' := s₁) (f' := (mkF m 41 #[.val (.int p1), .val (.int (p1 ||| (32 : Int32))), .val (.int (0 : Int32)), .val (.int (0 : Int32))] [])) (fun t k => XS.ifNo X0.here hx rfl (hb hby d2_38) rfl ((if0 _ _).trans (teq (by decide : (0 : Int32) = (0 : Int32))).2) k) ?_
      refine own_step (T' := s₁) (f' := (mkF m 42 #[.val (.int p1), .val (.int (p1 ||| (32 : Int32))), .val (.int (0 : Int32)), .val (.int (0 : Int32))] [(.int p1)])) (fun t k => XS.iloadN X0.here hx rfl (hb hby d2_41) rfl k) ?_
      refine own_step (T' := s₁) (f' := (mkF m 44 #[.val (.int p1), .val (.int (p1 ||| (32 : Int32))), .val (.int (0 : Int32)), .val (.int (0 : Int32))] [(.int (95 : Int32)), (.int p1)])) (fun t k => XS.bipush X0.here hx rfl (hb hby d2_42) k) ?_
      by_cases hc44_5 : p1 = (95 : Int32)
      · skip
        refine own_step (T' := s₁) (f' := (mkF m 57 #[.val (.int p1), .val (.int (p1 ||| (32 : Int32))), .val (.int (0 : Int32)), .val (.int (0 : Int32))] [])) (fun t k => XS.icmpYes X0.here hx rfl (pc0 := 44) (pc' := 57) rfl (hb hby d2_44) rfl (teq hc44_5).1 (by decide) (by decide) k) ?_
        refine own_step (T' := s₁) (f' := (mkF m 58 #[.val (.int p1), .val (.int (p1 ||| (32 : Int32))), .val (.int (0 : Int32)), .val (.int (0 : Int32))] [(.int (1 : Int32))])) (fun t k => XS.iconst X0.here hx rfl (hb hby d2_57) k) ?_
        refine own_step (T' := s₁) (f' := (mkF m 62 #[.val (.int p1), .val (.int (p1 ||| (32 : Int32))), .val (.int (0 : Int32)), .val (.int (0 : Int32))] [(.int (1 : Int32))])) (fun t k => XS.goto X0.here hx rfl (pc0 := 58) (pc' := 62) rfl (hb hby d2_58) (by decide) (by decide) k) ?_
        exact own_retN X0 hx hlk (t := .boolean) Bd.returns (by simp) (hb hby d2_62) (by decide) (by decide) ⟨by unfold own_expected; rw [if_pos hc8_1, if_neg hc28_2, if_pos hc44_5]; try rfl, N0, e0⟩
      · skip
        refine own_step (T' := s₁) (f' := (mkF m 47 #[.val (.int p1), .val (.int (p1 ||| (32 : Int32))), .val (.int (0 : Int32)), .val (.int (0 : Int32))] [])) (fun t k => XS.icmpNo X0.here hx rfl (hb hby d2_44) rfl (feq hc44_5).1 k) ?_
        refine own_step (T' := s₁) (f' := (mkF m 48 #[.val (.int p1), .val (.int (p1 ||| (32 : Int32))), .val (.int (0 : Int32)), .val (.int (0 : Int32))] [(.int p1)])) (fun t k => XS.iloadN X0.here hx rfl (hb hby d2_47) rfl k) ?_
        refine own_step (T' := s₁) (f' := (mkF m 50 #[.val (.int p1), .val (.int (p1 ||| (32 : Int32))), .val (.int (0 : Int32)), .val (.int (0 : Int32))] [(.int (36 : Int32)), (.int p1)])) (fun t k => XS.bipush X0.here hx rfl (hb hby d2_48) k) ?_
        by_cases hc50_6 : p1 = (36 : Int32)
        · skip
          refine own_step (T' := s₁) (f' := (mkF m 57 #[.val (.int p1), .val (.int (p1 ||| (32 : Int32))), .val (.int (0 : Int32)), .val (.int (0 : Int32))] [])) (fun t k => XS.icmpYes X0.here hx rfl (pc0 := 50) (pc' := 57) rfl (hb hby d2_50) rfl (teq hc50_6).1 (by decide) (by decide) k) ?_
          refine own_step (T' := s₁) (f' := (mkF m 58 #[.val (.int p1), .val (.int (p1 ||| (32 : Int32))), .val (.int (0 : Int32)), .val (.int (0 : Int32))] [(.int (1 : Int32))])) (fun t k => XS.iconst X0.here hx rfl (hb hby d2_57) k) ?_
          refine own_step (T' := s₁) (f' := (mkF m 62 #[.val (.int p1), .val (.int (p1 ||| (32 : Int32))), .val (.int (0 : Int32)), .val (.int (0 : Int32))] [(.int (1 : Int32))])) (fun t k => XS.goto X0.here hx rfl (pc0 := 58) (pc' := 62) rfl (hb hby d2_58) (by decide) (by decide) k) ?_
          exact own_retN X0 hx hlk (t := .boolean) Bd.returns (by simp) (hb hby d2_62) (by decide) (by decide) ⟨by unfold own_expected; rw [if_pos hc8_1, if_neg hc28_2, if_neg hc44_5, if_pos hc50_6]; try rfl, N0, e0⟩
        · skip
          refine own_step (T' := s₁) (f' := (mkF m 53 #[.val (.int p1), .val (.int (p1 ||| (32 : Int32))), .val (.int (0 : Int32)), .val (.int (0 : Int32))] [])) (fun t k => XS.icmpNo X0.here hx rfl (hb hby d2_50) rfl (feq hc50_6).1 k) ?_
          refine own_step (T' := s₁) (f' := (mkF m 54 #[.val (.int p1), .val (.int (p1 ||| (32 : Int32))), .val (.int (0 : Int32)), .val (.int (0 : Int32))] [(.int (0 : Int32))])) (fun t k => XS.iloadN X0.here hx rfl (hb hby d2_53) rfl k) ?_
          refine own_step (T' := s₁) (f' := (mkF m 61 #[.val (.int p1), .val (.int (p1 ||| (32 : Int32))), .val (.int (0 : Int32)), .val (.int (0 : Int32))] [])) (fun t k => XS.ifYes X0.here hx rfl (pc0 := 54) (pc' := 61) rfl (hb hby d2_54) rfl ((if0 _ _).trans (teq (by decide : (0 : Int32) = (0 : Int32))).1) (by decide) (by decide) k) ?_
          refine own_step (T' := s₁) (f' := (mkF m 62 #[.val (.int p1), .val (.int (p1 ||| (32 : Int32))), .val (.int (0 : Int32)), .val (.int (0 : Int32))] [(.int (0 : Int32))])) (fun t k => XS.iconst X0.here hx rfl (hb hby d2_61) k) ?_
          exact own_retN X0 hx hlk (t := .boolean) Bd.returns (by simp) (hb hby d2_62) (by decide) (by decide) ⟨by unfold own_expected; rw [if_pos hc8_1, if_neg hc28_2, if_neg hc44_5, if_neg hc50_6]; try rfl, N0, e0⟩
  · skip
    refine own_step (T' := s₁) (f' := (mkF m 11 #[.val (.int p1), .val (.int (p1 ||| (32 : Int32))), .unset, .unset] [])) (fun t k => XS.icmpNo X0.here hx rfl (hb hby d2_8) rfl (flt hc8_1).1 k) ?_
    refine own_step (T' := s₁) (f' := (mkF m 12 #[.val (.int p1), .val (.int (p1 ||| (32 : Int32))), .unset, .unset] [(.int (p1 ||| (32 : Int32)))])) (fun t k => XS.iloadN X0.here hx rfl (hb hby d2_11) rfl k) ?_
    refine own_step (T' := s₁) (f' := (mkF m 14 #[.val (.int p1), .val (.int (p1 ||| (32 : Int32))), .unset, .unset] [(.int (122 : Int32)), (.int (p1 ||| (32 : Int32)))])) (fun t k => XS.bipush X0.here hx rfl (hb hby d2_12) k) ?_
    by_cases hc14_7 : (122 : Int32) < (p1 ||| (32 : Int32))
    · skip
      refine own_step (T' := s₁) (f' := (mkF m 21 #[.val (.int p1), .val (.int (p1 ||| (32 : Int32))), .unset, .unset] [])) (fun t k => XS.icmpYes X0.here hx rfl (pc0 := 14) (pc' := 21) rfl (hb hby d2_14) rfl (tlt hc14_7).2.2.1 (by decide) (by decide) k) ?_
      refine own_step (T' := s₁) (f' := (mkF m 22 #[.val (.int p1), .val (.int (p1 ||| (32 : Int32))), .unset, .unset] [(.int (0 : Int32))])) (fun t k => XS.iconst X0.here hx rfl (hb hby d2_21) k) ?_
      refine own_step (T' := s₁) (f' := (mkF m 23 #[.val (.int p1), .val (.int (p1 ||| (32 : Int32))), .val (.int (0 : Int32)), .unset] [])) (fun t k => XS.istoreN X0.here hx rfl (hb hby d2_22) rfl (l' := #[.val (.int p1), .val (.int (p1 ||| (32 : Int32))), .val (.int (0 : Int32)), .unset]) rfl k) ?_
      refine own_step (T' := s₁) (f' := (mkF m 24 #[.val (.int p1), .val (.int (p1 ||| (32 : Int32))), .val (.int (0 : Int32)), .unset] [(.int p1)])) (fun t k => XS.iloadN X0.here hx rfl (hb hby d2_23) rfl k) ?_
      refine own_step (T' := s₁) (f' := (mkF m 26 #[.val (.int p1), .val (.int (p1 ||| (32 : Int32))), .val (.int (0 : Int32)), .unset] [(.int (7 : Int32)), (.int p1)])) (fun t k => XS.bipush X0.here hx rfl (hb hby d2_24) k) ?_
      refine own_step (T' := s₁) (f' := (mkF m 27 #[.val (.int p1), .val (.int (p1 ||| (32 : Int32))), .val (.int (0 : Int32)), .unset] [(.int ((p1.toUInt32 >>> ((7 : Int32) &&& 31).toUInt32).toInt32))])) (fun t k => XS.iushr X0.here hx rfl (hb hby d2_26) rfl k) ?_
      refine own_step (T' := s₁) (f' := (mkF m 28 #[.val (.int p1), .val (.int (p1 ||| (32 : Int32))), .val (.int (0 : Int32)), .unset] [(.int (1 : Int32)), (.int ((p1.toUInt32 >>> ((7 : Int32) &&& 31).toUInt32).toInt32))])) (fun t k => XS.iconst X0.here hx rfl (hb hby d2_27) k) ?_
      by_cases hc28_8 : ((p1.toUInt32 >>> ((7 : Int32) &&& 31).toUInt32).toInt32) = (1 : Int32)
      · skip
        refine own_step (T' := s₁) (f' := (mkF m 31 #[.val (.int p1), .val (.int (p1 ||| (32 : Int32))), .val (.int (0 : Int32)), .unset] [])) (fun t k => XS.icmpNo X0.here hx rfl (hb hby d2_28) rfl (teq hc28_8).2 k) ?_
        refine own_step (T' := s₁) (f' := (mkF m 32 #[.val (.int p1), .val (.int (p1 ||| (32 : Int32))), .val (.int (0 : Int32)), .unset] [(.int (1 : Int32))])) (fun t k => XS.iconst X0.here hx rfl (hb hby d2_31) k) ?_
        refine own_step (T' := s₁) (f' := (mkF m 36 #[.val (.int p1), .val (.int (p1 ||| (32 : Int32))), .val (.int (0 : Int32)), .unset] [(.int (1 : Int32))])) (fun t k => XS.goto X0.here hx rfl (pc0 := 32) (pc' := 36) rfl (hb hby d2_32) (by decide) (by decide) k) ?_
        refine own_step (T' := s₁) (f' := (mkF m 37 #[.val (.int p1), .val (.int (p1 ||| (32 : Int32))), .val (.int (0 : Int32)), .val (.int (1 : Int32))] [])) (fun t k => XS.istoreN X0.here hx rfl (hb hby d2_36) rfl (l' := #[.val (.int p1), .val (.int (p1 ||| (32 : Int32))), .val (.int (0 : Int32)), .val (.int (1 : Int32))]) rfl k) ?_
        refine own_step (T' := s₁) (f' := (mkF m 38 #[.val (.int p1), .val (.int (p1 ||| (32 : Int32))), .val (.int (0 : Int32)), .val (.int (1 : Int32))] [(.int (0 : Int32))])) (fun t k => XS.iloadN X0.here hx rfl (hb hby d2_37) rfl k) ?_
        refine own_step (T' := s₁) (f' := (mkF m 41 #[.val (.int p1), .val (.int (p1 ||| (32 : Int32))), .val (.int (0 : Int32)), .val (.int (1 : Int32))] [])) (fun t k => XS.ifNo X0.here hx rfl (hb hby d2_38) rfl ((if0 _ _).trans (teq (by decide : (0 : Int32) = (0 : Int32))).2) k) ?_
        refine own_step (T' := s₁) (f' := (mkF m 42 #[.val (.int p1), .val (.int (p1 ||| (32 : Int32))), .val (.int (0 : Int32)), .val (.int (1 : Int32))] [(.int p1)])) (fun t k => XS.iloadN X0.here hx rfl (hb hby d2_41) rfl k) ?_
        refine own_step (T' := s₁) (f' := (mkF m 44 #[.val (.int p1), .val (.int (p1 ||| (32 : Int32))), .val (.int (0 : Int32)), .val (.int (1 : Int32))] [(.int (95 : Int32)), (.int p1)])) (fun t k => XS.bipush X0.here hx rfl (hb hby d2_42) k) ?_
        by_cases hc44_9 : p1 = (95 : Int32)
        · skip
          refine own_step (T' := s₁) (f' := (mkF m 57 #[.val (.int p1), .val (.int (p1 ||| (32 : Int32))), .val (.int (0 : Int32)), .val (.int (1 : Int32))] [])) (fun t k => XS.icmpYes X0.here hx rfl (pc0 := 44) (pc' := 57) rfl (hb hby d2_44) rfl (teq hc44_9).1 (by decide) (by decide) k) ?_
          refine own_step (T' := s₁) (f' := (mkF m 58 #[.val (.int p1), .val (.int (p1 ||| (32 : Int32))), .val (.int (0 : Int32)), .val (.int (1 : Int32))] [(.int (1 : Int32))])) (fun t k => XS.iconst X0.here hx rfl (hb hby d2_57) k) ?_
          refine own_step (T' := s₁) (f' := (mkF m 62 #[.val (.int p1), .val (.int (p1 ||| (32 : Int32))), .val (.int (0 : Int32)), .val (.int (1 : Int32))] [(.int (1 : Int32))])) (fun t k => XS.goto X0.here hx rfl (pc0 := 58) (pc' := 62) rfl (hb hby d2_58) (by decide) (by decide) k) ?_
          exact own_retN X0 hx hlk (t := .boolean) Bd.returns (by simp) (hb hby d2_62) (by decide) (by decide) ⟨by unfold own_expected; rw [if_neg hc8_1, if_pos hc14_7, if_pos hc28_8, if_pos hc44_9]; try rfl, N0, e0⟩
        · skip
          refine own_step (T' := s₁) (f' := (mkF m 47 #[.val (.int p1), .val (.int (p1 ||| (32 : Int32))), .val (.int (0 : Int32)), .val (.int (1 : Int32))] [])) (fun t k => XS.icmpNo X0.here hx rfl (hb hby d2_44) rfl (feq hc44_9).1 k) ?_
          refine own_step (T' := s₁) (f' := (mkF m 48 #[.val (.int p1), .val (.int (p1 ||| (32 : Int32))), .val (.int (0 : Int32)), .val (.int (1 : Int32))] [(.int p1)])) (fun t k => XS.iloadN X0.here hx rfl (hb hby d2_47) rfl k) ?_
          refine own_step (T' := s₁) (f' := (mkF m 50 #[.val (.int p1), .val (.int (p1 ||| (32 : Int32))), .val (.int (0 : Int32)), .val (.int (1 : Int32))] [(.int (36 : Int32)), (.int p1)])) (fun t k => XS.bipush X0.here hx rfl (hb hby d2_48) k) ?_
          by_cases hc50_10 : p1 = (36 : Int32)
          · skip
            refine own_step (T' := s₁) (f' := (mkF m 57 #[.val (.int p1), .val (.int (p1 ||| (32 : Int32))), .val (.int (0 : Int32)), .val (.int (1 : Int32))] [])) (fun t k => XS.icmpYes X0.here hx rfl (pc0 := 50) (pc' := 57) rfl (hb hby d2_50) rfl (teq hc50_10).1 (by decide) (by decide) k) ?_
            refine own_step (T' := s₁) (f' := (mkF m 58 #[.val (.int p1), .val (.int (p1 ||| (32 : Int32))), .val (.int (0 : Int32)), .val (.int (1 : Int32))] [(.int (1 : Int32))])) (fun t k => XS.iconst X0.here hx rfl (hb hby d2_57) k) ?_
            refine own_step (T' := s₁) (f' := (mkF m 62 #[.val (.int p1), .val (.int (p1 ||| (32 : Int32))), .val (.int (0 : Int32)), .val (.int (1 : Int32))] [(.int (1 : Int32))])) (fun t k => XS.goto X0.here hx rfl (pc0 := 58) (pc' := 62) rfl (hb hby d2_58) (by decide) (by decide) k) ?_
            exact own_retN X0 hx hlk (t := .boolean) Bd.returns (by simp) (hb hby d2_62) (by decide) (by decide) ⟨by unfold own_expected; rw [if_neg hc8_1, if_pos hc14_7, if_pos hc28_8, if_neg hc44_9, if_pos hc50_10]; try rfl, N0, e0⟩
          · skip
            refine own_step (T' := s₁) (f' := (mkF m 53 #[.val (.int p1), .val (.int (p1 ||| (32 : Int32))), .val (.int (0 : Int32)), .val (.int (1 : Int32))] [])) (fun t k => XS.icmpNo X0.here hx rfl (hb hby d2_50) rfl (feq hc50_10).1 k) ?_
            refine own_step (T' := s₁) (f' := (mkF m 54 #[.val (.int p1), .val (.int (p1 ||| (32 : Int32))), .val (.int (0 : Int32)), .val (.int (1 : Int32))] [(.int (1 : Int32))])) (fun t k => XS.iloadN X0.here hx rfl (hb hby d2_53) rfl k) ?_
            refine own_step (T' := s₁) (f' := (mkF m 57 #[.val (.int p1), .val (.int (p1 ||| (32 : Int32))), .val (.int (0 : Int32)), .val (.int (1 : Int32))] [])) (fun t k => XS.ifNo X0.here hx rfl (hb hby d2_54) rfl ((if0 _ _).trans (feq (by decide : ¬ ((1 : Int32) = (0 : Int32)))).1) k) ?_
            refine own_step (T' := s₁) (f' := (mkF m 58 #[.val (.int p1), .val (.int (p1 ||| (32 : Int32))), .val (.int (0 : Int32)), .val (.int (1 : Int32))] [(.int (1 : Int32))])) (fun t k => XS.iconst X0.here hx rfl (hb hby d2_57) k) ?_
            refine own_step (T' := s₁) (f' := (mkF m 62 #[.val (.int p1), .val (.int (p1 ||| (32 : Int32))), .val (.int (0 : Int32)), .val (.int (1 : Int32))] [(.int (1 : Int32))])) (fun t k => XS.goto X0.here hx rfl (pc0 := 58) (pc' := 62) rfl (hb hby d2_58) (by decide) (by decide) k) ?_
            exact own_retN X0 hx hlk (t := .boolean) Bd.returns (by simp) (hb hby d2_62) (by decide) (by decide) ⟨by unfold own_expected; rw [if_neg hc8_1, if_pos hc14_7, if_pos hc28_8, if_neg hc44_9, if_neg hc50_10]; try rfl, N0, e0⟩
      · skip
        refine own_step (T' := s₁) (f' := (mkF m 35 #[.val (.int p1), .val (.int (p1 ||| (32 : Int32))), .val (.int (0 : Int32)), .unset] [])) (fun t k => XS.icmpYes X0.here hx rfl (pc0 := 28) (pc' := 35) rfl (hb hby d2_28) rfl (feq hc28_8).2 (by decide) (by decide) k) ?_
        refine own_step (T' := s₁) (f' := (mkF m 36 #[.val (.int p1), .val (.int (p1 ||| (32 : Int32))), .val (.int (0 : Int32)), .unset] [(.int (0 : Int32))])) (fun t k => XS.iconst X0.here hx rfl (hb hby d2_35) k) ?_
        refine own_step (T' := s₁) (f' := (mkF m 37 #[.val (.int p1), .val (.int (p1 ||| (32 : Int32))), .val (.int (0 : Int32)), .val (.int (0 : Int32))] [])) (fun t k => XS.istoreN X0.here hx rfl (hb hby d2_36) rfl (l' := #[.val (.int p1), .val (.int (p1 ||| (32 : Int32))), .val (.int (0 : Int32)), .val (.int (0 : Int32))]) rfl k) ?_
        refine own_step (T' := s₁) (f' := (mkF m 38 #[.val (.int p1), .val (.int (p1 ||| (32 : Int32))), .val (.int (0 : Int32)), .val (.int (0 : Int32))] [(.int (0 : Int32))])) (fun t k => XS.iloadN X0.here hx rfl (hb hby d2_37) rfl k) ?_
        refine own_step (T' := s₁) (f' := (mkF m 41 #[.val (.int p1), .val (.int (p1 ||| (32 : Int32))), .val (.int (0 : Int32)), .val (.int (0 : Int32))] [])) (fun t k => XS.ifNo X0.here hx rfl (hb hby d2_38) rfl ((if0 _ _).trans (teq (by decide : (0 : Int32) = (0 : Int32))).2) k) ?_
        refine own_step (T' := s₁) (f' := (mkF m 42 #[.val (.int p1), .val (.int (p1 ||| (32 : Int32))), .val (.int (0 : Int32)), .val (.int (0 : Int32))] [(.int p1)])) (fun t k => XS.iloadN X0.here hx rfl (hb hby d2_41) rfl k) ?_
        refine own_step (T' := s₁) (f' := (mkF m 44 #[.val (.int p1), .val (.int (p1 ||| (32 : Int32))), .val (.int (0 : Int32)), .val (.int (0 : Int32))] [(.int (95 : Int32)), (.int p1)])) (fun t k => XS.bipush X0.here hx rfl (hb hby d2_42) k) ?_
        by_cases hc44_11 : p1 = (95 : Int32)
        · skip
          refine own_step (T' := s₁) (f' := (mkF m 57 #[.val (.int p1), .val (.int (p1 ||| (32 : Int32))), .val (.int (0 : Int32)), .val (.int (0 : Int32))] [])) (fun t k => XS.icmpYes X0.here hx rfl (pc0 := 44) (pc' := 57) rfl (hb hby d2_44) rfl (teq hc44_11).1 (by decide) (by decide) k) ?_
          refine own_step (T' := s₁) (f' := (mkF m 58 #[.val (.int p1), .val (.int (p1 ||| (32 : Int32))), .val (.int (0 : Int32)), .val (.int (0 : Int32))] [(.int (1 : Int32))])) (fun t k => XS.iconst X0.here hx rfl (hb hby d2_57) k) ?_
          refine own_step (T' := s₁) (f' := (mkF m 62 #[.val (.int p1), .val (.int (p1 ||| (32 : Int32))), .val (.int (0 : Int32)), .val (.int (0 : Int32))] [(.int (1 : Int32))])) (fun t k => XS.goto X0.here hx rfl (pc0 := 58) (pc' := 62) rfl (hb hby d2_58) (by decide) (by decide) k) ?_
          exact own_retN X0 hx hlk (t := .boolean) Bd.returns (by simp) (hb hby d2_62) (by decide) (by decide) ⟨by unfold own_expected; rw [if_neg hc8_1, if_pos hc14_7, if_neg hc28_8, if_pos hc44_11]; try rfl, N0, e0⟩
        · skip
          refine own_step (T' := s₁) (f' := (mkF m 47 #[.val (.int p1), .val (.int (p1 ||| (32 : Int32))), .val (.int (0 : Int32)), .val (.int (0 : Int32))] [])) (fun t k => XS.icmpNo X0.here hx rfl (hb hby d2_44) rfl (feq hc44_11).1 k) ?_
          refine own_step (T' := s₁) (f' := (mkF m 48 #[.val (.int p1), .val (.int (p1 ||| (32 : Int32))), .val (.int (0 : Int32)), .val (.int (0 : Int32))] [(.int p1)])) (fun t k => XS.iloadN X0.here hx rfl (hb hby d2_47) rfl k) ?_
          refine own_step (T' := s₁) (f' := (mkF m 50 #[.val (.int p1), .val (.int (p1 ||| (32 : Int32))), .val (.int (0 : Int32)), .val (.int (0 : Int32))] [(.int (36 : Int32)), (.int p1)])) (fun t k => XS.bipush X0.here hx rfl (hb hby d2_48) k) ?_
          by_cases hc50_12 : p1 = (36 : Int32)
          · skip
            refine own_step (T' := s₁) (f' := (mkF m 57 #[.val (.int p1), .val (.int (p1 ||| (32 : Int32))), .val (.int (0 : Int32)), .val (.int (0 : Int32))] [])) (fun t k => XS.icmpYes X0.here hx rfl (pc0 := 50) (pc' := 57) rfl (hb hby d2_50) rfl (teq hc50_12).1 (by decide) (by decide) k) ?_
            refine own_step (T' := s₁) (f' := (mkF m 58 #[.val (.int p1), .val (.int (p1 ||| (32 : Int32))), .val (.int (0 : Int32)), .val (.int (0 : Int32))] [(.int (1 : Int32))])) (fun t k => XS.iconst X0.here hx rfl (hb hby d2_57) k) ?_
            refine own_step (T' := s₁) (f' := (mkF m 62 #[.val (.int p1), .val (.int (p1 ||| (32 : Int32))), .val (.int (0 : Int32)), .val (.int (0 : Int32))] [(.int (1 : Int32))])) (fun t k => XS.goto X0.here hx rfl (pc0 := 58) (pc' := 62) rfl (hb hby d2_58) (by decide) (by decide) k) ?_
            exact own_retN X0 hx hlk (t := .boolean) Bd.returns (by simp) (hb hby d2_62) (by decide) (by decide) ⟨by unfold own_expected; rw [if_neg hc8_1, if_pos hc14_7, if_neg hc28_8, if_neg hc44_11, if_pos hc50_12]; try rfl, N0, e0⟩
          · skip
            refine own_step (T' := s₁) (f' := (mkF m 53 #[.val (.int p1), .val (.int (p1 ||| (32 : Int32))), .val (.int (0 : Int32)), .val (.int (0 : Int32))] [])) (fun t k => XS.icmpNo X0.here hx rfl (hb hby d2_50) rfl (feq hc50_12).1 k) ?_
            refine own_step (T' := s₁) (f' := (mkF m 54 #[.val (.int p1), .val (.int (p1 ||| (32 : Int32))), .val (.int (0 : Int32)), .val (.int (0 : Int32))] [(.int (0 : Int32))])) (fun t k => XS.iloadN X0.here hx rfl (hb hby d2_53) rfl k) ?_
            refine own_step (T' := s₁) (f' := (mkF m 61 #[.val (.int p1), .val (.int (p1 ||| (32 : Int32))), .val (.int (0 : Int32)), .val (.int (0 : Int32))] [])) (fun t k => XS.ifYes X0.here hx rfl (pc0 := 54) (pc' := 61) rfl (hb hby d2_54) rfl ((if0 _ _).trans (teq (by decide : (0 : Int32) = (0 : Int32))).1) (by decide) (by decide) k) ?_
            refine own_step (T' := s₁) (f' := (mkF m 62 #[.val (.int p1), .val (.int (p1 ||| (32 : Int32))), .val (.int (0 : Int32)), .val (.int (0 : Int32))] [(.int (0 : Int32))])) (fun t k => XS.iconst X0.here hx rfl (hb hby d2_61) k) ?_
            exact own_retN X0 hx hlk (t := .boolean) Bd.returns (by simp) (hb hby d2_62) (by decide) (by decide) ⟨by unfold own_expected; rw [if_neg hc8_1, if_pos hc14_7, if_neg hc28_8, if_neg hc44_11, if_neg hc50_12]; try rfl, N0, e0⟩
    · skip
      refine own_step (T' := s₁) (f' := (mkF m 17 #[.val (.int p1), .val (.int (p1 ||| (32 : Int32))), .unset, .unset] [])) (fun t k => XS.icmpNo X0.here hx rfl (hb hby d2_14) rfl (flt hc14_7).2.2.1 k) ?_
      refine own_step (T' := s₁) (f' := (mkF m 18 #[.val (.int p1), .val (.int (p1 ||| (32 : Int32))), .unset, .unset] [(.int (1 : Int32))])) (fun t k => XS.iconst X0.here hx rfl (hb hby d2_17) k) ?_
      refine own_step (T' := s₁) (f' := (mkF m 22 #[.val (.int p1), .val (.int (p1 ||| (32 : Int32))), .unset, .unset] [(.int (1 : Int32))])) (fun t k => XS.goto X0.here hx rfl (pc0 := 18) (pc' := 22) rfl (hb hby d2_18) (by decide) (by decide) k) ?_
      refine own_step (T' := s₁) (f' := (mkF m 23 #[.val (.int p1), .val (.int (p1 ||| (32 : Int32))), .val (.int (1 : Int32)), .unset] [])) (fun t k => XS.istoreN X0.here hx rfl (hb hby d2_22) rfl (l' := #[.val (.int p1), .val (.int (p1 ||| (32 : Int32))), .val (.int (1 : Int32)), .unset]) rfl k) ?_
      refine own_step (T' := s₁) (f' := (mkF m 24 #[.val (.int p1), .val (.int (p1 ||| (32 : Int32))), .val (.int (1 : Int32)), .unset] [(.int p1)])) (fun t k => XS.iloadN X0.here hx rfl (hb hby d2_23) rfl k) ?_
      refine own_step (T' := s₁) (f' := (mkF m 26 #[.val (.int p1), .val (.int (p1 ||| (32 : Int32))), .val (.int (1 : Int32)), .unset] [(.int (7 : Int32)), (.int p1)])) (fun t k => XS.bipush X0.here hx rfl (hb hby d2_24) k) ?_
      refine own_step (T' := s₁) (f' := (mkF m 27 #[.val (.int p1), .val (.int (p1 ||| (32 : Int32))), .val (.int (1 : Int32)), .unset] [(.int ((p1.toUInt32 >>> ((7 : Int32) &&& 31).toUInt32).toInt32))])) (fun t k => XS.iushr X0.here hx rfl (hb hby d2_26) rfl k) ?_
      refine own_step (T' := s₁) (f' := (mkF m 28 #[.val (.int p1), .val (.int (p1 ||| (32 : Int32))), .val (.int (1 : Int32)), .unset] [(.int (1 : Int32)), (.int ((p1.toUInt32 >>> ((7 : Int32) &&& 31).toUInt32).toInt32))])) (fun t k => XS.iconst X0.here hx rfl (hb hby d2_27) k) ?_
      by_cases hc28_13 : ((p1.toUInt32 >>> ((7 : Int32) &&& 31).toUInt32).toInt32) = (1 : Int32)
      · skip
        refine own_step (T' := s₁) (f' := (mkF m 31 #[.val (.int p1), .val (.int (p1 ||| (32 : Int32))), .val (.int (1 : Int32)), .unset] [])) (fun t k => XS.icmpNo X0.here hx rfl (hb hby d2_28) rfl (teq hc28_13).2 k) ?_
        refine own_step (T' := s₁) (f' := (mkF m 32 #[.val (.int p1), .val (.int (p1 ||| (32 : Int32))), .val (.int (1 : Int32)), .unset] [(.int (1 : Int32))])) (fun t k => XS.iconst X0.here hx rfl (hb hby d2_31) k) ?_
        refine own_step (T' := s₁) (f' := (mkF m 36 #[.val (.int p1), .val (.int (p1 ||| (32 : Int32))), .val (.int (1 : Int32)), .unset] [(.int (1 : Int32))])) (fun t k => XS.goto X0.here hx rfl (pc0 := 32) (pc' := 36) rfl (hb hby d2_32) (by decide) (by decide) k) ?_
        refine own_step (T' := s₁) (f' := (mkF m 37 #[.val (.int p1), .val (.int (p1 ||| (32 : Int32))), .val (.int (1 : Int32)), .val (.int (1 : Int32))] [])) (fun t k => XS.istoreN X0.here hx rfl (hb hby d2_36) rfl (l' := #[.val (.int p1), .val (.int (p1 ||| (32 : Int32))), .val (.int (1 : Int32)), .val (.int (1 : Int32))]) rfl k) ?_
        refine own_step (T' := s₁) (f' := (mkF m 38 #[.val (.int p1), .val (.int (p1 ||| (32 : Int32))), .val (.int (1 : Int32)), .val (.int (1 : Int32))] [(.int (1 : Int32))])) (fun t k => XS.iloadN X0.here hx rfl (hb hby d2_37) rfl k) ?_
        refine own_step (T' := s₁) (f' := (mkF m 57 #[.val (.int p1), .val (.int (p1 ||| (32 : Int32))), .val (.int (1 : Int32)), .val (.int (1 : Int32))] [])) (fun t k => XS.ifYes X0.here hx rfl (pc0 := 38) (pc' := 57) rfl (hb hby d2_38) rfl ((if0 _ _).trans (feq (by decide : ¬ ((1 : Int32) = (0 : Int32)))).2) (by decide) (by decide) k) ?_
        refine own_step (T' := s₁) (f' := (mkF m 58 #[.val (.int p1), .val (.int (p1 ||| (32 : Int32))), .val (.int (1 : Int32)), .val (.int (1 : Int32))] [(.int (1 : Int32))])) (fun t k => XS.iconst X0.here hx rfl (hb hby d2_57) k) ?_
        refine own_step (T' := s₁) (f' := (mkF m 62 #[.val (.int p1), .val (.int (p1 ||| (32 : Int32))), .val (.int (1 : Int32)), .val (.int (1 : Int32))] [(.int (1 : Int32))])) (fun t k => XS.goto X0.here hx rfl (pc0 := 58) (pc' := 62) rfl (hb hby d2_58) (by decide) (by decide) k) ?_
        exact own_retN X0 hx hlk (t := .boolean) Bd.returns (by simp) (hb hby d2_62) (by decide) (by decide) ⟨by unfold own_expected; rw [if_neg hc8_1, if_neg hc14_7, if_pos hc28_13]; try rfl, N0, e0⟩
      · skip
        refine own_step (T' := s₁) (f' := (mkF m 35 #[.val (.int p1), .val (.int (p1 ||| (32 : Int32))), .val (.int (1 : Int32)), .unset] [])) (fun t k => XS.icmpYes X0.here hx rfl (pc0 := 28) (pc' := 35) rfl (hb hby d2_28) rfl (feq hc28_13).2 (by decide) (by decide) k) ?_
        refine own_step (T' := s₁) (f' := (mkF m 36 #[.val (.int p1), .val (.int (p1 ||| (32 : Int32))), .val (.int (1 : Int32)), .unset] [(.int (0 : Int32))])) (fun t k => XS.iconst X0.here hx rfl (hb hby d2_35) k) ?_
        refine own_step (T' := s₁) (f' := (mkF m 37 #[.val (.int p1), .val (.int (p1 ||| (32 : Int32))), .val (.int (1 : Int32)), .val (.int (0 : Int32))] [])) (fun t k => XS.istoreN X0.here hx rfl (hb hby d2_36) rfl (l' := #[.val (.int p1), .val (.int (p1 ||| (32 : Int32))), .val (.int (1 : Int32)), .val (.int (0 : Int32))]) rfl k) ?_
        refine own_step (T' := s₁) (f' := (mkF m 38 #[.val (.int p1), .val (.int (p1 ||| (32 : Int32))), .val (.int (1 : Int32)), .val (.int (0 : Int32))] [(.int (1 : Int32))])) (fun t k => XS.iloadN X0.here hx rfl (hb hby d2_37) rfl k) ?_
        refine own_step (T' := s₁) (f' := (mkF m 57 #[.val (.int p1), .val (.int (p1 ||| (32 : Int32))), .val (.int (1 : Int32)), .val (.int (0 : Int32))] [])) (fun t k => XS.ifYes X0.here hx rfl (pc0 := 38) (pc' := 57) rfl (hb hby d2_38) rfl ((if0 _ _).trans (feq (by decide : ¬ ((1 : Int32) = (0 : Int32)))).2) (by decide) (by decide) k) ?_
        refine own_step (T' := s₁) (f' := (mkF m 58 #[.val (.int p1), .val (.int (p1 ||| (32 : Int32))), .val (.int (1 : Int32)), .val (.int (0 : Int32))] [(.int (1 : Int32))])) (fun t k => XS.iconst X0.here hx rfl (hb hby d2_57) k) ?_
        refine own_step (T' := s₁) (f' := (mkF m 62 #[.val (.int p1), .val (.int (p1 ||| (32 : Int32))), .val (.int (1 : Int32)), .val (.int (0 : Int32))] [(.int (1 : Int32))])) (fun t k => XS.goto X0.here hx rfl (pc0 := 58) (pc' := 62) rfl (hb hby d2_58) (by decide) (by decide) k) ?_
        exact own_retN X0 hx hlk (t := .boolean) Bd.returns (by simp) (hb hby d2_62) (by decide) (by decide) ⟨by unfold own_expected; rw [if_neg hc8_1, if_neg hc14_7, if_neg hc28_13]; try rfl, N0, e0⟩

/-! the plain law: the two functions agree -/
theorem own_small : ∀ n : Fin 256, own_isLetter (Int32.ofNat n.val) = own_expected (Int32.ofNat n.val) := by decide +kernel
theorem own_or_neg (x : Int32) (h : x.toInt < 0) : (x ||| 32).toInt < 0 := by
  have h1 : (x ||| 32).toBitVec.msb = true := by
    rw [Int32.toBitVec_or, BitVec.msb_or]
    have : x.toBitVec.msb = true := by
      rw [BitVec.msb_eq_toInt]; exact decide_eq_true h
    rw [this]; rfl
  rw [BitVec.msb_eq_toInt] at h1
  exact of_decide_eq_true h1
theorem own_or_big (x : Int32) (h : 256 ≤ x.toInt) : 256 ≤ (x ||| 32).toInt := by
  have hx : x.toBitVec.msb = false := by
    rw [BitVec.msb_eq_toInt]; exact decide_eq_false (show ¬ x.toInt < 0 by omega)
  have h1 : (x ||| 32).toBitVec.msb = false := by
    rw [Int32.toBitVec_or, BitVec.msb_or, hx]; decide
  have e1 : x.toInt = (x.toBitVec.toNat : Int) := by
    show x.toBitVec.toInt = _; rw [BitVec.toInt_eq_msb_cond, hx]; simp
  have e2 : (x ||| 32).toInt = ((x ||| 32).toBitVec.toNat : Int) := by
    show (x ||| 32).toBitVec.toInt = _; rw [BitVec.toInt_eq_msb_cond, h1]; simp
  have e3 : (x ||| 32).toBitVec.toNat = x.toBitVec.toNat ||| 32 := by
    rw [Int32.toBitVec_or, BitVec.toNat_or]; rfl
  have := Nat.left_le_or (n := x.toBitVec.toNat) (m := 32)
  rw [e2, e3]; omega
theorem own_ushr (x : Int32) : ((x.toUInt32 >>> ((7 : Int32) &&& 31).toUInt32).toInt32 = 1) ↔ x.toBitVec.toNat / 128 = 1 := by
  have e : ((x.toUInt32 >>> ((7 : Int32) &&& 31).toUInt32).toInt32).toBitVec.toNat = x.toBitVec.toNat / 128 := by
    show (x.toUInt32 >>> ((7 : Int32) &&& 31).toUInt32).toNat = _
    rw [UInt32.toNat_shiftRight]
    have : ((7 : Int32) &&& 31).toUInt32.toNat % 32 = 7 := by decide
    rw [this, Nat.shiftRight_eq_div_pow]; rfl
  rw [← e]
  constructor
  · intro h; rw [h]; rfl
  · intro h
    apply Int32.toBitVec_inj.mp
    apply BitVec.eq_of_toNat_eq
    rw [h]; rfl
theorem own_law (x : Int32) : own_isLetter x = own_expected x := by
  by_cases hs : 0 ≤ x.toInt ∧ x.toInt < 256
  · have hx : x = Int32.ofNat x.toInt.toNat := by
      apply Int32.toInt_inj.mp
      rw [Int32.toInt_ofNat_of_lt (by omega)]; omega
    have := own_small ⟨x.toInt.toNat, by omega⟩
    simp only at this
    rwa [← hx] at this
  · have k97 : ((97 : Int32)).toInt = 97 := rfl
    have k122 : ((122 : Int32)).toInt = 122 := rfl
    have k65 : ((65 : Int32)).toInt = 65 := rfl
    have k90 : ((90 : Int32)).toInt = 90 := rfl
    have k95 : ((95 : Int32)).toInt = 95 := rfl
    have k36 : ((36 : Int32)).toInt = 36 := rfl
    have k128 : ((128 : Int32)).toInt = 128 := rfl
    have k255 : ((255 : Int32)).toInt = 255 := rfl
    have n95 : ¬ x = 95 := fun q => by subst q; omega
    have n36 : ¬ x = 36 := fun q => by subst q; omega
    have hsh : ¬ ((x.toUInt32 >>> ((7 : Int32) &&& 31).toUInt32).toInt32 = 1) := by
      rw [own_ushr]
      have e1 : x.toInt = if 2 * x.toBitVec.toNat < 2 ^ 32 then (x.toBitVec.toNat : Int) else (x.toBitVec.toNat : Int) - (2 ^ 32 : Nat) := BitVec.toInt_eq_toNat_cond _
      split at e1 <;> omega
    have hor : (x ||| 32) < 97 ∨ 122 < (x ||| 32) := by
      rw [Int32.lt_iff_toInt_lt, Int32.lt_iff_toInt_lt, k97, k122]
      rcases Decidable.em (x.toInt < 0) with q | q
      · left; have := own_or_neg x q; omega
      · right; have := own_or_big x (by omega); omega
    have hA : own_isLetter x = 0 := by
      unfold own_isLetter
      simp only [Int32.lt_iff_toInt_lt, k97, k122, k65, k90, k128, k255, n95, n36, if_false]
      rcases Decidable.em (x.toInt < 0) with q | q
      · have a1 : x.toInt < 97 := by omega
        have a2 : x.toInt < 65 := by omega
        have a3 : x.toInt < 128 := by omega
        simp only [a1, a2, a3, if_true]
      · have a1 : ¬ x.toInt < 97 := by omega
        have a2 : ¬ x.toInt < 65 := by omega
        have a3 : ¬ x.toInt < 128 := by omega
        have a4 : 122 < x.toInt := by omega
        have a5 : 90 < x.toInt := by omega
        have a6 : 255 < x.toInt := by omega
        simp only [a1, a2, a3, a4, a5, a6, if_true, if_false]
    have hB : own_expected x = 0 := by
      unfold own_expected
      simp only [hsh, n95, n36, if_false]
      rcases hor with q | q
      · simp only [q, if_true]
      · have : ¬ (x ||| 32) < 97 := by rw [Int32.lt_iff_toInt_lt] at q ⊢; omega
        simp only [q, this, if_true, if_false]
    rw [hA, hB]

theorem pn_0 : plainName "com/example/lit2/lit2/input/CwebSyntaxIsLetterPinLaw" = true := by first | (simp [plainName, overriddenIn]; done) | decide +kernel
theorem pd_0_0 : parseMethodDescriptor "(I)Z" = some ⟨[.int], some .boolean⟩ := by decide +kernel
theorem ef_rm0 (m : MethodId) (x0 : Int32) (x1 : Int32) : entryFrame m #[(.int x0), (.int x1)] maxLocals = mkF m 0 #[.val (.int x0), .val (.int x1), .unset] [] := by first | (simp [entryFrame, mkF, argsToLocals, Value.category, maxLocals]; done) | rfl
def Q0 (n0 : Nat) (v : Option Value) (h : Heap) (L : List Loc) : Prop := v = some (.int 1) ∧ Fr n0 L
set_option maxRecDepth 65536 in
set_option maxHeartbeats 40000000 in
theorem rm0 (l : Launch) (Z : State) (a0 : Array Value) (hw : ∀ d ∈ tables_1, d.before a0 Z = true) (ws : List Jvm.Cond) (p1 : Int32) (p2 : Int32) (h0 : Heap) (n0 : Nat) (Z0 : n0 ≤ h0.size)  :
    MetFree l x (head1 (Jvm.Cond.code x code maxLocals ret :: ws) room_1) (fun a U => a = #[(.int p1), (.int p2)] ∧ Z.Warmed39 U.vm ∧ U.heap = h0) (fun _ _ _ _ _ => True) (fun _ U o U' => ∃ v L, o = .returned v ∧ Q0 n0 v U'.heap L ∧ FrameEnd U o U' L room_1.cells room_1.slots) := by
  refine MetFree.of_bodySF (plainFor_of_name pn_0) hisR ?_
  intro p e s m args below meth c s₁ Bd hml0 hP hK
  obtain ⟨rfl, hZ, hh⟩ := hP
  have hx := Bd.exec
  have hby := Bd.bytes
  have hlk : meth.locks = false := BodyLoose.notSynchronized Bd
  have hml : c.maxLocals = 3 := hml0
  have hown : s.vm.findClass "com/example/lit2/lit2/input/CwebSyntaxIsLetterPinLaw" = some m.cls := findClass_of_methodNamed Bd.named
  have hnm := (name_of_methodNamed Bd.named Bd.method).1
  have X0 : Stand p l e room_1 s m #[(.int p1), (.int p2)] below meth c s₁ [] 0 0 := Stand.of_body Bd
  have e0 : s₁.heap = h0 := by rw [← hh, Bd.state]; rfl
  have N0 := Fr.nil n0
  show OwnEnds p e below s (Q0 n0) room_1.cells room_1.slots s₁ (entryFrame m #[(.int p1), (.int p2)] maxLocals)
  refine own_step (T' := s₁) (f' := (mkF m 0 #[.val (.int p1), .val (.int p2), .unset] [])) (fun t k => castTop (ef_rm0 m p1 p2) k) ?_
  refine own_step (T' := s₁) (f' := (mkF m 1 #[.val (.int p1), .val (.int p2), .unset] [(.int p2)])) (fun t k => XS.iloadN X0.here hx rfl (hb hby at_0) rfl k) ?_
  refine own_step (T' := s₁) (f' := (mkF m 2 #[.val (.int p1), .val (.int p2), .unset] [(.int (3 : Int32)), (.int p2)])) (fun t k => XS.iconst X0.here hx rfl (hb hby at_1) k) ?_
  refine own_step (T' := s₁) (f' := (mkF m 3 #[.val (.int p1), .val (.int p2), .unset] [(.int (p2 &&& (3 : Int32)))])) (fun t k => XS.iand X0.here hx rfl (hb hby at_2) rfl k) ?_
  by_cases hc3_1 : (p2 &&& (3 : Int32)) = (0 : Int32)
  · skip
    refine own_step (T' := s₁) (f' := (mkF m 6 #[.val (.int p1), .val (.int p2), .unset] [])) (fun t k => XS.ifNo X0.here hx rfl (hb hby at_3) rfl ((if0 _ _).trans (teq hc3_1).2) k) ?_
    refine own_step (T' := s₁) (f' := (mkF m 7 #[.val (.int p1), .val (.int p2), .unset] [(.int p1)])) (fun t k => XS.iloadN X0.here hx rfl (hb hby at_6) rfl k) ?_
    refine own_step (T' := s₁) (f' := (mkF m 18 #[.val (.int p1), .val (.int p2), .unset] [(.int p1)])) (fun t k => XS.goto X0.here hx rfl (pc0 := 7) (pc' := 18) rfl (hb hby at_7) (by decide) (by decide) k) ?_
    refine own_step (T' := s₁) (f' := (mkF m 19 #[.val (.int p1), .val (.int p2), .val (.int p1)] [])) (fun t k => XS.istoreN X0.here hx rfl (hb hby at_18) rfl (l' := #[.val (.int p1), .val (.int p2), .val (.int p1)]) rfl k) ?_
    refine own_step (T' := s₁) (f' := (mkF m 20 #[.val (.int p1), .val (.int p2), .val (.int p1)] [(.int p1)])) (fun t k => XS.iloadN X0.here hx rfl (hb hby at_19) rfl k) ?_
    obtain ⟨_, _, ⟨T2, L2, k2, n2⟩, -, X2, ⟨Lc2, hQ2, l2, y2, z2⟩, st2⟩ := Jvm.LawKit.callS X0 hx (y := (⟨"com/example/lit2/lit2/input/CwebSyntax", "isLetter", "(I)Z"⟩ : MethodName)) hown (mvT hZ (hw _ (List.mem_of_getElem? (i := 0) rfl))) (mvT hZ (hw _ (List.mem_of_getElem? (i := 1) rfl))) (mvT hZ (hw _ (List.mem_of_getElem? (i := 2) rfl))) (mvT hZ (hw _ (List.mem_of_getElem? (i := 3) rfl))) (by decide) (backOf (W := 0) (rm1 l Z a0 hw [] p1 h0 n0 Z0) hZ (hw _ (List.mem_of_getElem? (i := 3) rfl)) (hw _ (List.mem_of_getElem? (i := 2) rfl)) (by decide) (by decide)) (g := (mkF m 20 #[.val (.int p1), .val (.int p2), .val (.int p1)] [(.int p1)])) rfl (by rw [hml]; rfl) (argsL := [(.int p1)]) (rest := []) (lenOf pd_0_0 rfl) rfl (by show 2 * 0 + _ ≤ _; exact Nat.le_of_eq rfl) (hb hby at_20) (fun _ _ => ⟨rfl, e0, (by decide : 0 + 0 ≤ _), (by decide : 0 + 0 ≤ _)⟩)
    dsimp only [Pt.U, Pt.locs, Pt.cells, Pt.slots] at X2 l2 y2 z2 st2 hQ2
    subst l2 y2 z2
    obtain ⟨rfl, N2q, E2⟩ := hQ2
    have N2 := Fr.app N0 N2q
    refine own_step (T' := T2) (f' := (mkF m 23 #[.val (.int p1), .val (.int p2), .val (.int p1)] [(.int (own_isLetter p1))])) (fun t k => st2 t k) ?_
    refine own_step (T' := T2) (f' := (mkF m 24 #[.val (.int p1), .val (.int p2), .val (.int p1)] [(.int p1), (.int (own_isLetter p1))])) (fun t k => XS.iloadN X2.here hx rfl (hb hby at_23) rfl k) ?_
    obtain ⟨_, _, ⟨T3, L3, k3, n3⟩, -, X3, ⟨Lc3, hQ3, l3, y3, z3⟩, st3⟩ := Jvm.LawKit.callS X2 hx (y := (⟨"com/example/lit2/lit2/input/CwebSyntaxIsLetterPinLaw", "expected", "(I)Z"⟩ : MethodName)) hown (mvT hZ (hw _ (List.mem_of_getElem? (i := 4) rfl))) (mvT hZ (hw _ (List.mem_of_getElem? (i := 5) rfl))) (mvT hZ (hw _ (List.mem_of_getElem? (i := 6) rfl))) (mvT hZ (hw _ (List.mem_of_getElem? (i := 7) rfl))) (by decide) (backOf (W := 1) (rm2 l Z a0 hw [] p1 h0 n0 Z0) hZ (hw _ (List.mem_of_getElem? (i := 7) rfl)) (hw _ (List.mem_of_getElem? (i := 6) rfl)) (by decide) (by decide)) (g := (mkF m 24 #[.val (.int p1), .val (.int p2), .val (.int p1)] [(.int p1), (.int (own_isLetter p1))])) rfl (by rw [hml]; rfl) (argsL := [(.int p1)]) (rest := [(.int (own_isLetter p1))]) (lenOf pd_0_0 rfl) rfl (by show 2 * 0 + _ ≤ _; exact Nat.le_of_eq rfl) (hb hby at_24) (fun _ _ => ⟨rfl, E2, (by decide : 0 + 0 ≤ _), (by decide : 0 + 0 ≤ _)⟩)
    dsimp only [Pt.U, Pt.locs, Pt.cells, Pt.slots] at X3 l3 y3 z3 st3 hQ3
    subst l3 y3 z3
    obtain ⟨rfl, N3q, E3⟩ := hQ3
    have N3 := Fr.app N2 N3q
    refine own_step (T' := T3) (f' := (mkF m 27 #[.val (.int p1), .val (.int p2), .val (.int p1)] [(.int (own_expected p1)), (.int (own_isLetter p1))])) (fun t k => st3 t k) ?_
    refine own_step (T' := T3) (f' := (mkF m 30 #[.val (.int p1), .val (.int p2), .val (.int p1)] [])) (fun t k => XS.icmpNo X3.here hx rfl (hb hby at_27) rfl (teq (own_law _)).2 k) ?_
    refine own_step (T' := T3) (f' := (mkF m 31 #[.val (.int p1), .val (.int p2), .val (.int p1)] [(.int (1 : Int32))])) (fun t k => XS.iconst X3.here hx rfl (hb hby at_30) k) ?_
    refine own_step (T' := T3) (f' := (mkF m 35 #[.val (.int p1), .val (.int p2), .val (.int p1)] [(.int (1 : Int32))])) (fun t k => XS.goto X3.here hx rfl (pc0 := 31) (pc' := 35) rfl (hb hby at_31) (by decide) (by decide) k) ?_
    exact own_retN X3 hx hlk (t := .boolean) Bd.returns (by simp) (hb hby at_35) (by decide) (by decide) ⟨rfl, N3⟩
  · skip
    refine own_step (T' := s₁) (f' := (mkF m 10 #[.val (.int p1), .val (.int p2), .unset] [])) (fun t k => XS.ifYes X0.here hx rfl (pc0 := 3) (pc' := 10) rfl (hb hby at_3) rfl ((if0 _ _).trans (feq hc3_1).2) (by decide) (by decide) k) ?_
    refine own_step (T' := s₁) (f' := (mkF m 11 #[.val (.int p1), .val (.int p2), .unset] [(.int p1)])) (fun t k => XS.iloadN X0.here hx rfl (hb hby at_10) rfl k) ?_
    refine own_step (T' := s₁) (f' := (mkF m 14 #[.val (.int p1), .val (.int p2), .unset] [(.int (511 : Int32)), (.int p1)])) (fun t k => XS.sipush X0.here hx rfl (hb hby at_11) k) ?_
    refine own_step (T' := s₁) (f' := (mkF m 15 #[.val (.int p1), .val (.int p2), .unset] [(.int (p1 &&& (511 : Int32)))])) (fun t k => XS.iand X0.here hx rfl (hb hby at_14) rfl k) ?_
    refine own_step (T' := s₁) (f' := (mkF m 17 #[.val (.int p1), .val (.int p2), .unset] [(.int (64 : Int32)), (.int (p1 &&& (511 : Int32)))])) (fun t k => XS.bipush X0.here hx rfl (hb hby at_15) k) ?_
    refine own_step (T' := s₁) (f' := (mkF m 18 #[.val (.int p1), .val (.int p2), .unset] [(.int ((p1 &&& (511 : Int32)) - (64 : Int32)))])) (fun t k => XS.isub X0.here hx rfl (hb hby at_17) rfl k) ?_
    refine own_step (T' := s₁) (f' := (mkF m 19 #[.val (.int p1), .val (.int p2), .val (.int ((p1 &&& (511 : Int32)) - (64 : Int32)))] [])) (fun t k => XS.istoreN X0.here hx rfl (hb hby at_18) rfl (l' := #[.val (.int p1), .val (.int p2), .val (.int ((p1 &&& (511 : Int32)) - (64 : Int32)))]) rfl k) ?_
    refine own_step (T' := s₁) (f' := (mkF m 20 #[.val (.int p1), .val (.int p2), .val (.int ((p1 &&& (511 : Int32)) - (64 : Int32)))] [(.int ((p1 &&& (511 : Int32)) - (64 : Int32)))])) (fun t k => XS.iloadN X0.here hx rfl (hb hby at_19) rfl k) ?_
    obtain ⟨_, _, ⟨T4, L4, k4, n4⟩, -, X4, ⟨Lc4, hQ4, l4, y4, z4⟩, st4⟩ := Jvm.LawKit.callS X0 hx (y := (⟨"com/example/lit2/lit2/input/CwebSyntax", "isLetter", "(I)Z"⟩ : MethodName)) hown (mvT hZ (hw _ (List.mem_of_getElem? (i := 0) rfl))) (mvT hZ (hw _ (List.mem_of_getElem? (i := 1) rfl))) (mvT hZ (hw _ (List.mem_of_getElem? (i := 2) rfl))) (mvT hZ (hw _ (List.mem_of_getElem? (i := 3) rfl))) (by decide) (backOf (W := 0) (rm1 l Z a0 hw [] ((p1 &&& (511 : Int32)) - (64 : Int32)) h0 n0 Z0) hZ (hw _ (List.mem_of_getElem? (i := 3) rfl)) (hw _ (List.mem_of_getElem? (i := 2) rfl)) (by decide) (by decide)) (g := (mkF m 20 #[.val (.int p1), .val (.int p2), .val (.int ((p1 &&& (511 : Int32)) - (64 : Int32)))] [(.int ((p1 &&& (511 : Int32)) - (64 : Int32)))])) rfl (by rw [hml]; rfl) (argsL := [(.int ((p1 &&& (511 : Int32)) - (64 : Int32)))]) (rest := []) (lenOf pd_0_0 rfl) rfl (by show 2 * 0 + _ ≤ _; exact Nat.le_of_eq rfl) (hb hby at_20) (fun _ _ => ⟨rfl, e0, (by decide : 0 + 0 ≤ _), (by decide : 0 + 0 ≤ _)⟩)
    dsimp only [Pt.U, Pt.locs, Pt.cells, Pt.slots] at X4 l4 y4 z4 st4 hQ4
    subst l4 y4 z4
    obtain ⟨rfl, N4q, E4⟩ := hQ4
    have N4 := Fr.app N0 N4q
    refine own_step (T' := T4) (f' := (mkF m 23 #[.val (.int p1), .val (.int p2), .val (.int ((p1 &&& (511 : Int32)) - (64 : Int32)))] [(.int (own_isLetter ((p1 &&& (511 : Int32)) - (64 : Int32))))])) (fun t k => st4 t k) ?_
    refine own_step (T' := T4) (f' := (mkF m 24 #[.val (.int p1), .val (.int p2), .val (.int ((p1 &&& (511 : Int32)) - (64 : Int32)))] [(.int ((p1 &&& (511 : Int32)) - (64 : Int32))), (.int (own_isLetter ((p1 &&& (511 : Int32)) - (64 : Int32))))])) (fun t k => XS.iloadN X4.here hx rfl (hb hby at_23) rfl k) ?_
    obtain ⟨_, _, ⟨T5, L5, k5, n5⟩, -, X5, ⟨Lc5, hQ5, l5, y5, z5⟩, st5⟩ := Jvm.LawKit.callS X4 hx (y := (⟨"com/example/lit2/lit2/input/CwebSyntaxIsLetterPinLaw", "expected", "(I)Z"⟩ : MethodName)) hown (mvT hZ (hw _ (List.mem_of_getElem? (i := 4) rfl))) (mvT hZ (hw _ (List.mem_of_getElem? (i := 5) rfl))) (mvT hZ (hw _ (List.mem_of_getElem? (i := 6) rfl))) (mvT hZ (hw _ (List.mem_of_getElem? (i := 7) rfl))) (by decide) (backOf (W := 1) (rm2 l Z a0 hw [] ((p1 &&& (511 : Int32)) - (64 : Int32)) h0 n0 Z0) hZ (hw _ (List.mem_of_getElem? (i := 7) rfl)) (hw _ (List.mem_of_getElem? (i := 6) rfl)) (by decide) (by decide)) (g := (mkF m 24 #[.val (.int p1), .val (.int p2), .val (.int ((p1 &&& (511 : Int32)) - (64 : Int32)))] [(.int ((p1 &&& (511 : Int32)) - (64 : Int32))), (.int (own_isLetter ((p1 &&& (511 : Int32)) - (64 : Int32))))])) rfl (by rw [hml]; rfl) (argsL := [(.int ((p1 &&& (511 : Int32)) - (64 : Int32)))]) (rest := [(.int (own_isLetter ((p1 &&& (511 : Int32)) - (64 : Int32))))]) (lenOf pd_0_0 rfl) rfl (by show 2 * 0 + _ ≤ _; exact Nat.le_of_eq rfl) (hb hby at_24) (fun _ _ => ⟨rfl, E4, (by decide : 0 + 0 ≤ _), (by decide : 0 + 0 ≤ _)⟩)
    dsimp only [Pt.U, Pt.locs, Pt.cells, Pt.slots] at X5 l5 y5 z5 st5 hQ5
    subst l5 y5 z5
    obtain ⟨rfl, N5q, E5⟩ := hQ5
    have N5 := Fr.app N4 N5q
    refine own_step (T' := T5) (f' := (mkF m 27 #[.val (.int p1), .val (.int p2), .val (.int ((p1 &&& (511 : Int32)) - (64 : Int32)))] [(.int (own_expected ((p1 &&& (511 : Int32)) - (64 : Int32)))), (.int (own_isLetter ((p1 &&& (511 : Int32)) - (64 : Int32))))])) (fun t k => st5 t k) ?_
    refine own_step (T' := T5) (f' := (mkF m 30 #[.val (.int p1), .val (.int p2), .val (.int ((p1 &&& (511 : Int32)) - (64 : Int32)))] [])) (fun t k => XS.icmpNo X5.here hx rfl (hb hby at_27) rfl (teq (own_law _)).2 k) ?_
    refine own_step (T' := T5) (f' := (mkF m 31 #[.val (.int p1), .val (.int p2), .val (.int ((p1 &&& (511 : Int32)) - (64 : Int32)))] [(.int (1 : Int32))])) (fun t k => XS.iconst X5.here hx rfl (hb hby at_30) k) ?_
    refine own_step (T' := T5) (f' := (mkF m 35 #[.val (.int p1), .val (.int p2), .val (.int ((p1 &&& (511 : Int32)) - (64 : Int32)))] [(.int (1 : Int32))])) (fun t k => XS.goto X5.here hx rfl (pc0 := 31) (pc' := 35) rfl (hb hby at_31) (by decide) (by decide) k) ?_
    exact own_retN X5 hx hlk (t := .boolean) Bd.returns (by simp) (hb hby at_35) (by decide) (by decide) ⟨rfl, N5⟩

set_option maxRecDepth 65536 in
set_option maxHeartbeats 40000000 in
theorem comes_1 {Post : Tables → Env → Array Value → State → Outcome → State → Prop} (hpost : ∀ tb e args s v u, (limb_1_1.after args s (.returned v) u = true ∧ limb_1_2.after args s (.returned v) u = true ∧ True) → FrameEnd s (.returned v) u (Jvm.fieldLocs frame_1_writes args s ++ Jvm.arrayLocs frame_1_arrays args s ++ Jvm.staticLocs frame_1_statics s) 0 0 → Post tb e args s (.returned v) u) :
    ArmFor flags0 classFile x code maxLocals ret World_1 tables_1 room_1 Calls_1 rest_1 Pre_1 Post := by
  intro l hfl _ _ p e ha hc hk s m args below hf hA hF happ hP
  obtain ⟨hcalls, hrest, hpre⟩ := hP
  obtain ⟨-, -, -, hnamed, -, -, -, hat⟩ := (Spec.applies_iff hf).mp happ
  obtain ⟨hg, hn⟩ := and_e (Cond.before_iff.mp (show (Jvm.Cond.and given_1 narrow_1).before args s = true from hpre))
  obtain ⟨hcnt, hg0⟩ := and_e hg
  obtain ⟨ga0, hg1⟩ := and_e hg0
  have ga1 := hg1
  obtain ⟨w0, w1, rfl⟩ : ∃ w0 w1 : Value, args = #[w0, w1] := by
    have hs : args.size = 2 := by simpa [Cond.value, given_1] using hcnt
    obtain ⟨L⟩ := args
    match L, hs with
    | [w0, w1], _ => exact ⟨w0, w1, rfl⟩
  have hw := fun d (hd : d ∈ tables_1) => atoms_spec (ws := Jvm.Cond.code x code maxLocals ret :: tables_1) hat d (List.mem_cons_of_mem _ hd)
  obtain ⟨i0, ei0⟩ := is_v ga0
  obtain rfl : w0 = (.int i0) := Option.some.inj ei0
  obtain ⟨i1, ei1⟩ := is_v ga1
  obtain rfl : w1 = (.int i1) := Option.some.inj ei1
  obtain ⟨n, o, h1, h2, h3, _, L, rfl, ⟨rfl, N⟩, hq⟩ := rm0 l s _ hw tables_1 i0 i1 s.heap s.heap.size (Nat.le_refl _) p e ha hc hk s m _ below hf ((Spec.applies_iff_loose hf).mp happ).1 ⟨rfl, State.Warmed39.refl s, rfl⟩ trivial
  refine ⟨n, _, h1, h2, h3, hpost _ _ _ _ _ _ ⟨Cond.after_iff.mpr rfl, Cond.after_iff.mpr (eq_i res_at (Term.int_eval (1)) rfl), trivial⟩ ⟨hq.1, hq.2.1, (hq.2.2.sift fun y hy => Or.inr (N y hy)).mono (by decide) (by decide)⟩⟩
theorem main_1_1 : Claimed_1_1 := comes_1 fun _ _ _ _ _ _ h hF => ⟨h.1, hF⟩
theorem main_1_2 : Claimed_1_2 := comes_1 fun _ _ _ _ _ _ h hF => ⟨h.2.1, hF⟩
end Jvm.Pilot.@@N@@
namespace Jvm.Pilot.@@N@@
open Jvm Jvm.ClassFile Sem Op Lib Jvm.Free Jvm.Stand Jvm.Pilot.@@N@@.Jvm.D
/-! MADE BY PROGRAM (witnessworld.py) out of the Statement's table words and the real class files: 9 classes; the members and pool entries that the words name. The judged class is class 1, her method 2. -/
namespace start1
open Jvm.ClassFile
def u (s : String) : CpInfo := .utf8 (stringToUtf16 s)
/-- a pool by its gaps: so many unusable entries, then the entry; so many at the end -/
def gap : Nat → List CpInfo → List CpInfo
  | 0, r => r
  | n + 1, r => .unusable :: gap n r
def poolList (es : List (Nat × CpInfo)) (last : Nat) : List CpInfo := es.foldr (fun e r => gap e.1 (e.2 :: r)) (gap last [])
def pool (es : List (Nat × CpInfo)) (last : Nat) : Array CpInfo := ⟨poolList es last⟩
def fileOf (pool : Array CpInfo) (this : Nat) (attrs : Array Attribute := #[]) (ms : Array MethodInfo := #[]) (fl : Nat := 33) (sup : Nat := 0) (ifs : Array Nat := #[]) (fds : Array FieldInfo := #[]) : ClassFile where
  minorVersion := 0
  majorVersion := 65
  constantPool := pool
  accessFlags := fl
  thisClass := this
  superClass := sup
  interfaces := ifs
  fields := fds
  methods := ms
  attributes := attrs
def plain (name : String) (sup : Option ClassId) : Class where
  name := name
  kind := .ordinary
  loader := none
  accessFlags := 33
  super := sup
  interfaces := #[]
  cf := none
  fields := #[]
  methods := #[]
  instanceTypes := #[]
  staticTypes := #[]
  resolved := #[]
  callSites := []
  init := .initialized
  statics := none
  mirror := none

def pool0 : Array CpInfo := pool [(5, u "<init>"), (0, u "()V"), (1, .class_ 10), (1, u "java/lang/Object")] 113

def k0m0 : Method := { name := "<init>", desc := "()V", sig := { parameters := [], returnType := none }, accessFlags := 1, code := none }
/-- java/lang/Object -/
def k0 : Class := { plain "java/lang/Object" none with
  accessFlags := 33
  interfaces := #[]
  cf := some (fileOf pool0 8 #[] #[{ accessFlags := 1, nameIndex := 5, descriptorIndex := 6, attributes := #[] }] 33 0 #[] #[])
  fields := #[]
  methods := #[k0m0]
  instanceTypes := #[]
  staticTypes := #[]
  resolved := Array.replicate 124 none
  statics := none }

def pool1 : Array CpInfo := pool [(2, .class_ 4), (1, u "java/lang/Object"), (0, u "<init>"), (0, u "()V"), (0, .methodref 8 9), (0, .class_ 10), (0, .nameAndType 11 12), (0, u "com/example/lit2/lit2/input/CwebSyntax"), (0, u "isLetter"), (0, u "(I)Z"), (0, .methodref 14 15), (0, .class_ 16), (0, .nameAndType 17 12), (0, u "com/example/lit2/lit2/input/CwebSyntaxIsLetterPinLaw"), (0, u "expected"), (3, u "law"), (0, u "(II)Z")] 2

def k1m0 : Method := { name := "<init>", desc := "()V", sig := { parameters := [], returnType := none }, accessFlags := 2, code := none }
def k1c1 : Code := { maxStack := 2, maxLocals := 4, code := method_2_code, exceptionTable := #[], attributes := #[] }
def k1m1 : Method := { name := "expected", desc := "(I)Z", sig := { parameters := [.int], returnType := some .boolean }, accessFlags := 10, code := some k1c1 }
def k1c2 : Code := { maxStack := 2, maxLocals := 3, code := code, exceptionTable := #[], attributes := #[] }
def k1m2 : Method := { name := "law", desc := "(II)Z", sig := { parameters := [.int, .int], returnType := some .boolean }, accessFlags := 9, code := some k1c2 }
/-- com/example/lit2/lit2/input/CwebSyntaxIsLetterPinLaw -/
def k1 : Class := { plain "com/example/lit2/lit2/input/CwebSyntaxIsLetterPinLaw" (some 0) with
  accessFlags := 49
  interfaces := #[]
  cf := some (fileOf pool1 14 #[] #[{ accessFlags := 2, nameIndex := 5, descriptorIndex := 6, attributes := #[] }, { accessFlags := 10, nameIndex := 17, descriptorIndex := 12, attributes := #[] }, { accessFlags := 9, nameIndex := 21, descriptorIndex := 22, attributes := #[] }] 49 2 #[] #[])
  fields := #[]
  methods := #[k1m0, k1m1, k1m2]
  instanceTypes := #[]
  staticTypes := #[]
  resolved := Array.replicate 25 none
  statics := none }

def pool2 : Array CpInfo := pool [(2, .class_ 4), (1, u "java/lang/Object"), (0, u "<init>"), (0, u "()V"), (1, .class_ 10), (1, u "com/example/lit2/lit2/input/CwebSyntax"), (0, u "CONTROL_CODES"), (0, u "Lcom/example/lit2/lit2/input/ControlCodes;"), (6, .class_ 20), (0, u "com/example/lit2/lit2/input/CwebSyntax$ControlCode"), (26, u "DECIMAL_DIGITS"), (0, u "Lcom/example/lit2/lit2/input/CharacterClass;"), (5, u "(I)Z"), (11, .class_ 68), (1, u "com/example/lit2/lit2/input/CwebSyntax$Constant$Base"), (4, u "HEXADECIMAL_DIGITS"), (15, u "BINARY_DIGITS"), (8, u "SUFFIX_LETTERS"), (0, .class_ 100), (0, u "com/example/lit2/lit2/input/CwebSyntax$Constant"), (66, u "IDENTIFIER_CHARACTERS"), (6, u "OPERATORS"), (0, u "Lcom/example/lit2/lit2/input/Symbols;"), (68, u "PARTS"), (0, u "Lcom/example/lit2/lit2/input/Parts;"), (111, u "CONTROL_TEXT_CODES"), (0, u "Ljava/lang/String;"), (24, u "isLetter")] 36

def k2m0 : Method := { name := "<init>", desc := "()V", sig := { parameters := [], returnType := none }, accessFlags := 2, code := none }
def k2c1 : Code := { maxStack := 2, maxLocals := 1, code := prog_11_method_14_code, exceptionTable := #[], attributes := #[] }
def k2m1 : Method := { name := "isLetter", desc := "(I)Z", sig := { parameters := [.int], returnType := some .boolean }, accessFlags := 9, code := some k2c1 }
/-- com/example/lit2/lit2/input/CwebSyntax -/
def k2 : Class := { plain "com/example/lit2/lit2/input/CwebSyntax" (some 0) with
  accessFlags := 49
  interfaces := #[]
  cf := some (fileOf pool2 8 #[.nestMembers #[99, 66, 19]] #[{ accessFlags := 2, nameIndex := 5, descriptorIndex := 6, attributes := #[] }, { accessFlags := 9, nameIndex := 383, descriptorIndex := 54, attributes := #[] }] 49 2 #[] #[{ accessFlags := 25, nameIndex := 244, descriptorIndex := 245, attributes := #[] }, { accessFlags := 25, nameIndex := 357, descriptorIndex := 358, attributes := #[] }, { accessFlags := 26, nameIndex := 11, descriptorIndex := 12, attributes := #[] }, { accessFlags := 26, nameIndex := 174, descriptorIndex := 175, attributes := #[] }, { accessFlags := 26, nameIndex := 167, descriptorIndex := 48, attributes := #[] }, { accessFlags := 26, nameIndex := 47, descriptorIndex := 48, attributes := #[] }, { accessFlags := 26, nameIndex := 73, descriptorIndex := 48, attributes := #[] }, { accessFlags := 26, nameIndex := 89, descriptorIndex := 48, attributes := #[] }, { accessFlags := 26, nameIndex := 98, descriptorIndex := 48, attributes := #[] }])
  fields := #[{ name := "PARTS", type := (.object "com/example/lit2/lit2/input/Parts"), accessFlags := 25, slot := 0, constantValue := 0 }, { name := "CONTROL_TEXT_CODES", type := (.object "java/lang/String"), accessFlags := 25, slot := 1, constantValue := 0 }, { name := "CONTROL_CODES", type := (.object "com/example/lit2/lit2/input/ControlCodes"), accessFlags := 26, slot := 2, constantValue := 0 }, { name := "OPERATORS", type := (.object "com/example/lit2/lit2/input/Symbols"), accessFlags := 26, slot := 3, constantValue := 0 }, { name := "IDENTIFIER_CHARACTERS", type := (.object "com/example/lit2/lit2/input/CharacterClass"), accessFlags := 26, slot := 4, constantValue := 0 }, { name := "DECIMAL_DIGITS", type := (.object "com/example/lit2/lit2/input/CharacterClass"), accessFlags := 26, slot := 5, constantValue := 0 }, { name := "HEXADECIMAL_DIGITS", type := (.object "com/example/lit2/lit2/input/CharacterClass"), accessFlags := 26, slot := 6, constantValue := 0 }, { name := "BINARY_DIGITS", type := (.object "com/example/lit2/lit2/input/CharacterClass"), accessFlags := 26, slot := 7, constantValue := 0 }, { name := "SUFFIX_LETTERS", type := (.object "com/example/lit2/lit2/input/CharacterClass"), accessFlags := 26, slot := 8, constantValue := 0 }]
  methods := #[k2m0, k2m1]
  instanceTypes := #[]
  staticTypes := #[(.object "com/example/lit2/lit2/input/Parts"), (.object "java/lang/String"), (.object "com/example/lit2/lit2/input/ControlCodes"), (.object "com/example/lit2/lit2/input/Symbols"), (.object "com/example/lit2/lit2/input/CharacterClass"), (.object "com/example/lit2/lit2/input/CharacterClass"), (.object "com/example/lit2/lit2/input/CharacterClass"), (.object "com/example/lit2/lit2/input/CharacterClass"), (.object "com/example/lit2/lit2/input/CharacterClass")]
  resolved := Array.replicate 420 none
  statics := none }

def pool3 : Array CpInfo := pool [(1, u "java/lang/Cloneable"), (0, .class_ 1), (0, u "java/lang/Object"), (0, .class_ 3)] 3

/-- java/lang/Cloneable -/
def k3 : Class := { plain "java/lang/Cloneable" (some 0) with
  accessFlags := 1537
  interfaces := #[]
  cf := some (fileOf pool3 2 #[] #[] 1537 4 #[] #[])
  fields := #[]
  methods := #[]
  instanceTypes := #[]
  staticTypes := #[]
  resolved := Array.replicate 8 none
  statics := none }

def pool4 : Array CpInfo := pool [(1, u "java/io/Serializable"), (0, .class_ 1), (0, u "java/lang/Object"), (0, .class_ 3)] 3

/-- java/io/Serializable -/
def k4 : Class := { plain "java/io/Serializable" (some 0) with
  accessFlags := 1537
  interfaces := #[]
  cf := some (fileOf pool4 2 #[] #[] 1537 4 #[] #[])
  fields := #[]
  methods := #[]
  instanceTypes := #[]
  staticTypes := #[]
  resolved := Array.replicate 8 none
  statics := none }

/-- the primitive byte -/
def k5 : Class := { plain "byte" none with kind := .primitive 'B', accessFlags := 0x411 }
/-- [B -/
def k6 : Class := { plain "[B" (some 0) with kind := .array 5 .byte, interfaces := #[3, 4], accessFlags := 1041 }

/-- the primitive int -/
def k7 : Class := { plain "int" none with kind := .primitive 'I', accessFlags := 0x411 }
/-- [I -/
def k8 : Class := { plain "[I" (some 0) with kind := .array 7 .int, interfaces := #[3, 4], accessFlags := 1041 }

def heap : Heap := #[]
def classes : Array Class := #[k0, k1, k2, k3, k4, k5, k6, k7, k8]
def interned : List (Array UInt16 × Addr) := []
def slotsUsed : Nat := 0
def theMethod : MethodId := ⟨1, 2⟩
def args0 : Array Value := #[.int 5, .int 7]
def aboutOver (below : List Frame) : State where
  vm := { classes := classes, interned := interned.toArray }
  heap := heap
  slotsUsed := slotsUsed
  threads := #[{ frames := .invoking theMethod args0 :: below }]
def below0 : List Frame := [.native { method := ⟨0, 0⟩, args := #[] }]
def about1 : State := aboutOver below0
def p0 : Program := .bare "" "" ""
def e0 : Env := launch0.env 0 0 0
theorem w_frames : about1.frames = Frame.invoking theMethod args0 :: below0 := rfl
set_option maxRecDepth 65536 in
theorem w_args : argsFit about1.vm theMethod args0 = true := by decide +kernel
set_option maxRecDepth 65536 in
theorem w_heap : heapFits about1 = true := by decide +kernel
set_option maxRecDepth 65536 in
theorem w_runnable : about1.curStatus? = some .runnable := by decide +kernel
set_option maxRecDepth 65536 in
theorem w_alone : about1.alone = true := by decide +kernel
set_option maxRecDepth 65536 in
theorem w_named : about1.methodNamed? x = some theMethod := by decide +kernel
set_option maxRecDepth 65536 in
theorem w_hears : about1.hears theMethod below0 = true := by decide +kernel
set_option maxRecDepth 65536 in
theorem w_ripe : about1.ripe theMethod args0 below0 = true := by decide +kernel
theorem w_running : about1.status = .running := rfl
set_option maxRecDepth 65536 in
theorem w_room : about1.hasRoom e0.platform room_1 = true :=
  launch0.hasRoom_least _ room_1 (by decide +kernel) (by decide +kernel) (by decide +kernel) (by decide +kernel) (by decide +kernel) (by decide +kernel)
theorem allAtoms_all (ts : List Jvm.Cond) (a : Array Jvm.Value) (st : Jvm.State) : (allAtoms ts).before a st = ts.all (fun c => c.before a st) := by
  induction ts with
  | nil => rfl
  | cons c t ih =>
    show (Jvm.Cond.and c (allAtoms t)).before a st = _
    rw [Jvm.Cond.before_and, ih, List.all_cons]
def words1 : List Jvm.Cond := Jvm.Cond.code x code maxLocals ret :: tables_1
/-- a 'code' word, met by the world's own term for the bytes: nothing is compared byte by byte -/
theorem code_word {y : MethodName} {bytes : ByteArray} {mx : Nat} {rt : Option FieldType} {a : Array Value} {s : State} {m : MethodId} {meth : Method} {c : Code} (h1 : s.methodNamed? y = some m) (h2 : s.vm.method? m = some meth) (h3 : meth.code = some c) (h4 : c.code = bytes)
    (h5 : (c.maxLocals == mx && c.exceptionTable.isEmpty && decide (c.maxStack ≤ mostOperands) && decide (meth.sig.returnType = rt) && !meth.locks && decide (parseMethodDescriptor y.desc = some meth.sig)) = true) : (Jvm.Cond.code y bytes mx rt).before a s = true := by
  simp only [Bool.and_eq_true, beq_iff_eq, Bool.not_eq_true', decide_eq_true_eq] at h5
  obtain ⟨⟨⟨⟨⟨g1, g2⟩, g3⟩, g4⟩, g5⟩, g6⟩ := h5
  simp [Cond.before, Cond.holds, Cond.value, h1, h2, h3, h4, g1, g2, g3, g4, g5, g6]
def isCode : Jvm.Cond → Bool
  | .code _ _ _ _ => true
  | _ => false
theorem all_split {L : List Jvm.Cond} {P : Jvm.Cond → Bool} (h1 : L.all (fun c => isCode c || P c) = true) (h2 : ∀ c ∈ L.filter isCode, P c = true) : L.all P = true := by
  refine List.all_eq_true.mpr fun c hc => ?_
  have h := List.all_eq_true.mp h1 c hc
  rcases Bool.eq_false_or_eq_true (isCode c) with hi | hi
  · exact h2 c (List.mem_filter.mpr ⟨hc, hi⟩)
  · simpa [hi] using h
set_option maxRecDepth 65536 in
theorem w_c0 : (Jvm.Cond.code x code maxLocals ret).before args0 about1 = true := code_word (m := ⟨1, 2⟩) (meth := k1m2) (c := k1c2) (by decide +kernel) rfl rfl rfl (by decide +kernel)
set_option maxRecDepth 65536 in
theorem w_c1 : (Jvm.Cond.code ({ cls := "com/example/lit2/lit2/input/CwebSyntax", name := "isLetter", desc := "(I)Z" } : Jvm.MethodName) prog_11_method_14_code (1 : Nat) (Option.some Jvm.ClassFile.FieldType.boolean)).before args0 about1 = true := code_word (m := ⟨2, 1⟩) (meth := k2m1) (c := k2c1) (by decide +kernel) rfl rfl rfl (by decide +kernel)
set_option maxRecDepth 65536 in
theorem w_c2 : (Jvm.Cond.code ({ cls := "com/example/lit2/lit2/input/CwebSyntaxIsLetterPinLaw", name := "expected", desc := "(I)Z" } : Jvm.MethodName) method_2_code (4 : Nat) (Option.some Jvm.ClassFile.FieldType.boolean)).before args0 about1 = true := code_word (m := ⟨1, 1⟩) (meth := k1m1) (c := k1c1) (by decide +kernel) rfl rfl rfl (by decide +kernel)
def codes1 : List Jvm.Cond := [Jvm.Cond.code x code maxLocals ret, Jvm.Cond.code ({ cls := "com/example/lit2/lit2/input/CwebSyntax", name := "isLetter", desc := "(I)Z" } : Jvm.MethodName) prog_11_method_14_code (1 : Nat) (Option.some Jvm.ClassFile.FieldType.boolean), Jvm.Cond.code ({ cls := "com/example/lit2/lit2/input/CwebSyntaxIsLetterPinLaw", name := "expected", desc := "(I)Z" } : Jvm.MethodName) method_2_code (4 : Nat) (Option.some Jvm.ClassFile.FieldType.boolean)]
set_option maxRecDepth 65536 in
theorem codes_eq : words1.filter isCode = codes1 := rfl
theorem w_codes : ∀ c ∈ words1.filter isCode, c.before args0 about1 = true := by
  rw [codes_eq]
  intro c hc
  simp only [codes1, List.mem_cons, List.not_mem_nil, or_false] at hc
  rcases hc with rfl | rfl | rfl
  · exact w_c0
  · exact w_c1
  · exact w_c2
set_option maxRecDepth 65536 in
theorem w_t1 : words1.all (fun c => isCode c || c.before args0 about1) = true := by decide +kernel
theorem w_tables : (allAtoms (Jvm.Cond.code x code maxLocals ret :: tables_1)).before args0 about1 = true := by
  rw [allAtoms_all]
  show words1.all (fun c => c.before args0 about1) = true
  refine all_split ?_ w_codes
  rw [w_t1]
set_option maxRecDepth 65536 in
theorem w_case : (Jvm.Cond.and given_1 narrow_1).before args0 about1 = true := by decide +kernel
theorem w_applies : (headSpec (Jvm.Cond.code x code maxLocals ret :: tables_1) room_1).applies x e0.platform about1 = true :=
  (Spec.applies_iff w_frames).mpr ⟨w_running, w_runnable, w_alone, w_named, w_hears, w_ripe, w_room, w_tables⟩
theorem atStart : AtStart classFile x code maxLocals ret World_1 tables_1 room_1 Calls_1 rest_1 Pre_1 launch0 p0 e0 about1 theMethod args0 below0 :=
  ⟨lists_1, trivial, launch0.admits_env _ _ _, launch0.least_env, fairChoices_fair.cas, fairChoices_fair.clock, w_frames, w_args, w_heap, w_applies, trivial, trivial, w_case⟩
end start1
theorem witness_1 : WitnessClaimed_1 := ⟨start1.p0, start1.e0, start1.about1, start1.theMethod, start1.args0, start1.below0, start1.atStart⟩
end Jvm.Pilot.@@N@@
