import JvmDerived
import JvmDerived.Pilot.@@N@@Statement
import JvmDerived.Pilot.@@N@@Code
set_option linter.unusedVariables false
set_option linter.unusedSimpArgs false
namespace Jvm.RoadKit
open Sem ClassFile Op Lib Jvm.Stand Jvm.Free Jvm.LawKit
section New
variable {p : Program} {l : Launch} {e : Env} {R : Room} {s : State} {m : MethodId} {args : Array Value} {below : List Frame} {meth : Method} {c : Code} {T : State} {locs : List Loc} {cells slots : Nat}
theorem retI (X : Stand p l e R s m args below meth c T locs cells slots) (hx : p.tables.exec = Jvm.exec) {pc : Nat} {Ls : Array Slot} {z : Int32} {rest : List Value} (hret : meth.sig.returnType = some .int) (hd : decode c.code pc = .ok (.ireturn, 1)) {fs : List Frame}
    (hl : ∀ (f : JFrame) (acts : List Action), f.method = m → f.locked = none → f.entered = [] → (doReturn e (T.setTop f) acts (some (.int z))).1 = T.setFrames fs) : Steps p.tables e below (T.setTop (mkF m pc Ls (.int z :: rest))) (T.setFrames fs) := by
  have hm' : T.vm.method? m = some meth := X.method'
  have hn : narrow .int (.int z) = .int z := rfl
  show Steps p.tables e below (T.setTop { method := m, pc := pc, locals := Ls, stack := _ :: rest, locked := none }) _
  jvm_step X.here [X.here.top, hx, hd, hm', hret, hn]
  first | (intro acts; rw [hl _ acts rfl rfl rfl]) | rw [hl _ _ rfl rfl rfl]
  exact Steps.refl _
theorem own_nb {t : FieldType} {c : Prop} [Decidable c] {a b : Int32} (ha : nar t a = a) (hb : nar t b = b) : nar t (if c then a else b) = (if c then a else b) := by
  by_cases h : c
  · rw [if_pos h]; exact ha
  · rw [if_neg h]; exact hb
theorem own_retN (X : Stand p l e R s m args below meth c T locs cells slots) (hx : p.tables.exec = Jvm.exec) {pc : Nat} {Ls : Array Slot} {z : Int32} {t : FieldType} {rest : List Value} (hret : meth.sig.returnType = some t) (ht : t = .boolean ∨ t = .byte ∨ t = .char ∨ t = .short) (hz : nar t z = z)
    (hd : decode c.code pc = .ok (.ireturn, 1)) {fs : List Frame} (hl : ∀ (f : JFrame) (acts : List Action), f.method = m → f.locked = none → f.entered = [] → (doReturn e (T.setTop f) acts (some (.int z))).1 = T.setFrames fs) :
    Steps p.tables e below (T.setTop (mkF m pc Ls (.int z :: rest))) (T.setFrames fs) := retN X hx hret ht hd (by rw [hz]; exact hl)
end New
end Jvm.RoadKit
namespace Jvm.Pilot.@@N@@
open Jvm Jvm.ClassFile Sem Op Lib Jvm.Free Jvm.Stand Jvm.LawKit Jvm.RoadKit Bundle Jvm.Pilot.@@N@@.Jvm.D
/-- from the state A the run comes to some end that P takes -/
def Go (tb : Tables) (e : Env) (below : List Frame) (A : State) (P : State → Outcome → Prop) : Prop := ∃ t o, Steps tb e below A t ∧ P t o
theorem Go.st {tb : Tables} {e : Env} {below : List Frame} {A B : State} {P : State → Outcome → Prop} (h : ∀ t, Steps tb e below A t → Steps tb e below B t) (k : Go tb e below A P) : Go tb e below B P := by
  obtain ⟨t, o, h1, h2⟩ := k; exact ⟨t, o, h t h1, h2⟩
theorem Go.tr {tb : Tables} {e : Env} {below : List Frame} {A B : State} {P : State → Outcome → Prop} (h : Steps tb e below B A) (k : Go tb e below A P) : Go tb e below B P := by
  obtain ⟨t, o, h1, h2⟩ := k; exact ⟨t, o, h.trans h1, h2⟩
theorem Go.start {tb : Tables} {e : Env} {below : List Frame} {A : State} {P0 : State → Outcome → Prop} (h : ∀ P : State → Outcome → Prop, (∀ t o, P0 t o → P t o) → Go tb e below A P) : ∃ t o, Steps tb e below A t ∧ P0 t o := h P0 (fun _ _ q => q)
theorem own_cst {tb : Tables} {e : Env} {below : List Frame} {T : State} {m : MethodId} {J : Nat} {Ls : Array Slot} {a b : Int32} {rest : List Value} {t : State} (h : a = b) (k : Steps tb e below (T.setTop (mkF m J Ls (.int a :: rest))) t) : Steps tb e below (T.setTop (mkF m J Ls (.int b :: rest))) t := h ▸ k
theorem own_lt {x y : Int64} (h : x < y) : lcmpW x y < 0 := (lw_lt x y).mpr h
theorem own_nlt {x y : Int64} (h : ¬ x < y) : ¬ lcmpW x y < 0 := fun q => h ((lw_lt x y).mp q)
theorem own_gt {x y : Int64} (h : y < x) : 0 < lcmpW x y := (lw_gt x y).mpr h
theorem own_ngt {x y : Int64} (h : ¬ y < x) : ¬ 0 < lcmpW x y := fun q => h ((lw_gt x y).mp q)
theorem own_eq {x y : Int64} (h : x = y) : lcmpW x y = 0 := (lw_eq x y).mpr h
theorem own_neq {x y : Int64} (h : ¬ x = y) : ¬ lcmpW x y = 0 := fun q => h ((lw_eq x y).mp q)
theorem d_prog_8_method_24_0 : decode prog_8_method_24_code 0 = .ok (.iload_n 0, 1) := by decide +kernel
theorem d_prog_8_method_24_1 : decode prog_8_method_24_code 1 = .ok (.ifCond .lt 15, 3) := by decide +kernel
theorem d_prog_8_method_24_16 : decode prog_8_method_24_code 16 = .ok (.iload_n 0, 1) := by decide +kernel
theorem d_prog_8_method_24_17 : decode prog_8_method_24_code 17 = .ok (.bipush 127, 2) := by decide +kernel
theorem d_prog_8_method_24_19 : decode prog_8_method_24_code 19 = .ok (.if_icmp .ne 7, 3) := by decide +kernel
theorem d_prog_8_method_24_22 : decode prog_8_method_24_code 22 = .ok (.iconst 1, 1) := by decide +kernel
theorem d_prog_8_method_24_23 : decode prog_8_method_24_code 23 = .ok (.goto 4, 3) := by decide +kernel
theorem d_prog_8_method_24_26 : decode prog_8_method_24_code 26 = .ok (.iconst 0, 1) := by decide +kernel
theorem d_prog_8_method_24_27 : decode prog_8_method_24_code 27 = .ok (.ireturn, 1) := by decide +kernel
theorem d_prog_8_method_24_4 : decode prog_8_method_24_code 4 = .ok (.iload_n 0, 1) := by decide +kernel
theorem d_prog_8_method_24_5 : decode prog_8_method_24_code 5 = .ok (.bipush 32, 2) := by decide +kernel
theorem d_prog_8_method_24_7 : decode prog_8_method_24_code 7 = .ok (.if_icmp .ge 9, 3) := by decide +kernel
theorem d_prog_8_method_24_10 : decode prog_8_method_24_code 10 = .ok (.iload_n 0, 1) := by decide +kernel
theorem d_prog_8_method_24_11 : decode prog_8_method_24_code 11 = .ok (.bipush 9, 2) := by decide +kernel
theorem d_prog_8_method_24_13 : decode prog_8_method_24_code 13 = .ok (.if_icmp .ne 9, 3) := by decide +kernel
theorem pn_0 : plainName "com/example/gatewright/gatewright/HeadParser" = true := by first | (simp [plainName, overriddenIn]; done) | decide +kernel
theorem ef_rmCtl (m : MethodId) (p0 : Int32) : entryFrame m #[(.int p0)] 1 = mkF m 0 #[.val (.int p0)] [] := by first | (simp [entryFrame, mkF, argsToLocals, Value.category]; done) | rfl
def fCtl (p0 : Int32) : Int32 := (if p0 < (0 : Int32) then (if p0 = (127 : Int32) then (1 : Int32) else (0 : Int32)) else (if p0 < (32 : Int32) then (if p0 = (9 : Int32) then (if p0 = (127 : Int32) then (1 : Int32) else (0 : Int32)) else (1 : Int32)) else (if p0 = (127 : Int32) then (1 : Int32) else (0 : Int32))))
def Q_rmCtl (Z : State) (p0 : Int32) (h0 : Heap) (n0 : Nat) (v : Option Value) (h : Heap) (L : List Loc) : Prop := v = some (.int (fCtl p0)) ∧ Fr n0 L ∧ h = h0
set_option maxRecDepth 65536 in
set_option maxHeartbeats 40000000 in
theorem rmCtl (l : Launch) (Z : State) (a0 : Array Value) (hw : ∀ d ∈ tables_1, d.before a0 Z = true) (ws : List Jvm.Cond) (p0 : Int32) (h0 : Heap) (n0 : Nat) (Z0 : n0 ≤ h0.size) :
    MetFree l (⟨"com/example/gatewright/gatewright/HeadParser", "isControl", "(B)Z"⟩ : MethodName) (head1 (Jvm.Cond.code (⟨"com/example/gatewright/gatewright/HeadParser", "isControl", "(B)Z"⟩ : MethodName) prog_8_method_24_code 1 (some .boolean) :: ws) ({ frames := 0, cells := 0, slots := 0, locals := 0 } : Room)) (fun a U => a = #[(.int p0)] ∧ Z.Warmed39 U.vm ∧ U.heap = h0) (fun _ _ _ _ _ => True) (fun _ U o U' => ∃ v L, o = .returned v ∧ Q_rmCtl Z p0 h0 n0 v U'.heap L ∧ FrameEnd U o U' L ({ frames := 0, cells := 0, slots := 0, locals := 0 } : Room).cells ({ frames := 0, cells := 0, slots := 0, locals := 0 } : Room).slots) := by
  refine MetFree.of_bodySF (plainFor_of_name pn_0) hisR ?_
  intro p e s m args below meth c s₁ Bd hml0 hP0 hK
  obtain ⟨rfl, hZ, hh⟩ := hP0
  have hx := Bd.exec
  have hby := Bd.bytes
  have hml : c.maxLocals = 1 := hml0
  have hown : s.vm.findClass "com/example/gatewright/gatewright/HeadParser" = some m.cls := findClass_of_methodNamed Bd.named
  have hnm := (name_of_methodNamed Bd.named Bd.method).1
  have X0 : Stand p l e ({ frames := 0, cells := 0, slots := 0, locals := 0 } : Room) s m #[(.int p0)] below meth c s₁ [] 0 0 := Stand.of_body Bd
  have e0 : s₁.heap = h0 := by rw [← hh, Bd.state]; rfl
  have N0 := Fr.nil n0
  refine Go.start (fun P hP => ?_)
  refine Go.st (fun t k => castTop (ef_rmCtl m p0) k) (A := s₁.setTop (mkF m 0 #[.val (.int p0)] [])) ?_
  show Go p.tables e below (s₁.setTop (mkF m 0 #[.val (.int p0)] [])) P
  refine Go.st (fun t k => XS.iloadN X0.here hx rfl (hb hby d_prog_8_method_24_0) rfl k) ?_
  show Go p.tables e below (s₁.setTop (mkF m 1 #[.val (.int p0)] [(.int p0)])) P
  by_cases hc1_1 : p0 < (0 : Int32)
  · refine Go.st (fun t k => XS.ifYes X0.here hx rfl (pc0 := 1) (pc' := 16) rfl (hb hby d_prog_8_method_24_1) rfl ((if0 _ _).trans (tlt hc1_1).1) (by decide) (by decide) k) ?_
    show Go p.tables e below (s₁.setTop (mkF m 16 #[.val (.int p0)] [])) P
    refine Go.st (fun t k => XS.iloadN X0.here hx rfl (hb hby d_prog_8_method_24_16) rfl k) ?_
    show Go p.tables e below (s₁.setTop (mkF m 17 #[.val (.int p0)] [(.int p0)])) P
    refine Go.st (fun t k => XS.bipush X0.here hx rfl (hb hby d_prog_8_method_24_17) k) ?_
    show Go p.tables e below (s₁.setTop (mkF m 19 #[.val (.int p0)] [(.int (127 : Int32)), (.int p0)])) P
    have dm1 : ∀ t, Steps p.tables e below (s₁.setTop (mkF m 27 #[.val (.int p0)] [(.int (if p0 = (127 : Int32) then (1 : Int32) else (0 : Int32)))])) t → Steps p.tables e below (s₁.setTop (mkF m 19 #[.val (.int p0)] [(.int (127 : Int32)), (.int p0)])) t := by
      intro t k
      by_cases hd : p0 = (127 : Int32)
      · refine XS.icmpNo X0.here hx rfl (hb hby d_prog_8_method_24_19) rfl (teq hd).2 ?_
        show Steps p.tables e below (s₁.setTop (mkF m 22 #[.val (.int p0)] [])) t
        refine XS.iconst X0.here hx rfl (hb hby d_prog_8_method_24_22) ?_
        show Steps p.tables e below (s₁.setTop (mkF m 23 #[.val (.int p0)] [(.int (1 : Int32))])) t
        refine XS.goto X0.here hx rfl (pc0 := 23) (pc' := 27) rfl (hb hby d_prog_8_method_24_23) (by decide) (by decide) ?_
        show Steps p.tables e below (s₁.setTop (mkF m 27 #[.val (.int p0)] [(.int (1 : Int32))])) t
        exact own_cst (if_pos hd) k
      · refine XS.icmpYes X0.here hx rfl (pc0 := 19) (pc' := 26) rfl (hb hby d_prog_8_method_24_19) rfl (feq hd).2 (by decide) (by decide) ?_
        show Steps p.tables e below (s₁.setTop (mkF m 26 #[.val (.int p0)] [])) t
        refine XS.iconst X0.here hx rfl (hb hby d_prog_8_method_24_26) ?_
        show Steps p.tables e below (s₁.setTop (mkF m 27 #[.val (.int p0)] [(.int (0 : Int32))])) t
        exact own_cst (if_neg hd) k
    refine Go.st dm1 ?_
    show Go p.tables e below (s₁.setTop (mkF m 27 #[.val (.int p0)] [(.int (if p0 = (127 : Int32) then (1 : Int32) else (0 : Int32)))])) P
    obtain ⟨fs, hr, hrun, hended, hW, hsame⟩ := X0.leave (v := some (.int (if p0 = (127 : Int32) then (1 : Int32) else (0 : Int32)))) (fun h => by rw [Bd.returns] at h; cases h)
    refine ⟨_, _, ?_, hP _ _ ⟨hrun, hended, _, _, rfl, ?_, ⟨_, rfl⟩, hW, hsame.mono (by decide) (by decide)⟩⟩
    · exact own_retN X0 hx (t := .boolean) Bd.returns (by simp) (own_nb rfl rfl) (hb hby d_prog_8_method_24_27) hr
    · show (some (.int (if p0 = (127 : Int32) then (1 : Int32) else (0 : Int32))) : Option Value) = some (.int (fCtl p0)) ∧ Fr n0 _ ∧ s₁.heap = h0
      rw [e0]
      exact ⟨by rw [show fCtl p0 = (if p0 = (127 : Int32) then (1 : Int32) else (0 : Int32)) from ((if_pos hc1_1).trans rfl)], N0, rfl⟩
  · refine Go.st (fun t k => XS.ifNo X0.here hx rfl (hb hby d_prog_8_method_24_1) rfl ((if0 _ _).trans (flt hc1_1).1) k) ?_
    show Go p.tables e below (s₁.setTop (mkF m 4 #[.val (.int p0)] [])) P
    refine Go.st (fun t k => XS.iloadN X0.here hx rfl (hb hby d_prog_8_method_24_4) rfl k) ?_
    show Go p.tables e below (s₁.setTop (mkF m 5 #[.val (.int p0)] [(.int p0)])) P
    refine Go.st (fun t k => XS.bipush X0.here hx rfl (hb hby d_prog_8_method_24_5) k) ?_
    show Go p.tables e below (s₁.setTop (mkF m 7 #[.val (.int p0)] [(.int (32 : Int32)), (.int p0)])) P
    by_cases hc7_2 : p0 < (32 : Int32)
    · refine Go.st (fun t k => XS.icmpNo X0.here hx rfl (hb hby d_prog_8_method_24_7) rfl (tlt hc7_2).2.1 k) ?_
      show Go p.tables e below (s₁.setTop (mkF m 10 #[.val (.int p0)] [])) P
      refine Go.st (fun t k => XS.iloadN X0.here hx rfl (hb hby d_prog_8_method_24_10) rfl k) ?_
      show Go p.tables e below (s₁.setTop (mkF m 11 #[.val (.int p0)] [(.int p0)])) P
      refine Go.st (fun t k => XS.bipush X0.here hx rfl (hb hby d_prog_8_method_24_11) k) ?_
      show Go p.tables e below (s₁.setTop (mkF m 13 #[.val (.int p0)] [(.int (9 : Int32)), (.int p0)])) P
      by_cases hc13_3 : p0 = (9 : Int32)
      · refine Go.st (fun t k => XS.icmpNo X0.here hx rfl (hb hby d_prog_8_method_24_13) rfl (teq hc13_3).2 k) ?_
        show Go p.tables e below (s₁.setTop (mkF m 16 #[.val (.int p0)] [])) P
        refine Go.st (fun t k => XS.iloadN X0.here hx rfl (hb hby d_prog_8_method_24_16) rfl k) ?_
        show Go p.tables e below (s₁.setTop (mkF m 17 #[.val (.int p0)] [(.int p0)])) P
        refine Go.st (fun t k => XS.bipush X0.here hx rfl (hb hby d_prog_8_method_24_17) k) ?_
        show Go p.tables e below (s₁.setTop (mkF m 19 #[.val (.int p0)] [(.int (127 : Int32)), (.int p0)])) P
        have dm2 : ∀ t, Steps p.tables e below (s₁.setTop (mkF m 27 #[.val (.int p0)] [(.int (if p0 = (127 : Int32) then (1 : Int32) else (0 : Int32)))])) t → Steps p.tables e below (s₁.setTop (mkF m 19 #[.val (.int p0)] [(.int (127 : Int32)), (.int p0)])) t := by
          intro t k
          by_cases hd : p0 = (127 : Int32)
          · refine XS.icmpNo X0.here hx rfl (hb hby d_prog_8_method_24_19) rfl (teq hd).2 ?_
            show Steps p.tables e below (s₁.setTop (mkF m 22 #[.val (.int p0)] [])) t
            refine XS.iconst X0.here hx rfl (hb hby d_prog_8_method_24_22) ?_
            show Steps p.tables e below (s₁.setTop (mkF m 23 #[.val (.int p0)] [(.int (1 : Int32))])) t
            refine XS.goto X0.here hx rfl (pc0 := 23) (pc' := 27) rfl (hb hby d_prog_8_method_24_23) (by decide) (by decide) ?_
            show Steps p.tables e below (s₁.setTop (mkF m 27 #[.val (.int p0)] [(.int (1 : Int32))])) t
            exact own_cst (if_pos hd) k
          · refine XS.icmpYes X0.here hx rfl (pc0 := 19) (pc' := 26) rfl (hb hby d_prog_8_method_24_19) rfl (feq hd).2 (by decide) (by decide) ?_
            show Steps p.tables e below (s₁.setTop (mkF m 26 #[.val (.int p0)] [])) t
            refine XS.iconst X0.here hx rfl (hb hby d_prog_8_method_24_26) ?_
            show Steps p.tables e below (s₁.setTop (mkF m 27 #[.val (.int p0)] [(.int (0 : Int32))])) t
            exact own_cst (if_neg hd) k
        refine Go.st dm2 ?_
        show Go p.tables e below (s₁.setTop (mkF m 27 #[.val (.int p0)] [(.int (if p0 = (127 : Int32) then (1 : Int32) else (0 : Int32)))])) P
        obtain ⟨fs, hr, hrun, hended, hW, hsame⟩ := X0.leave (v := some (.int (if p0 = (127 : Int32) then (1 : Int32) else (0 : Int32)))) (fun h => by rw [Bd.returns] at h; cases h)
        refine ⟨_, _, ?_, hP _ _ ⟨hrun, hended, _, _, rfl, ?_, ⟨_, rfl⟩, hW, hsame.mono (by decide) (by decide)⟩⟩
        · exact own_retN X0 hx (t := .boolean) Bd.returns (by simp) (own_nb rfl rfl) (hb hby d_prog_8_method_24_27) hr
        · show (some (.int (if p0 = (127 : Int32) then (1 : Int32) else (0 : Int32))) : Option Value) = some (.int (fCtl p0)) ∧ Fr n0 _ ∧ s₁.heap = h0
          rw [e0]
          exact ⟨by rw [show fCtl p0 = (if p0 = (127 : Int32) then (1 : Int32) else (0 : Int32)) from ((if_neg hc1_1).trans ((if_pos hc7_2).trans ((if_pos hc13_3).trans rfl)))], N0, rfl⟩
      · refine Go.st (fun t k => XS.icmpYes X0.here hx rfl (pc0 := 13) (pc' := 22) rfl (hb hby d_prog_8_method_24_13) rfl (feq hc13_3).2 (by decide) (by decide) k) ?_
        show Go p.tables e below (s₁.setTop (mkF m 22 #[.val (.int p0)] [])) P
        refine Go.st (fun t k => XS.iconst X0.here hx rfl (hb hby d_prog_8_method_24_22) k) ?_
        show Go p.tables e below (s₁.setTop (mkF m 23 #[.val (.int p0)] [(.int (1 : Int32))])) P
        refine Go.st (fun t k => XS.goto X0.here hx rfl (pc0 := 23) (pc' := 27) rfl (hb hby d_prog_8_method_24_23) (by decide) (by decide) k) ?_
        show Go p.tables e below (s₁.setTop (mkF m 27 #[.val (.int p0)] [(.int (1 : Int32))])) P
        obtain ⟨fs, hr, hrun, hended, hW, hsame⟩ := X0.leave (v := some (.int (1 : Int32))) (fun h => by rw [Bd.returns] at h; cases h)
        refine ⟨_, _, ?_, hP _ _ ⟨hrun, hended, _, _, rfl, ?_, ⟨_, rfl⟩, hW, hsame.mono (by decide) (by decide)⟩⟩
        · exact retN X0 hx (t := .boolean) Bd.returns (by simp) (hb hby d_prog_8_method_24_27) hr
        · show (some (.int (1 : Int32)) : Option Value) = some (.int (fCtl p0)) ∧ Fr n0 _ ∧ s₁.heap = h0
          rw [e0]
          exact ⟨by rw [show fCtl p0 = (1 : Int32) from ((if_neg hc1_1).trans ((if_pos hc7_2).trans ((if_neg hc13_3).trans rfl)))], N0, rfl⟩
    · refine Go.st (fun t k => XS.icmpYes X0.here hx rfl (pc0 := 7) (pc' := 16) rfl (hb hby d_prog_8_method_24_7) rfl (flt hc7_2).2.1 (by decide) (by decide) k) ?_
      show Go p.tables e below (s₁.setTop (mkF m 16 #[.val (.int p0)] [])) P
      refine Go.st (fun t k => XS.iloadN X0.here hx rfl (hb hby d_prog_8_method_24_16) rfl k) ?_
      show Go p.tables e below (s₁.setTop (mkF m 17 #[.val (.int p0)] [(.int p0)])) P
      refine Go.st (fun t k => XS.bipush X0.here hx rfl (hb hby d_prog_8_method_24_17) k) ?_
      show Go p.tables e below (s₁.setTop (mkF m 19 #[.val (.int p0)] [(.int (127 : Int32)), (.int p0)])) P
      have dm3 : ∀ t, Steps p.tables e below (s₁.setTop (mkF m 27 #[.val (.int p0)] [(.int (if p0 = (127 : Int32) then (1 : Int32) else (0 : Int32)))])) t → Steps p.tables e below (s₁.setTop (mkF m 19 #[.val (.int p0)] [(.int (127 : Int32)), (.int p0)])) t := by
        intro t k
        by_cases hd : p0 = (127 : Int32)
        · refine XS.icmpNo X0.here hx rfl (hb hby d_prog_8_method_24_19) rfl (teq hd).2 ?_
          show Steps p.tables e below (s₁.setTop (mkF m 22 #[.val (.int p0)] [])) t
          refine XS.iconst X0.here hx rfl (hb hby d_prog_8_method_24_22) ?_
          show Steps p.tables e below (s₁.setTop (mkF m 23 #[.val (.int p0)] [(.int (1 : Int32))])) t
          refine XS.goto X0.here hx rfl (pc0 := 23) (pc' := 27) rfl (hb hby d_prog_8_method_24_23) (by decide) (by decide) ?_
          show Steps p.tables e below (s₁.setTop (mkF m 27 #[.val (.int p0)] [(.int (1 : Int32))])) t
          exact own_cst (if_pos hd) k
        · refine XS.icmpYes X0.here hx rfl (pc0 := 19) (pc' := 26) rfl (hb hby d_prog_8_method_24_19) rfl (feq hd).2 (by decide) (by decide) ?_
          show Steps p.tables e below (s₁.setTop (mkF m 26 #[.val (.int p0)] [])) t
          refine XS.iconst X0.here hx rfl (hb hby d_prog_8_method_24_26) ?_
          show Steps p.tables e below (s₁.setTop (mkF m 27 #[.val (.int p0)] [(.int (0 : Int32))])) t
          exact own_cst (if_neg hd) k
      refine Go.st dm3 ?_
      show Go p.tables e below (s₁.setTop (mkF m 27 #[.val (.int p0)] [(.int (if p0 = (127 : Int32) then (1 : Int32) else (0 : Int32)))])) P
      obtain ⟨fs, hr, hrun, hended, hW, hsame⟩ := X0.leave (v := some (.int (if p0 = (127 : Int32) then (1 : Int32) else (0 : Int32)))) (fun h => by rw [Bd.returns] at h; cases h)
      refine ⟨_, _, ?_, hP _ _ ⟨hrun, hended, _, _, rfl, ?_, ⟨_, rfl⟩, hW, hsame.mono (by decide) (by decide)⟩⟩
      · exact own_retN X0 hx (t := .boolean) Bd.returns (by simp) (own_nb rfl rfl) (hb hby d_prog_8_method_24_27) hr
      · show (some (.int (if p0 = (127 : Int32) then (1 : Int32) else (0 : Int32))) : Option Value) = some (.int (fCtl p0)) ∧ Fr n0 _ ∧ s₁.heap = h0
        rw [e0]
        exact ⟨by rw [show fCtl p0 = (if p0 = (127 : Int32) then (1 : Int32) else (0 : Int32)) from ((if_neg hc1_1).trans ((if_neg hc7_2).trans rfl))], N0, rfl⟩
theorem own_law1 (x : Int32) (hc : (x &&& (255 : Int32)) < (32 : Int32)) : fCtl x.toInt8.toInt32 = (if (x &&& (255 : Int32)) = (9 : Int32) then (0 : Int32) else (1 : Int32)) := by
  have e1 := c_i2b x
  have e2 := c_mask x 255 8 (by decide) (by decide)
  have l1 : (0 : Int32).toInt = 0 := rfl
  have l2 : (32 : Int32).toInt = 32 := rfl
  have l3 : (9 : Int32).toInt = 9 := rfl
  have l4 : (127 : Int32).toInt = 127 := rfl
  unfold fCtl
  generalize x.toInt8.toInt32 = b at *
  generalize x &&& 255 = u at *
  repeat' split
  all_goals first | rfl | (exfalso; simp only [Int32.lt_iff_toInt_lt, ← Int32.toInt_inj] at *; omega)
theorem own_law2 (x : Int32) (hc : ¬ (x &&& (255 : Int32)) < (32 : Int32)) : fCtl x.toInt8.toInt32 = (if (x &&& (255 : Int32)) = (127 : Int32) then (1 : Int32) else (0 : Int32)) := by
  have e1 := c_i2b x
  have e2 := c_mask x 255 8 (by decide) (by decide)
  have l1 : (0 : Int32).toInt = 0 := rfl
  have l2 : (32 : Int32).toInt = 32 := rfl
  have l3 : (9 : Int32).toInt = 9 := rfl
  have l4 : (127 : Int32).toInt = 127 := rfl
  unfold fCtl
  generalize x.toInt8.toInt32 = b at *
  generalize x &&& 255 = u at *
  repeat' split
  all_goals first | rfl | (exfalso; simp only [Int32.lt_iff_toInt_lt, ← Int32.toInt_inj] at *; omega)
theorem pd_0 : parseMethodDescriptor "(B)Z" = some ⟨[.byte], some .boolean⟩ := by decide +kernel
theorem pn_1 : plainName "com/example/gatewright/gatewright/HeadParserIsControlPinLaw" = true := by first | (simp [plainName, overriddenIn]; done) | decide +kernel
theorem ef_rm0 (m : MethodId) (x0 : Int32) : entryFrame m #[(.int x0)] maxLocals = mkF m 0 #[.val (.int x0), .unset, .unset, .unset] [] := by first | (simp [entryFrame, mkF, argsToLocals, Value.category, maxLocals]; done) | rfl
def Q_rm0 (Z : State) (x0 : Int32) (h0 : Heap) (n0 : Nat) (v : Option Value) (h : Heap) (L : List Loc) : Prop := v = some (.int 1) ∧ Fr n0 L
set_option maxRecDepth 65536 in
set_option maxHeartbeats 40000000 in
theorem rm0 (l : Launch) (Z : State) (a0 : Array Value) (hw : ∀ d ∈ tables_1, d.before a0 Z = true) (ws : List Jvm.Cond) (x0 : Int32) (h0 : Heap) (n0 : Nat) (Z0 : n0 ≤ h0.size) :
    MetFree l x (head1 (Jvm.Cond.code x code maxLocals ret :: ws) room_1) (fun a U => a = #[(.int x0)] ∧ Z.Warmed39 U.vm ∧ U.heap = h0) (fun _ _ _ _ _ => True) (fun _ U o U' => ∃ v L, o = .returned v ∧ Q_rm0 Z x0 h0 n0 v U'.heap L ∧ FrameEnd U o U' L room_1.cells room_1.slots) := by
  refine MetFree.of_bodySF (plainFor_of_name pn_1) hisR ?_
  intro p e s m args below meth c s₁ Bd hml0 hP0 hK
  obtain ⟨rfl, hZ, hh⟩ := hP0
  have hx := Bd.exec
  have hby := Bd.bytes
  have hml : c.maxLocals = 4 := hml0
  have hown : s.vm.findClass "com/example/gatewright/gatewright/HeadParserIsControlPinLaw" = some m.cls := findClass_of_methodNamed Bd.named
  have hnm := (name_of_methodNamed Bd.named Bd.method).1
  have X0 : Stand p l e room_1 s m #[(.int x0)] below meth c s₁ [] 0 0 := Stand.of_body Bd
  have e0 : s₁.heap = h0 := by rw [← hh, Bd.state]; rfl
  have N0 := Fr.nil n0
  refine Go.start (fun P hP => ?_)
  refine Go.st (fun t k => castTop (ef_rm0 m x0) k) (A := s₁.setTop (mkF m 0 #[.val (.int x0), .unset, .unset, .unset] [])) ?_
  show Go p.tables e below (s₁.setTop (mkF m 0 #[.val (.int x0), .unset, .unset, .unset] [])) P
  refine Go.st (fun t k => XS.iloadN X0.here hx rfl (hb hby at_0) rfl k) ?_
  show Go p.tables e below (s₁.setTop (mkF m 1 #[.val (.int x0), .unset, .unset, .unset] [(.int x0)])) P
  refine Go.st (fun t k => XS.i2b X0.here hx rfl (hb hby at_1) rfl k) ?_
  show Go p.tables e below (s₁.setTop (mkF m 2 #[.val (.int x0), .unset, .unset, .unset] [(.int (x0.toInt8.toInt32))])) P
  refine Go.st (fun t k => XS.istoreN X0.here hx rfl (hb hby at_2) rfl (l' := #[.val (.int x0), .val (.int (x0.toInt8.toInt32)), .unset, .unset]) rfl k) ?_
  show Go p.tables e below (s₁.setTop (mkF m 3 #[.val (.int x0), .val (.int (x0.toInt8.toInt32)), .unset, .unset] [])) P
  refine Go.st (fun t k => XS.iloadN X0.here hx rfl (hb hby at_3) rfl k) ?_
  show Go p.tables e below (s₁.setTop (mkF m 4 #[.val (.int x0), .val (.int (x0.toInt8.toInt32)), .unset, .unset] [(.int x0)])) P
  refine Go.st (fun t k => XS.sipush X0.here hx rfl (hb hby at_4) k) ?_
  show Go p.tables e below (s₁.setTop (mkF m 7 #[.val (.int x0), .val (.int (x0.toInt8.toInt32)), .unset, .unset] [(.int (255 : Int32)), (.int x0)])) P
  refine Go.st (fun t k => XS.iand X0.here hx rfl (hb hby at_7) rfl k) ?_
  show Go p.tables e below (s₁.setTop (mkF m 8 #[.val (.int x0), .val (.int (x0.toInt8.toInt32)), .unset, .unset] [(.int (x0 &&& (255 : Int32)))])) P
  refine Go.st (fun t k => XS.istoreN X0.here hx rfl (hb hby at_8) rfl (l' := #[.val (.int x0), .val (.int (x0.toInt8.toInt32)), .val (.int (x0 &&& (255 : Int32))), .unset]) rfl k) ?_
  show Go p.tables e below (s₁.setTop (mkF m 9 #[.val (.int x0), .val (.int (x0.toInt8.toInt32)), .val (.int (x0 &&& (255 : Int32))), .unset] [])) P
  refine Go.st (fun t k => XS.iloadN X0.here hx rfl (hb hby at_9) rfl k) ?_
  show Go p.tables e below (s₁.setTop (mkF m 10 #[.val (.int x0), .val (.int (x0.toInt8.toInt32)), .val (.int (x0 &&& (255 : Int32))), .unset] [(.int (x0 &&& (255 : Int32)))])) P
  refine Go.st (fun t k => XS.bipush X0.here hx rfl (hb hby at_10) k) ?_
  show Go p.tables e below (s₁.setTop (mkF m 12 #[.val (.int x0), .val (.int (x0.toInt8.toInt32)), .val (.int (x0 &&& (255 : Int32))), .unset] [(.int (32 : Int32)), (.int (x0 &&& (255 : Int32)))])) P
  by_cases hc12_1 : (x0 &&& (255 : Int32)) < (32 : Int32)
  · refine Go.st (fun t k => XS.icmpNo X0.here hx rfl (hb hby at_12) rfl (tlt hc12_1).2.1 k) ?_
    show Go p.tables e below (s₁.setTop (mkF m 15 #[.val (.int x0), .val (.int (x0.toInt8.toInt32)), .val (.int (x0 &&& (255 : Int32))), .unset] [])) P
    refine Go.st (fun t k => XS.iloadN X0.here hx rfl (hb hby at_15) rfl k) ?_
    show Go p.tables e below (s₁.setTop (mkF m 16 #[.val (.int x0), .val (.int (x0.toInt8.toInt32)), .val (.int (x0 &&& (255 : Int32))), .unset] [(.int (x0 &&& (255 : Int32)))])) P
    refine Go.st (fun t k => XS.bipush X0.here hx rfl (hb hby at_16) k) ?_
    show Go p.tables e below (s₁.setTop (mkF m 18 #[.val (.int x0), .val (.int (x0.toInt8.toInt32)), .val (.int (x0 &&& (255 : Int32))), .unset] [(.int (9 : Int32)), (.int (x0 &&& (255 : Int32)))])) P
    have dm1 : ∀ t, Steps p.tables e below (s₁.setTop (mkF m 26 #[.val (.int x0), .val (.int (x0.toInt8.toInt32)), .val (.int (x0 &&& (255 : Int32))), .unset] [(.int (if (x0 &&& (255 : Int32)) = (9 : Int32) then (0 : Int32) else (1 : Int32)))])) t → Steps p.tables e below (s₁.setTop (mkF m 18 #[.val (.int x0), .val (.int (x0.toInt8.toInt32)), .val (.int (x0 &&& (255 : Int32))), .unset] [(.int (9 : Int32)), (.int (x0 &&& (255 : Int32)))])) t := by
      intro t k
      by_cases hd : (x0 &&& (255 : Int32)) = (9 : Int32)
      · refine XS.icmpYes X0.here hx rfl (pc0 := 18) (pc' := 25) rfl (hb hby at_18) rfl (teq hd).1 (by decide) (by decide) ?_
        show Steps p.tables e below (s₁.setTop (mkF m 25 #[.val (.int x0), .val (.int (x0.toInt8.toInt32)), .val (.int (x0 &&& (255 : Int32))), .unset] [])) t
        refine XS.iconst X0.here hx rfl (hb hby at_25) ?_
        show Steps p.tables e below (s₁.setTop (mkF m 26 #[.val (.int x0), .val (.int (x0.toInt8.toInt32)), .val (.int (x0 &&& (255 : Int32))), .unset] [(.int (0 : Int32))])) t
        exact own_cst (if_pos hd) k
      · refine XS.icmpNo X0.here hx rfl (hb hby at_18) rfl (feq hd).1 ?_
        show Steps p.tables e below (s₁.setTop (mkF m 21 #[.val (.int x0), .val (.int (x0.toInt8.toInt32)), .val (.int (x0 &&& (255 : Int32))), .unset] [])) t
        refine XS.iconst X0.here hx rfl (hb hby at_21) ?_
        show Steps p.tables e below (s₁.setTop (mkF m 22 #[.val (.int x0), .val (.int (x0.toInt8.toInt32)), .val (.int (x0 &&& (255 : Int32))), .unset] [(.int (1 : Int32))])) t
        refine XS.goto X0.here hx rfl (pc0 := 22) (pc' := 26) rfl (hb hby at_22) (by decide) (by decide) ?_
        show Steps p.tables e below (s₁.setTop (mkF m 26 #[.val (.int x0), .val (.int (x0.toInt8.toInt32)), .val (.int (x0 &&& (255 : Int32))), .unset] [(.int (1 : Int32))])) t
        exact own_cst (if_neg hd) k
    refine Go.st dm1 ?_
    show Go p.tables e below (s₁.setTop (mkF m 26 #[.val (.int x0), .val (.int (x0.toInt8.toInt32)), .val (.int (x0 &&& (255 : Int32))), .unset] [(.int (if (x0 &&& (255 : Int32)) = (9 : Int32) then (0 : Int32) else (1 : Int32)))])) P
    refine Go.st (fun t k => XS.istoreN X0.here hx rfl (hb hby at_26) rfl (l' := #[.val (.int x0), .val (.int (x0.toInt8.toInt32)), .val (.int (x0 &&& (255 : Int32))), .val (.int (if (x0 &&& (255 : Int32)) = (9 : Int32) then (0 : Int32) else (1 : Int32)))]) rfl k) ?_
    show Go p.tables e below (s₁.setTop (mkF m 27 #[.val (.int x0), .val (.int (x0.toInt8.toInt32)), .val (.int (x0 &&& (255 : Int32))), .val (.int (if (x0 &&& (255 : Int32)) = (9 : Int32) then (0 : Int32) else (1 : Int32)))] [])) P
    refine Go.st (fun t k => XS.goto X0.here hx rfl (pc0 := 27) (pc' := 42) rfl (hb hby at_27) (by decide) (by decide) k) ?_
    show Go p.tables e below (s₁.setTop (mkF m 42 #[.val (.int x0), .val (.int (x0.toInt8.toInt32)), .val (.int (x0 &&& (255 : Int32))), .val (.int (if (x0 &&& (255 : Int32)) = (9 : Int32) then (0 : Int32) else (1 : Int32)))] [])) P
    refine Go.st (fun t k => XS.iloadN X0.here hx rfl (hb hby at_42) rfl k) ?_
    show Go p.tables e below (s₁.setTop (mkF m 43 #[.val (.int x0), .val (.int (x0.toInt8.toInt32)), .val (.int (x0 &&& (255 : Int32))), .val (.int (if (x0 &&& (255 : Int32)) = (9 : Int32) then (0 : Int32) else (1 : Int32)))] [(.int (x0.toInt8.toInt32))])) P
    obtain ⟨_, _, ⟨T2, L2, k2, n2⟩, -, X2, ⟨Lc2, hQ2, l2, y2, z2⟩, st2⟩ := Jvm.LawKit.callS X0 hx (y := (⟨"com/example/gatewright/gatewright/HeadParser", "isControl", "(B)Z"⟩ : MethodName)) hown (mvT hZ (hw _ (List.mem_of_getElem? (i := 0) rfl))) (mvT hZ (hw _ (List.mem_of_getElem? (i := 1) rfl))) (mvT hZ (hw _ (List.mem_of_getElem? (i := 2) rfl))) (mvT hZ (hw _ (List.mem_of_getElem? (i := 3) rfl))) (by decide) (backOf (W := 0) (rmCtl l Z a0 hw [] (x0.toInt8.toInt32) h0 n0 Z0) hZ (hw _ (List.mem_of_getElem? (i := 3) rfl)) (hw _ (List.mem_of_getElem? (i := 2) rfl)) (by decide) (by decide)) (g := (mkF m 43 #[.val (.int x0), .val (.int (x0.toInt8.toInt32)), .val (.int (x0 &&& (255 : Int32))), .val (.int (if (x0 &&& (255 : Int32)) = (9 : Int32) then (0 : Int32) else (1 : Int32)))] [(.int (x0.toInt8.toInt32))])) rfl (by rw [hml]; rfl) (argsL := [(.int (x0.toInt8.toInt32))]) (rest := []) (lenOf pd_0 rfl) rfl (by show 2 * 0 + _ ≤ _; exact Nat.le_of_eq rfl) (hb hby at_43) (fun _ _ => ⟨rfl, e0, (by decide : 0 + 0 ≤ _), (by decide : 0 + 0 ≤ _)⟩)
    dsimp only [Pt.U, Pt.locs, Pt.cells, Pt.slots] at X2 l2 y2 z2 st2 hQ2
    subst l2 y2 z2
    obtain ⟨rfl, N2q, e2⟩ := hQ2
    have N2 := Fr.app N0 N2q
    refine Go.st st2 ?_
    show Go p.tables e below (T2.setTop (mkF m 46 #[.val (.int x0), .val (.int (x0.toInt8.toInt32)), .val (.int (x0 &&& (255 : Int32))), .val (.int (if (x0 &&& (255 : Int32)) = (9 : Int32) then (0 : Int32) else (1 : Int32)))] [(.int (fCtl (x0.toInt8.toInt32)))])) P
    refine Go.st (fun t k => XS.iloadN X2.here hx rfl (hb hby at_46) rfl k) ?_
    show Go p.tables e below (T2.setTop (mkF m 47 #[.val (.int x0), .val (.int (x0.toInt8.toInt32)), .val (.int (x0 &&& (255 : Int32))), .val (.int (if (x0 &&& (255 : Int32)) = (9 : Int32) then (0 : Int32) else (1 : Int32)))] [(.int (if (x0 &&& (255 : Int32)) = (9 : Int32) then (0 : Int32) else (1 : Int32))), (.int (fCtl (x0.toInt8.toInt32)))])) P
    have dm3 : ∀ t, Steps p.tables e below (T2.setTop (mkF m 55 #[.val (.int x0), .val (.int (x0.toInt8.toInt32)), .val (.int (x0 &&& (255 : Int32))), .val (.int (if (x0 &&& (255 : Int32)) = (9 : Int32) then (0 : Int32) else (1 : Int32)))] [(.int (if (fCtl (x0.toInt8.toInt32)) = (if (x0 &&& (255 : Int32)) = (9 : Int32) then (0 : Int32) else (1 : Int32)) then (1 : Int32) else (0 : Int32)))])) t → Steps p.tables e below (T2.setTop (mkF m 47 #[.val (.int x0), .val (.int (x0.toInt8.toInt32)), .val (.int (x0 &&& (255 : Int32))), .val (.int (if (x0 &&& (255 : Int32)) = (9 : Int32) then (0 : Int32) else (1 : Int32)))] [(.int (if (x0 &&& (255 : Int32)) = (9 : Int32) then (0 : Int32) else (1 : Int32))), (.int (fCtl (x0.toInt8.toInt32)))])) t := by
      intro t k
      by_cases hd : (fCtl (x0.toInt8.toInt32)) = (if (x0 &&& (255 : Int32)) = (9 : Int32) then (0 : Int32) else (1 : Int32))
      · refine XS.icmpNo X2.here hx rfl (hb hby at_47) rfl (teq hd).2 ?_
        show Steps p.tables e below (T2.setTop (mkF m 50 #[.val (.int x0), .val (.int (x0.toInt8.toInt32)), .val (.int (x0 &&& (255 : Int32))), .val (.int (if (x0 &&& (255 : Int32)) = (9 : Int32) then (0 : Int32) else (1 : Int32)))] [])) t
        refine XS.iconst X2.here hx rfl (hb hby at_50) ?_
        show Steps p.tables e below (T2.setTop (mkF m 51 #[.val (.int x0), .val (.int (x0.toInt8.toInt32)), .val (.int (x0 &&& (255 : Int32))), .val (.int (if (x0 &&& (255 : Int32)) = (9 : Int32) then (0 : Int32) else (1 : Int32)))] [(.int (1 : Int32))])) t
        refine XS.goto X2.here hx rfl (pc0 := 51) (pc' := 55) rfl (hb hby at_51) (by decide) (by decide) ?_
        show Steps p.tables e below (T2.setTop (mkF m 55 #[.val (.int x0), .val (.int (x0.toInt8.toInt32)), .val (.int (x0 &&& (255 : Int32))), .val (.int (if (x0 &&& (255 : Int32)) = (9 : Int32) then (0 : Int32) else (1 : Int32)))] [(.int (1 : Int32))])) t
        exact own_cst (if_pos hd) k
      · refine XS.icmpYes X2.here hx rfl (pc0 := 47) (pc' := 54) rfl (hb hby at_47) rfl (feq hd).2 (by decide) (by decide) ?_
        show Steps p.tables e below (T2.setTop (mkF m 54 #[.val (.int x0), .val (.int (x0.toInt8.toInt32)), .val (.int (x0 &&& (255 : Int32))), .val (.int (if (x0 &&& (255 : Int32)) = (9 : Int32) then (0 : Int32) else (1 : Int32)))] [])) t
        refine XS.iconst X2.here hx rfl (hb hby at_54) ?_
        show Steps p.tables e below (T2.setTop (mkF m 55 #[.val (.int x0), .val (.int (x0.toInt8.toInt32)), .val (.int (x0 &&& (255 : Int32))), .val (.int (if (x0 &&& (255 : Int32)) = (9 : Int32) then (0 : Int32) else (1 : Int32)))] [(.int (0 : Int32))])) t
        exact own_cst (if_neg hd) k
    refine Go.st dm3 ?_
    show Go p.tables e below (T2.setTop (mkF m 55 #[.val (.int x0), .val (.int (x0.toInt8.toInt32)), .val (.int (x0 &&& (255 : Int32))), .val (.int (if (x0 &&& (255 : Int32)) = (9 : Int32) then (0 : Int32) else (1 : Int32)))] [(.int (if (fCtl (x0.toInt8.toInt32)) = (if (x0 &&& (255 : Int32)) = (9 : Int32) then (0 : Int32) else (1 : Int32)) then (1 : Int32) else (0 : Int32)))])) P
    obtain ⟨fs, hr, hrun, hended, hW, hsame⟩ := X2.leave (v := some (.int (if (fCtl (x0.toInt8.toInt32)) = (if (x0 &&& (255 : Int32)) = (9 : Int32) then (0 : Int32) else (1 : Int32)) then (1 : Int32) else (0 : Int32)))) (fun h => by rw [Bd.returns] at h; cases h)
    refine ⟨_, _, ?_, hP _ _ ⟨hrun, hended, _, _, rfl, ?_, ⟨_, rfl⟩, hW, hsame.mono (by decide) (by decide)⟩⟩
    · exact own_retN X2 hx (t := .boolean) Bd.returns (by simp) (own_nb rfl rfl) (hb hby at_55) hr
    · show (some (.int (if (fCtl (x0.toInt8.toInt32)) = (if (x0 &&& (255 : Int32)) = (9 : Int32) then (0 : Int32) else (1 : Int32)) then (1 : Int32) else (0 : Int32))) : Option Value) = some (.int 1) ∧ Fr n0 _
      exact ⟨congrArg (fun z => some (Value.int z)) (show (if (fCtl (x0.toInt8.toInt32)) = (if (x0 &&& (255 : Int32)) = (9 : Int32) then (0 : Int32) else (1 : Int32)) then (1 : Int32) else (0 : Int32)) = 1 from if_pos (own_law1 x0 hc12_1)), N2⟩
  · refine Go.st (fun t k => XS.icmpYes X0.here hx rfl (pc0 := 12) (pc' := 30) rfl (hb hby at_12) rfl (flt hc12_1).2.1 (by decide) (by decide) k) ?_
    show Go p.tables e below (s₁.setTop (mkF m 30 #[.val (.int x0), .val (.int (x0.toInt8.toInt32)), .val (.int (x0 &&& (255 : Int32))), .unset] [])) P
    refine Go.st (fun t k => XS.iloadN X0.here hx rfl (hb hby at_30) rfl k) ?_
    show Go p.tables e below (s₁.setTop (mkF m 31 #[.val (.int x0), .val (.int (x0.toInt8.toInt32)), .val (.int (x0 &&& (255 : Int32))), .unset] [(.int (x0 &&& (255 : Int32)))])) P
    refine Go.st (fun t k => XS.bipush X0.here hx rfl (hb hby at_31) k) ?_
    show Go p.tables e below (s₁.setTop (mkF m 33 #[.val (.int x0), .val (.int (x0.toInt8.toInt32)), .val (.int (x0 &&& (255 : Int32))), .unset] [(.int (127 : Int32)), (.int (x0 &&& (255 : Int32)))])) P
    have dm4 : ∀ t, Steps p.tables e below (s₁.setTop (mkF m 41 #[.val (.int x0), .val (.int (x0.toInt8.toInt32)), .val (.int (x0 &&& (255 : Int32))), .unset] [(.int (if (x0 &&& (255 : Int32)) = (127 : Int32) then (1 : Int32) else (0 : Int32)))])) t → Steps p.tables e below (s₁.setTop (mkF m 33 #[.val (.int x0), .val (.int (x0.toInt8.toInt32)), .val (.int (x0 &&& (255 : Int32))), .unset] [(.int (127 : Int32)), (.int (x0 &&& (255 : Int32)))])) t := by
      intro t k
      by_cases hd : (x0 &&& (255 : Int32)) = (127 : Int32)
      · refine XS.icmpNo X0.here hx rfl (hb hby at_33) rfl (teq hd).2 ?_
        show Steps p.tables e below (s₁.setTop (mkF m 36 #[.val (.int x0), .val (.int (x0.toInt8.toInt32)), .val (.int (x0 &&& (255 : Int32))), .unset] [])) t
        refine XS.iconst X0.here hx rfl (hb hby at_36) ?_
        show Steps p.tables e below (s₁.setTop (mkF m 37 #[.val (.int x0), .val (.int (x0.toInt8.toInt32)), .val (.int (x0 &&& (255 : Int32))), .unset] [(.int (1 : Int32))])) t
        refine XS.goto X0.here hx rfl (pc0 := 37) (pc' := 41) rfl (hb hby at_37) (by decide) (by decide) ?_
        show Steps p.tables e below (s₁.setTop (mkF m 41 #[.val (.int x0), .val (.int (x0.toInt8.toInt32)), .val (.int (x0 &&& (255 : Int32))), .unset] [(.int (1 : Int32))])) t
        exact own_cst (if_pos hd) k
      · refine XS.icmpYes X0.here hx rfl (pc0 := 33) (pc' := 40) rfl (hb hby at_33) rfl (feq hd).2 (by decide) (by decide) ?_
        show Steps p.tables e below (s₁.setTop (mkF m 40 #[.val (.int x0), .val (.int (x0.toInt8.toInt32)), .val (.int (x0 &&& (255 : Int32))), .unset] [])) t
        refine XS.iconst X0.here hx rfl (hb hby at_40) ?_
        show Steps p.tables e below (s₁.setTop (mkF m 41 #[.val (.int x0), .val (.int (x0.toInt8.toInt32)), .val (.int (x0 &&& (255 : Int32))), .unset] [(.int (0 : Int32))])) t
        exact own_cst (if_neg hd) k
    refine Go.st dm4 ?_
    show Go p.tables e below (s₁.setTop (mkF m 41 #[.val (.int x0), .val (.int (x0.toInt8.toInt32)), .val (.int (x0 &&& (255 : Int32))), .unset] [(.int (if (x0 &&& (255 : Int32)) = (127 : Int32) then (1 : Int32) else (0 : Int32)))])) P
    refine Go.st (fun t k => XS.istoreN X0.here hx rfl (hb hby at_41) rfl (l' := #[.val (.int x0), .val (.int (x0.toInt8.toInt32)), .val (.int (x0 &&& (255 : Int32))), .val (.int (if (x0 &&& (255 : Int32)) = (127 : Int32) then (1 : Int32) else (0 : Int32)))]) rfl k) ?_
    show Go p.tables e below (s₁.setTop (mkF m 42 #[.val (.int x0), .val (.int (x0.toInt8.toInt32)), .val (.int (x0 &&& (255 : Int32))), .val (.int (if (x0 &&& (255 : Int32)) = (127 : Int32) then (1 : Int32) else (0 : Int32)))] [])) P
    refine Go.st (fun t k => XS.iloadN X0.here hx rfl (hb hby at_42) rfl k) ?_
    show Go p.tables e below (s₁.setTop (mkF m 43 #[.val (.int x0), .val (.int (x0.toInt8.toInt32)), .val (.int (x0 &&& (255 : Int32))), .val (.int (if (x0 &&& (255 : Int32)) = (127 : Int32) then (1 : Int32) else (0 : Int32)))] [(.int (x0.toInt8.toInt32))])) P
    obtain ⟨_, _, ⟨T5, L5, k5, n5⟩, -, X5, ⟨Lc5, hQ5, l5, y5, z5⟩, st5⟩ := Jvm.LawKit.callS X0 hx (y := (⟨"com/example/gatewright/gatewright/HeadParser", "isControl", "(B)Z"⟩ : MethodName)) hown (mvT hZ (hw _ (List.mem_of_getElem? (i := 0) rfl))) (mvT hZ (hw _ (List.mem_of_getElem? (i := 1) rfl))) (mvT hZ (hw _ (List.mem_of_getElem? (i := 2) rfl))) (mvT hZ (hw _ (List.mem_of_getElem? (i := 3) rfl))) (by decide) (backOf (W := 0) (rmCtl l Z a0 hw [] (x0.toInt8.toInt32) h0 n0 Z0) hZ (hw _ (List.mem_of_getElem? (i := 3) rfl)) (hw _ (List.mem_of_getElem? (i := 2) rfl)) (by decide) (by decide)) (g := (mkF m 43 #[.val (.int x0), .val (.int (x0.toInt8.toInt32)), .val (.int (x0 &&& (255 : Int32))), .val (.int (if (x0 &&& (255 : Int32)) = (127 : Int32) then (1 : Int32) else (0 : Int32)))] [(.int (x0.toInt8.toInt32))])) rfl (by rw [hml]; rfl) (argsL := [(.int (x0.toInt8.toInt32))]) (rest := []) (lenOf pd_0 rfl) rfl (by show 2 * 0 + _ ≤ _; exact Nat.le_of_eq rfl) (hb hby at_43) (fun _ _ => ⟨rfl, e0, (by decide : 0 + 0 ≤ _), (by decide : 0 + 0 ≤ _)⟩)
    dsimp only [Pt.U, Pt.locs, Pt.cells, Pt.slots] at X5 l5 y5 z5 st5 hQ5
    subst l5 y5 z5
    obtain ⟨rfl, N5q, e5⟩ := hQ5
    have N5 := Fr.app N0 N5q
    refine Go.st st5 ?_
    show Go p.tables e below (T5.setTop (mkF m 46 #[.val (.int x0), .val (.int (x0.toInt8.toInt32)), .val (.int (x0 &&& (255 : Int32))), .val (.int (if (x0 &&& (255 : Int32)) = (127 : Int32) then (1 : Int32) else (0 : Int32)))] [(.int (fCtl (x0.toInt8.toInt32)))])) P
    refine Go.st (fun t k => XS.iloadN X5.here hx rfl (hb hby at_46) rfl k) ?_
    show Go p.tables e below (T5.setTop (mkF m 47 #[.val (.int x0), .val (.int (x0.toInt8.toInt32)), .val (.int (x0 &&& (255 : Int32))), .val (.int (if (x0 &&& (255 : Int32)) = (127 : Int32) then (1 : Int32) else (0 : Int32)))] [(.int (if (x0 &&& (255 : Int32)) = (127 : Int32) then (1 : Int32) else (0 : Int32))), (.int (fCtl (x0.toInt8.toInt32)))])) P
    have dm6 : ∀ t, Steps p.tables e below (T5.setTop (mkF m 55 #[.val (.int x0), .val (.int (x0.toInt8.toInt32)), .val (.int (x0 &&& (255 : Int32))), .val (.int (if (x0 &&& (255 : Int32)) = (127 : Int32) then (1 : Int32) else (0 : Int32)))] [(.int (if (fCtl (x0.toInt8.toInt32)) = (if (x0 &&& (255 : Int32)) = (127 : Int32) then (1 : Int32) else (0 : Int32)) then (1 : Int32) else (0 : Int32)))])) t → Steps p.tables e below (T5.setTop (mkF m 47 #[.val (.int x0), .val (.int (x0.toInt8.toInt32)), .val (.int (x0 &&& (255 : Int32))), .val (.int (if (x0 &&& (255 : Int32)) = (127 : Int32) then (1 : Int32) else (0 : Int32)))] [(.int (if (x0 &&& (255 : Int32)) = (127 : Int32) then (1 : Int32) else (0 : Int32))), (.int (fCtl (x0.toInt8.toInt32)))])) t := by
      intro t k
      by_cases hd : (fCtl (x0.toInt8.toInt32)) = (if (x0 &&& (255 : Int32)) = (127 : Int32) then (1 : Int32) else (0 : Int32))
      · refine XS.icmpNo X5.here hx rfl (hb hby at_47) rfl (teq hd).2 ?_
        show Steps p.tables e below (T5.setTop (mkF m 50 #[.val (.int x0), .val (.int (x0.toInt8.toInt32)), .val (.int (x0 &&& (255 : Int32))), .val (.int (if (x0 &&& (255 : Int32)) = (127 : Int32) then (1 : Int32) else (0 : Int32)))] [])) t
        refine XS.iconst X5.here hx rfl (hb hby at_50) ?_
        show Steps p.tables e below (T5.setTop (mkF m 51 #[.val (.int x0), .val (.int (x0.toInt8.toInt32)), .val (.int (x0 &&& (255 : Int32))), .val (.int (if (x0 &&& (255 : Int32)) = (127 : Int32) then (1 : Int32) else (0 : Int32)))] [(.int (1 : Int32))])) t
        refine XS.goto X5.here hx rfl (pc0 := 51) (pc' := 55) rfl (hb hby at_51) (by decide) (by decide) ?_
        show Steps p.tables e below (T5.setTop (mkF m 55 #[.val (.int x0), .val (.int (x0.toInt8.toInt32)), .val (.int (x0 &&& (255 : Int32))), .val (.int (if (x0 &&& (255 : Int32)) = (127 : Int32) then (1 : Int32) else (0 : Int32)))] [(.int (1 : Int32))])) t
        exact own_cst (if_pos hd) k
      · refine XS.icmpYes X5.here hx rfl (pc0 := 47) (pc' := 54) rfl (hb hby at_47) rfl (feq hd).2 (by decide) (by decide) ?_
        show Steps p.tables e below (T5.setTop (mkF m 54 #[.val (.int x0), .val (.int (x0.toInt8.toInt32)), .val (.int (x0 &&& (255 : Int32))), .val (.int (if (x0 &&& (255 : Int32)) = (127 : Int32) then (1 : Int32) else (0 : Int32)))] [])) t
        refine XS.iconst X5.here hx rfl (hb hby at_54) ?_
        show Steps p.tables e below (T5.setTop (mkF m 55 #[.val (.int x0), .val (.int (x0.toInt8.toInt32)), .val (.int (x0 &&& (255 : Int32))), .val (.int (if (x0 &&& (255 : Int32)) = (127 : Int32) then (1 : Int32) else (0 : Int32)))] [(.int (0 : Int32))])) t
        exact own_cst (if_neg hd) k
    refine Go.st dm6 ?_
    show Go p.tables e below (T5.setTop (mkF m 55 #[.val (.int x0), .val (.int (x0.toInt8.toInt32)), .val (.int (x0 &&& (255 : Int32))), .val (.int (if (x0 &&& (255 : Int32)) = (127 : Int32) then (1 : Int32) else (0 : Int32)))] [(.int (if (fCtl (x0.toInt8.toInt32)) = (if (x0 &&& (255 : Int32)) = (127 : Int32) then (1 : Int32) else (0 : Int32)) then (1 : Int32) else (0 : Int32)))])) P
    obtain ⟨fs, hr, hrun, hended, hW, hsame⟩ := X5.leave (v := some (.int (if (fCtl (x0.toInt8.toInt32)) = (if (x0 &&& (255 : Int32)) = (127 : Int32) then (1 : Int32) else (0 : Int32)) then (1 : Int32) else (0 : Int32)))) (fun h => by rw [Bd.returns] at h; cases h)
    refine ⟨_, _, ?_, hP _ _ ⟨hrun, hended, _, _, rfl, ?_, ⟨_, rfl⟩, hW, hsame.mono (by decide) (by decide)⟩⟩
    · exact own_retN X5 hx (t := .boolean) Bd.returns (by simp) (own_nb rfl rfl) (hb hby at_55) hr
    · show (some (.int (if (fCtl (x0.toInt8.toInt32)) = (if (x0 &&& (255 : Int32)) = (127 : Int32) then (1 : Int32) else (0 : Int32)) then (1 : Int32) else (0 : Int32))) : Option Value) = some (.int 1) ∧ Fr n0 _
      exact ⟨congrArg (fun z => some (Value.int z)) (show (if (fCtl (x0.toInt8.toInt32)) = (if (x0 &&& (255 : Int32)) = (127 : Int32) then (1 : Int32) else (0 : Int32)) then (1 : Int32) else (0 : Int32)) = 1 from if_pos (own_law2 x0 hc12_1)), N5⟩
set_option maxRecDepth 65536 in
set_option maxHeartbeats 40000000 in
theorem comes_1 {Post : Tables → Env → Array Value → State → Outcome → State → Prop} (hpost : ∀ tb e args s v u, (limb_1_1.after args s (.returned v) u = true ∧ limb_1_2.after args s (.returned v) u = true ∧ True) → FrameEnd s (.returned v) u (Jvm.fieldLocs frame_1_writes args s ++ Jvm.arrayLocs frame_1_arrays args s ++ Jvm.staticLocs frame_1_statics s) 0 0 → Post tb e args s (.returned v) u) :
    ArmFor flags0 classFile x code maxLocals ret World_1 tables_1 room_1 Calls_1 rest_1 Pre_1 Post := by
  intro l hfl _ _ p e ha hc hk s m args below hf hA hF happ hP
  obtain ⟨hcalls, hrest, hpre⟩ := hP
  obtain ⟨-, -, -, hnamed, -, -, -, hat⟩ := (Spec.applies_iff hf).mp happ
  obtain ⟨hg, hn⟩ := and_e (Cond.before_iff.mp (show (Jvm.Cond.and given_1 narrow_1).before args s = true from hpre))
  obtain ⟨g1, g2⟩ := and_e hg
  obtain ⟨w0, rfl⟩ : ∃ w0 : Value, args = #[w0] := by
    have hs : args.size = 1 := by simpa [Cond.value, given_1] using g1
    obtain ⟨L⟩ := args
    match L, hs with
    | [w0], _ => exact ⟨w0, rfl⟩
  have hw := fun d (hd : d ∈ tables_1) => atoms_spec (ws := Jvm.Cond.code x code maxLocals ret :: tables_1) hat d (List.mem_cons_of_mem _ hd)
  have hfit : Fit s := fun {y c} hc i hi => by
    obtain ⟨ha, rfl⟩ := Array.getElem?_eq_some_iff.mp hc
    have q := List.all_eq_true.mp ((Array.all_eq_true_iff_forall_mem.mp hF) _ (Array.getElem_mem ha)) i (List.mem_range.mpr hi)
    simpa [Array.getElem?_eq_getElem hi] using q
  obtain ⟨i0, ei0⟩ := is_v g2
  obtain rfl : w0 = (.int i0) := Option.some.inj ei0
  obtain ⟨n, o, h1, h2, h3, _, L, rfl, ⟨rfl, N⟩, hq⟩ := rm0 l s _ hw tables_1 i0  s.heap s.heap.size (Nat.le_refl _)  p e ha hc hk s m _ below hf ((Spec.applies_iff_loose hf).mp happ).1 ⟨rfl, State.Warmed39.refl s, rfl⟩ trivial
  refine ⟨n, _, h1, h2, h3, hpost _ _ _ _ _ _ ⟨Cond.after_iff.mpr rfl, Cond.after_iff.mpr (eq_i res_at (Term.int_eval (1)) rfl), trivial⟩ ⟨hq.1, hq.2.1, (hq.2.2.sift fun y hy => Or.inr (N y hy)).mono (by decide) (by decide)⟩⟩
theorem main_1_1 : Claimed_1_1 := comes_1 fun _ _ _ _ _ _ h hF => ⟨h.1, hF⟩
theorem main_1_2 : Claimed_1_2 := comes_1 fun _ _ _ _ _ _ h hF => ⟨h.2.1, hF⟩
end Jvm.Pilot.@@N@@
namespace Jvm.Pilot.@@N@@
open Jvm Jvm.ClassFile Sem Op Lib Jvm.Free Jvm.Stand Jvm.Pilot.@@N@@.Jvm.D
/-! MADE BY PROGRAM (witnessworld.py) out of the Statement's table words and the real class files: 9 classes; the members and pool entries that the words name. The judged class is class 1, her method 1. -/
namespace start1
open Jvm.ClassFile
def u (s : String) : CpInfo := .utf8 (stringToUtf16 s)
/-- a pool by its gaps: so many unusable entries, then the entry; so many at the end -/
def gap : Nat → List CpInfo → List CpInfo
  | 0, r => r
  | n + 1, r => .unusable :: gap n r
def poolList (es : List (Nat × CpInfo)) (last : Nat) : List CpInfo := es.foldr (fun e r => gap e.1 (e.2 :: r)) (gap last [])
def pool (es : List (Nat × CpInfo)) (last : Nat) : Array CpInfo := ⟨poolList es last⟩
def fileOf (pool : Array CpInfo) (this : Nat) (attrs : Array Attribute := #[]) (ms : Array MethodInfo := #[]) (fl : Nat := 33) (sup : Nat := 0) (ifs : Array Nat := #[]) (fds : Array FieldInfo := #[]) : ClassFile where
  minorVersion := 0
  majorVersion := 65
  constantPool := pool
  accessFlags := fl
  thisClass := this
  superClass := sup
  interfaces := ifs
  fields := fds
  methods := ms
  attributes := attrs
def plain (name : String) (sup : Option ClassId) : Class where
  name := name
  kind := .ordinary
  loader := none
  accessFlags := 33
  super := sup
  interfaces := #[]
  cf := none
  fields := #[]
  methods := #[]
  instanceTypes := #[]
  staticTypes := #[]
  resolved := #[]
  callSites := []
  init := .initialized
  statics := none
  mirror := none

def pool0 : Array CpInfo := pool [(5, u "<init>"), (0, u "()V"), (1, .class_ 10), (1, u "java/lang/Object")] 113

def k0m0 : Method := { name := "<init>", desc := "()V", sig := { parameters := [], returnType := none }, accessFlags := 1, code := none }
/-- java/lang/Object -/
def k0 : Class := { plain "java/lang/Object" none with
  accessFlags := 33
  interfaces := #[]
  cf := some (fileOf pool0 8 #[] #[{ accessFlags := 1, nameIndex := 5, descriptorIndex := 6, attributes := #[] }] 33 0 #[] #[])
  fields := #[]
  methods := #[k0m0]
  instanceTypes := #[]
  staticTypes := #[]
  resolved := Array.replicate 124 none
  statics := none }

def pool1 : Array CpInfo := pool [(2, .class_ 4), (1, u "java/lang/Object"), (0, u "<init>"), (0, u "()V"), (0, .methodref 8 9), (0, .class_ 10), (0, .nameAndType 11 12), (0, u "com/example/gatewright/gatewright/HeadParser"), (0, u "isControl"), (0, u "(B)Z"), (0, .class_ 14), (0, u "com/example/gatewright/gatewright/HeadParserIsControlPinLaw"), (2, u "law"), (0, u "(I)Z")] 3

def k1m0 : Method := { name := "<init>", desc := "()V", sig := { parameters := [], returnType := none }, accessFlags := 1, code := none }
def k1c1 : Code := { maxStack := 2, maxLocals := 4, code := code, exceptionTable := #[], attributes := #[] }
def k1m1 : Method := { name := "law", desc := "(I)Z", sig := { parameters := [.int], returnType := some .boolean }, accessFlags := 9, code := some k1c1 }
/-- com/example/gatewright/gatewright/HeadParserIsControlPinLaw -/
def k1 : Class := { plain "com/example/gatewright/gatewright/HeadParserIsControlPinLaw" (some 0) with
  accessFlags := 49
  interfaces := #[]
  cf := some (fileOf pool1 13 #[] #[{ accessFlags := 1, nameIndex := 5, descriptorIndex := 6, attributes := #[] }, { accessFlags := 9, nameIndex := 17, descriptorIndex := 18, attributes := #[] }] 49 2 #[] #[])
  fields := #[]
  methods := #[k1m0, k1m1]
  instanceTypes := #[]
  staticTypes := #[]
  resolved := Array.replicate 22 none
  statics := none }

def pool2 : Array CpInfo := pool [(1, .class_ 2), (0, u "com/example/gatewright/gatewright/HeadParser"), (1, .class_ 6), (1, u "java/lang/Object"), (4, u "bytes"), (0, u "[B"), (55, u "at"), (0, u "I"), (35, u "VERSION_LENGTH"), (54, u "TCHAR"), (0, u "[Z"), (3, u "(B)Z"), (10, u "isControl"), (26, u "METHODS"), (0, u "Ljava/util/List;"), (52, u "LIMIT"), (2, u "VERSION_PREFIX"), (0, u "Ljava/lang/String;"), (0, u "SENT_VERSION")] 41

def k2c0 : Code := { maxStack := 2, maxLocals := 1, code := prog_8_method_24_code, exceptionTable := #[], attributes := #[] }
def k2m0 : Method := { name := "isControl", desc := "(B)Z", sig := { parameters := [.byte], returnType := some .boolean }, accessFlags := 8, code := some k2c0 }
/-- com/example/gatewright/gatewright/HeadParser -/
def k2 : Class := { plain "com/example/gatewright/gatewright/HeadParser" (some 0) with
  accessFlags := 48
  interfaces := #[]
  cf := some (fileOf pool2 1 #[] #[{ accessFlags := 8, nameIndex := 176, descriptorIndex := 165, attributes := #[] }] 48 4 #[] #[{ accessFlags := 24, nameIndex := 257, descriptorIndex := 69, attributes := #[] }, { accessFlags := 26, nameIndex := 260, descriptorIndex := 261, attributes := #[] }, { accessFlags := 26, nameIndex := 105, descriptorIndex := 69, attributes := #[] }, { accessFlags := 26, nameIndex := 262, descriptorIndex := 261, attributes := #[] }, { accessFlags := 26, nameIndex := 203, descriptorIndex := 204, attributes := #[] }, { accessFlags := 26, nameIndex := 160, descriptorIndex := 161, attributes := #[] }, { accessFlags := 18, nameIndex := 11, descriptorIndex := 12, attributes := #[] }, { accessFlags := 2, nameIndex := 68, descriptorIndex := 69, attributes := #[] }])
  fields := #[{ name := "LIMIT", type := .int, accessFlags := 24, slot := 0, constantValue := 0 }, { name := "VERSION_PREFIX", type := (.object "java/lang/String"), accessFlags := 26, slot := 1, constantValue := 0 }, { name := "VERSION_LENGTH", type := .int, accessFlags := 26, slot := 2, constantValue := 0 }, { name := "SENT_VERSION", type := (.object "java/lang/String"), accessFlags := 26, slot := 3, constantValue := 0 }, { name := "METHODS", type := (.object "java/util/List"), accessFlags := 26, slot := 4, constantValue := 0 }, { name := "TCHAR", type := (.array .boolean), accessFlags := 26, slot := 5, constantValue := 0 }, { name := "bytes", type := (.array .byte), accessFlags := 18, slot := 0, constantValue := 0 }, { name := "at", type := .int, accessFlags := 2, slot := 1, constantValue := 0 }]
  methods := #[k2m0]
  instanceTypes := #[(.array .byte), .int]
  staticTypes := #[.int, (.object "java/lang/String"), .int, (.object "java/lang/String"), (.object "java/util/List"), (.array .boolean)]
  resolved := Array.replicate 304 none
  statics := none }

def pool3 : Array CpInfo := pool [(1, u "java/lang/Cloneable"), (0, .class_ 1), (0, u "java/lang/Object"), (0, .class_ 3)] 3

/-- java/lang/Cloneable -/
def k3 : Class := { plain "java/lang/Cloneable" (some 0) with
  accessFlags := 1537
  interfaces := #[]
  cf := some (fileOf pool3 2 #[] #[] 1537 4 #[] #[])
  fields := #[]
  methods := #[]
  instanceTypes := #[]
  staticTypes := #[]
  resolved := Array.replicate 8 none
  statics := none }

def pool4 : Array CpInfo := pool [(1, u "java/io/Serializable"), (0, .class_ 1), (0, u "java/lang/Object"), (0, .class_ 3)] 3

/-- java/io/Serializable -/
def k4 : Class := { plain "java/io/Serializable" (some 0) with
  accessFlags := 1537
  interfaces := #[]
  cf := some (fileOf pool4 2 #[] #[] 1537 4 #[] #[])
  fields := #[]
  methods := #[]
  instanceTypes := #[]
  staticTypes := #[]
  resolved := Array.replicate 8 none
  statics := none }

/-- the primitive byte -/
def k5 : Class := { plain "byte" none with kind := .primitive 'B', accessFlags := 0x411 }
/-- [B -/
def k6 : Class := { plain "[B" (some 0) with kind := .array 5 .byte, interfaces := #[3, 4], accessFlags := 1041 }

/-- the primitive int -/
def k7 : Class := { plain "int" none with kind := .primitive 'I', accessFlags := 0x411 }
/-- [I -/
def k8 : Class := { plain "[I" (some 0) with kind := .array 7 .int, interfaces := #[3, 4], accessFlags := 1041 }

def heap : Heap := #[]
def classes : Array Class := #[k0, k1, k2, k3, k4, k5, k6, k7, k8]
def interned : List (Array UInt16 × Addr) := []
def slotsUsed : Nat := 0
def theMethod : MethodId := ⟨1, 1⟩
def args0 : Array Value := #[.int 5]
def aboutOver (below : List Frame) : State where
  vm := { classes := classes, interned := interned.toArray }
  heap := heap
  slotsUsed := slotsUsed
  threads := #[{ frames := .invoking theMethod args0 :: below }]
def below0 : List Frame := [.native { method := ⟨0, 0⟩, args := #[] }]
def about1 : State := aboutOver below0
def p0 : Program := .bare "" "" ""
def e0 : Env := launch0.env 0 0 0
theorem w_frames : about1.frames = Frame.invoking theMethod args0 :: below0 := rfl
set_option maxRecDepth 65536 in
theorem w_args : argsFit about1.vm theMethod args0 = true := by decide +kernel
set_option maxRecDepth 65536 in
theorem w_heap : heapFits about1 = true := by decide +kernel
set_option maxRecDepth 65536 in
theorem w_runnable : about1.curStatus? = some .runnable := by decide +kernel
set_option maxRecDepth 65536 in
theorem w_alone : about1.alone = true := by decide +kernel
set_option maxRecDepth 65536 in
theorem w_named : about1.methodNamed? x = some theMethod := by decide +kernel
set_option maxRecDepth 65536 in
theorem w_hears : about1.hears theMethod below0 = true := by decide +kernel
set_option maxRecDepth 65536 in
theorem w_ripe : about1.ripe theMethod args0 below0 = true := by decide +kernel
theorem w_running : about1.status = .running := rfl
set_option maxRecDepth 65536 in
theorem w_room : about1.hasRoom e0.platform room_1 = true :=
  launch0.hasRoom_least _ room_1 (by decide +kernel) (by decide +kernel) (by decide +kernel) (by decide +kernel) (by decide +kernel) (by decide +kernel)
theorem allAtoms_all (ts : List Jvm.Cond) (a : Array Jvm.Value) (st : Jvm.State) : (allAtoms ts).before a st = ts.all (fun c => c.before a st) := by
  induction ts with
  | nil => rfl
  | cons c t ih =>
    show (Jvm.Cond.and c (allAtoms t)).before a st = _
    rw [Jvm.Cond.before_and, ih, List.all_cons]
def words1 : List Jvm.Cond := Jvm.Cond.code x code maxLocals ret :: tables_1
/-- a 'code' word, met by the world's own term for the bytes: nothing is compared byte by byte -/
theorem code_word {y : MethodName} {bytes : ByteArray} {mx : Nat} {rt : Option FieldType} {a : Array Value} {s : State} {m : MethodId} {meth : Method} {c : Code} (h1 : s.methodNamed? y = some m) (h2 : s.vm.method? m = some meth) (h3 : meth.code = some c) (h4 : c.code = bytes)
    (h5 : (c.maxLocals == mx && c.exceptionTable.isEmpty && decide (c.maxStack ≤ mostOperands) && decide (meth.sig.returnType = rt) && !meth.locks && decide (parseMethodDescriptor y.desc = some meth.sig)) = true) : (Jvm.Cond.code y bytes mx rt).before a s = true := by
  simp only [Bool.and_eq_true, beq_iff_eq, Bool.not_eq_true', decide_eq_true_eq] at h5
  obtain ⟨⟨⟨⟨⟨g1, g2⟩, g3⟩, g4⟩, g5⟩, g6⟩ := h5
  simp [Cond.before, Cond.holds, Cond.value, h1, h2, h3, h4, g1, g2, g3, g4, g5, g6]
def isCode : Jvm.Cond → Bool
  | .code _ _ _ _ => true
  | _ => false
theorem all_split {L : List Jvm.Cond} {P : Jvm.Cond → Bool} (h1 : L.all (fun c => isCode c || P c) = true) (h2 : ∀ c ∈ L.filter isCode, P c = true) : L.all P = true := by
  refine List.all_eq_true.mpr fun c hc => ?_
  have h := List.all_eq_true.mp h1 c hc
  rcases Bool.eq_false_or_eq_true (isCode c) with hi | hi
  · exact h2 c (List.mem_filter.mpr ⟨hc, hi⟩)
  · simpa [hi] using h
set_option maxRecDepth 65536 in
theorem w_c0 : (Jvm.Cond.code x code maxLocals ret).before args0 about1 = true := code_word (m := ⟨1, 1⟩) (meth := k1m1) (c := k1c1) (by decide +kernel) rfl rfl rfl (by decide +kernel)
set_option maxRecDepth 65536 in
theorem w_c1 : (Jvm.Cond.code ({ cls := "com/example/gatewright/gatewright/HeadParser", name := "isControl", desc := "(B)Z" } : Jvm.MethodName) prog_8_method_24_code (1 : Nat) (Option.some Jvm.ClassFile.FieldType.boolean)).before args0 about1 = true := code_word (m := ⟨2, 0⟩) (meth := k2m0) (c := k2c0) (by decide +kernel) rfl rfl rfl (by decide +kernel)
def codes1 : List Jvm.Cond := [Jvm.Cond.code x code maxLocals ret, Jvm.Cond.code ({ cls := "com/example/gatewright/gatewright/HeadParser", name := "isControl", desc := "(B)Z" } : Jvm.MethodName) prog_8_method_24_code (1 : Nat) (Option.some Jvm.ClassFile.FieldType.boolean)]
set_option maxRecDepth 65536 in
theorem codes_eq : words1.filter isCode = codes1 := rfl
theorem w_codes : ∀ c ∈ words1.filter isCode, c.before args0 about1 = true := by
  rw [codes_eq]
  intro c hc
  simp only [codes1, List.mem_cons, List.not_mem_nil, or_false] at hc
  rcases hc with rfl | rfl
  · exact w_c0
  · exact w_c1
set_option maxRecDepth 65536 in
theorem w_t1 : words1.all (fun c => isCode c || c.before args0 about1) = true := by decide +kernel
theorem w_tables : (allAtoms (Jvm.Cond.code x code maxLocals ret :: tables_1)).before args0 about1 = true := by
  rw [allAtoms_all]
  show words1.all (fun c => c.before args0 about1) = true
  refine all_split ?_ w_codes
  rw [w_t1]
set_option maxRecDepth 65536 in
theorem w_case : (Jvm.Cond.and given_1 narrow_1).before args0 about1 = true := by decide +kernel
theorem w_applies : (headSpec (Jvm.Cond.code x code maxLocals ret :: tables_1) room_1).applies x e0.platform about1 = true :=
  (Spec.applies_iff w_frames).mpr ⟨w_running, w_runnable, w_alone, w_named, w_hears, w_ripe, w_room, w_tables⟩
theorem atStart : AtStart classFile x code maxLocals ret World_1 tables_1 room_1 Calls_1 rest_1 Pre_1 launch0 p0 e0 about1 theMethod args0 below0 :=
  ⟨lists_1, trivial, launch0.admits_env _ _ _, launch0.least_env, fairChoices_fair.cas, fairChoices_fair.clock, w_frames, w_args, w_heap, w_applies, trivial, trivial, w_case⟩
end start1
theorem witness_1 : WitnessClaimed_1 := ⟨start1.p0, start1.e0, start1.about1, start1.theMethod, start1.args0, start1.below0, start1.atStart⟩
end Jvm.Pilot.@@N@@
