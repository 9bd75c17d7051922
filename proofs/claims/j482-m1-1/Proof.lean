import JvmDerived
import JvmDerived.Pilot.@@N@@Statement
import JvmDerived.Pilot.@@N@@Code
set_option linter.unusedVariables false
set_option linter.unusedSimpArgs false
namespace Jvm.RoadKit
open Sem ClassFile Op Lib Jvm.Stand Jvm.Free Jvm.LawKit
section New
variable {p : Program} {l : Launch} {e : Env} {R : Room} {s : State} {m : MethodId} {args : Array Value} {below : List Frame} {meth : Method} {c : Code} {T : State} {locs : List Loc} {cells slots : Nat}
theorem retI (X : Stand p l e R s m args below meth c T locs cells slots) (hx : p.tables.exec = Jvm.exec) {pc : Nat} {Ls : Array Slot} {z : Int32} {rest : List Value} (hret : meth.sig.returnType = some .int) (hd : decode c.code pc = .ok (.ireturn, 1)) {fs : List Frame}
    (hl : ∀ (f : JFrame) (acts : List Action), f.method = m → f.locked = none → f.entered = [] → (doReturn e (T.setTop f) acts (some (.int z))).1 = T.setFrames fs) : Steps p.tables e below (T.setTop (mkF m pc Ls (.int z :: rest))) (T.setFrames fs) := by
  have hm' : T.vm.method? m = some meth := X.method'
  have hn : narrow .int (.int z) = .int z := rfl
  show Steps p.tables e below (T.setTop { method := m, pc := pc, locals := Ls, stack := _ :: rest, locked := none }) _
  jvm_step X.here [X.here.top, hx, hd, hm', hret, hn]
  first | (intro acts; rw [hl _ acts rfl rfl rfl]) | rw [hl _ _ rfl rfl rfl]
  exact Steps.refl _
theorem own_nb {t : FieldType} {c : Prop} [Decidable c] {a b : Int32} (ha : nar t a = a) (hb : nar t b = b) : nar t (if c then a else b) = (if c then a else b) := by
  by_cases h : c
  · rw [if_pos h]; exact ha
  · rw [if_neg h]; exact hb
theorem own_retN (X : Stand p l e R s m args below meth c T locs cells slots) (hx : p.tables.exec = Jvm.exec) {pc : Nat} {Ls : Array Slot} {z : Int32} {t : FieldType} {rest : List Value} (hret : meth.sig.returnType = some t) (ht : t = .boolean ∨ t = .byte ∨ t = .char ∨ t = .short) (hz : nar t z = z)
    (hd : decode c.code pc = .ok (.ireturn, 1)) {fs : List Frame} (hl : ∀ (f : JFrame) (acts : List Action), f.method = m → f.locked = none → f.entered = [] → (doReturn e (T.setTop f) acts (some (.int z))).1 = T.setFrames fs) :
    Steps p.tables e below (T.setTop (mkF m pc Ls (.int z :: rest))) (T.setFrames fs) := retN X hx hret ht hd (by rw [hz]; exact hl)
end New
end Jvm.RoadKit
namespace Jvm.Pilot.@@N@@
open Jvm Jvm.ClassFile Sem Op Lib Jvm.Free Jvm.Stand Jvm.LawKit Jvm.RoadKit Bundle Jvm.Pilot.@@N@@.Jvm.D
/-- from the state A the run comes to some end that P takes -/
def Go (tb : Tables) (e : Env) (below : List Frame) (A : State) (P : State → Outcome → Prop) : Prop := ∃ t o, Steps tb e below A t ∧ P t o
theorem Go.st {tb : Tables} {e : Env} {below : List Frame} {A B : State} {P : State → Outcome → Prop} (h : ∀ t, Steps tb e below A t → Steps tb e below B t) (k : Go tb e below A P) : Go tb e below B P := by
  obtain ⟨t, o, h1, h2⟩ := k; exact ⟨t, o, h t h1, h2⟩
theorem Go.tr {tb : Tables} {e : Env} {below : List Frame} {A B : State} {P : State → Outcome → Prop} (h : Steps tb e below B A) (k : Go tb e below A P) : Go tb e below B P := by
  obtain ⟨t, o, h1, h2⟩ := k; exact ⟨t, o, h.trans h1, h2⟩
theorem Go.start {tb : Tables} {e : Env} {below : List Frame} {A : State} {P0 : State → Outcome → Prop} (h : ∀ P : State → Outcome → Prop, (∀ t o, P0 t o → P t o) → Go tb e below A P) : ∃ t o, Steps tb e below A t ∧ P0 t o := h P0 (fun _ _ q => q)
theorem own_cat {v : Value} (h : v.isRef = true) : v.category = 1 := by rcases ref_cases h with rfl | ⟨_, rfl⟩ <;> rfl
theorem own_cst {tb : Tables} {e : Env} {below : List Frame} {T : State} {m : MethodId} {J : Nat} {Ls : Array Slot} {a b : Int32} {rest : List Value} {t : State} (h : a = b) (k : Steps tb e below (T.setTop (mkF m J Ls (.int a :: rest))) t) : Steps tb e below (T.setTop (mkF m J Ls (.int b :: rest))) t := h ▸ k
theorem own_lt {x y : Int64} (h : x < y) : lcmpW x y < 0 := (lw_lt x y).mpr h
theorem own_nlt {x y : Int64} (h : ¬ x < y) : ¬ lcmpW x y < 0 := fun q => h ((lw_lt x y).mp q)
theorem own_gt {x y : Int64} (h : y < x) : 0 < lcmpW x y := (lw_gt x y).mpr h
theorem own_ngt {x y : Int64} (h : ¬ y < x) : ¬ 0 < lcmpW x y := fun q => h ((lw_gt x y).mp q)
theorem own_eq {x y : Int64} (h : x = y) : lcmpW x y = 0 := (lw_eq x y).mpr h
theorem own_neq {x y : Int64} (h : ¬ x = y) : ¬ lcmpW x y = 0 := fun q => h ((lw_eq x y).mp q)
theorem d_prog_23_method_13_0 : decode prog_23_method_13_code 0 = .ok (.iload_n 0, 1) := by decide +kernel
theorem d_prog_23_method_13_1 : decode prog_23_method_13_code 1 = .ok (.bipush 48, 2) := by decide +kernel
theorem d_prog_23_method_13_3 : decode prog_23_method_13_code 3 = .ok (.if_icmp .lt 9, 3) := by decide +kernel
theorem d_prog_23_method_13_12 : decode prog_23_method_13_code 12 = .ok (.iload_n 0, 1) := by decide +kernel
theorem d_prog_23_method_13_13 : decode prog_23_method_13_code 13 = .ok (.bipush 97, 2) := by decide +kernel
theorem d_prog_23_method_13_15 : decode prog_23_method_13_code 15 = .ok (.if_icmp .lt 13, 3) := by decide +kernel
theorem d_prog_23_method_13_28 : decode prog_23_method_13_code 28 = .ok (.iconst 0, 1) := by decide +kernel
theorem d_prog_23_method_13_29 : decode prog_23_method_13_code 29 = .ok (.ireturn, 1) := by decide +kernel
theorem d_prog_23_method_13_18 : decode prog_23_method_13_code 18 = .ok (.iload_n 0, 1) := by decide +kernel
theorem d_prog_23_method_13_19 : decode prog_23_method_13_code 19 = .ok (.bipush 102, 2) := by decide +kernel
theorem d_prog_23_method_13_21 : decode prog_23_method_13_code 21 = .ok (.if_icmp .gt 7, 3) := by decide +kernel
theorem d_prog_23_method_13_24 : decode prog_23_method_13_code 24 = .ok (.iconst 1, 1) := by decide +kernel
theorem d_prog_23_method_13_25 : decode prog_23_method_13_code 25 = .ok (.goto 4, 3) := by decide +kernel
theorem d_prog_23_method_13_6 : decode prog_23_method_13_code 6 = .ok (.iload_n 0, 1) := by decide +kernel
theorem d_prog_23_method_13_7 : decode prog_23_method_13_code 7 = .ok (.bipush 57, 2) := by decide +kernel
theorem d_prog_23_method_13_9 : decode prog_23_method_13_code 9 = .ok (.if_icmp .le 15, 3) := by decide +kernel
theorem pn_0 : plainName "com/example/baton/baton/SpanContext" = true := by first | (simp [plainName, overriddenIn]; done) | decide +kernel
theorem ef_rmH (mi : MethodId) (c : Int32) : entryFrame mi #[(.int c)] 1 = mkF mi 0 #[.val (.int c)] [] := by first | (simp [entryFrame, mkF, argsToLocals, Value.category]; done) | rfl
def fH (c : Int32) : Int32 := (if c < (48 : Int32) then (if c < (97 : Int32) then (0 : Int32) else (if (102 : Int32) < c then (0 : Int32) else (1 : Int32))) else (if (57 : Int32) < c then (if c < (97 : Int32) then (0 : Int32) else (if (102 : Int32) < c then (0 : Int32) else (1 : Int32))) else (1 : Int32)))
def Q_rmH (Z : State) (c : Int32) (h0 : Heap) (n0 : Nat) (vv_ : Option Value) (hh_ : Heap) (LL_ : List Loc) : Prop := vv_ = some (.int (fH c)) ∧ Fr n0 LL_ ∧ hh_ = h0
set_option maxRecDepth 65536 in
set_option maxHeartbeats 40000000 in
theorem rmH (l : Launch) (Z : State) (a0 : Array Value) (hw : ∀ d ∈ tables_1, d.before a0 Z = true) (ws : List Jvm.Cond) (c : Int32) (h0 : Heap) (n0 : Nat) (Z0 : n0 ≤ h0.size) :
    MetFree l (⟨"com/example/baton/baton/SpanContext", "isLowerHexDigit", "(C)Z"⟩ : MethodName) (head1 (Jvm.Cond.code (⟨"com/example/baton/baton/SpanContext", "isLowerHexDigit", "(C)Z"⟩ : MethodName) prog_23_method_13_code 1 (some .boolean) :: ws) ({ frames := 0, cells := 0, slots := 0, locals := 0 } : Room)) (fun aa_ U => aa_ = #[(.int c)] ∧ Z.Warmed39 U.vm ∧ U.heap = h0) (fun _ _ _ _ _ => True) (fun _ U oo_ UV_ => ∃ vv_ LL_, oo_ = .returned vv_ ∧ Q_rmH Z c h0 n0 vv_ UV_.heap LL_ ∧ FrameEnd U oo_ UV_ LL_ ({ frames := 0, cells := 0, slots := 0, locals := 0 } : Room).cells ({ frames := 0, cells := 0, slots := 0, locals := 0 } : Room).slots) := by
  refine MetFree.of_bodySF (plainFor_of_name pn_0) hisR ?_
  intro pg ev si mi args below meth ci s₁ Bd hml0 hP0 hK
  obtain ⟨rfl, hZ, hh⟩ := hP0
  have hx := Bd.exec
  have hby := Bd.bytes
  have hml : ci.maxLocals = 1 := hml0
  have hown : si.vm.findClass "com/example/baton/baton/SpanContext" = some mi.cls := findClass_of_methodNamed Bd.named
  have hnm := (name_of_methodNamed Bd.named Bd.method).1
  have X0 : Stand pg l ev ({ frames := 0, cells := 0, slots := 0, locals := 0 } : Room) si mi #[(.int c)] below meth ci s₁ [] 0 0 := Stand.of_body Bd
  have e0 : s₁.heap = h0 := by rw [← hh, Bd.state]; rfl
  have N0 := Fr.nil n0
  refine Go.start (fun P hP => ?_)
  refine Go.st (fun t_ k_ => castTop (ef_rmH mi c) k_) (A := s₁.setTop (mkF mi 0 #[.val (.int c)] [])) ?_
  show Go pg.tables ev below (s₁.setTop (mkF mi 0 #[.val (.int c)] [])) P
  refine Go.st (fun t_ k_ => XS.iloadN X0.here hx rfl (hb hby d_prog_23_method_13_0) rfl k_) ?_
  show Go pg.tables ev below (s₁.setTop (mkF mi 1 #[.val (.int c)] [(.int c)])) P
  refine Go.st (fun t_ k_ => XS.bipush X0.here hx rfl (hb hby d_prog_23_method_13_1) k_) ?_
  show Go pg.tables ev below (s₁.setTop (mkF mi 3 #[.val (.int c)] [(.int (48 : Int32)), (.int c)])) P
  by_cases hc3_1 : c < (48 : Int32)
  · refine Go.st (fun t_ k_ => XS.icmpYes X0.here hx rfl (pc0 := 3) (pc' := 12) rfl (hb hby d_prog_23_method_13_3) rfl (tlt hc3_1).1 (by decide) (by decide) k_) ?_
    show Go pg.tables ev below (s₁.setTop (mkF mi 12 #[.val (.int c)] [])) P
    refine Go.st (fun t_ k_ => XS.iloadN X0.here hx rfl (hb hby d_prog_23_method_13_12) rfl k_) ?_
    show Go pg.tables ev below (s₁.setTop (mkF mi 13 #[.val (.int c)] [(.int c)])) P
    refine Go.st (fun t_ k_ => XS.bipush X0.here hx rfl (hb hby d_prog_23_method_13_13) k_) ?_
    show Go pg.tables ev below (s₁.setTop (mkF mi 15 #[.val (.int c)] [(.int (97 : Int32)), (.int c)])) P
    by_cases hc15_2 : c < (97 : Int32)
    · refine Go.st (fun t_ k_ => XS.icmpYes X0.here hx rfl (pc0 := 15) (pc' := 28) rfl (hb hby d_prog_23_method_13_15) rfl (tlt hc15_2).1 (by decide) (by decide) k_) ?_
      show Go pg.tables ev below (s₁.setTop (mkF mi 28 #[.val (.int c)] [])) P
      refine Go.st (fun t_ k_ => XS.iconst X0.here hx rfl (hb hby d_prog_23_method_13_28) k_) ?_
      show Go pg.tables ev below (s₁.setTop (mkF mi 29 #[.val (.int c)] [(.int (0 : Int32))])) P
      obtain ⟨fs, hr, hrun, hended, hW, hsame⟩ := X0.leave (v := some (.int (0 : Int32))) (fun h => by rw [Bd.returns] at h; cases h) (BodyLoose.notSynchronized Bd)
      refine ⟨_, _, ?_, hP _ _ ⟨hrun, hended, _, _, rfl, ?_, ⟨_, rfl⟩, hW, hsame.mono (by decide) (by decide)⟩⟩
      · exact retN X0 hx (t := .boolean) Bd.returns (by simp) (hb hby d_prog_23_method_13_29) hr
      · show (some (.int (0 : Int32)) : Option Value) = some (.int (fH c)) ∧ Fr n0 _ ∧ s₁.heap = h0
        rw [e0]
        exact ⟨by rw [show fH c = (0 : Int32) from ((if_pos hc3_1).trans ((if_pos hc15_2).trans rfl))], N0, rfl⟩
    · refine Go.st (fun t_ k_ => XS.icmpNo X0.here hx rfl (hb hby d_prog_23_method_13_15) rfl (flt hc15_2).1 k_) ?_
      show Go pg.tables ev below (s₁.setTop (mkF mi 18 #[.val (.int c)] [])) P
      refine Go.st (fun t_ k_ => XS.iloadN X0.here hx rfl (hb hby d_prog_23_method_13_18) rfl k_) ?_
      show Go pg.tables ev below (s₁.setTop (mkF mi 19 #[.val (.int c)] [(.int c)])) P
      refine Go.st (fun t_ k_ => XS.bipush X0.here hx rfl (hb hby d_prog_23_method_13_19) k_) ?_
      show Go pg.tables ev below (s₁.setTop (mkF mi 21 #[.val (.int c)] [(.int (102 : Int32)), (.int c)])) P
      have dm1 : ∀ t_, Steps pg.tables ev below (s₁.setTop (mkF mi 29 #[.val (.int c)] [(.int (if (102 : Int32) < c then (0 : Int32) else (1 : Int32)))])) t_ → Steps pg.tables ev below (s₁.setTop (mkF mi 21 #[.val (.int c)] [(.int (102 : Int32)), (.int c)])) t_ := by
        intro t_ k_
        by_cases hd : (102 : Int32) < c
        · refine XS.icmpYes X0.here hx rfl (pc0 := 21) (pc' := 28) rfl (hb hby d_prog_23_method_13_21) rfl (tlt hd).2.2.1 (by decide) (by decide) ?_
          show Steps pg.tables ev below (s₁.setTop (mkF mi 28 #[.val (.int c)] [])) t_
          refine XS.iconst X0.here hx rfl (hb hby d_prog_23_method_13_28) ?_
          show Steps pg.tables ev below (s₁.setTop (mkF mi 29 #[.val (.int c)] [(.int (0 : Int32))])) t_
          exact own_cst (if_pos hd) k_
        · refine XS.icmpNo X0.here hx rfl (hb hby d_prog_23_method_13_21) rfl (flt hd).2.2.1 ?_
          show Steps pg.tables ev below (s₁.setTop (mkF mi 24 #[.val (.int c)] [])) t_
          refine XS.iconst X0.here hx rfl (hb hby d_prog_23_method_13_24) ?_
          show Steps pg.tables ev below (s₁.setTop (mkF mi 25 #[.val (.int c)] [(.int (1 : Int32))])) t_
          refine XS.goto X0.here hx rfl (pc0 := 25) (pc' := 29) rfl (hb hby d_prog_23_method_13_25) (by decide) (by decide) ?_
          show Steps pg.tables ev below (s₁.setTop (mkF mi 29 #[.val (.int c)] [(.int (1 : Int32))])) t_
          exact own_cst (if_neg hd) k_
      refine Go.st dm1 ?_
      show Go pg.tables ev below (s₁.setTop (mkF mi 29 #[.val (.int c)] [(.int (if (102 : Int32) < c then (0 : Int32) else (1 : Int32)))])) P
      obtain ⟨fs, hr, hrun, hended, hW, hsame⟩ := X0.leave (v := some (.int (if (102 : Int32) < c then (0 : Int32) else (1 : Int32)))) (fun h => by rw [Bd.returns] at h; cases h) (BodyLoose.notSynchronized Bd)
      refine ⟨_, _, ?_, hP _ _ ⟨hrun, hended, _, _, rfl, ?_, ⟨_, rfl⟩, hW, hsame.mono (by decide) (by decide)⟩⟩
      · exact own_retN X0 hx (t := .boolean) Bd.returns (by simp) (own_nb rfl rfl) (hb hby d_prog_23_method_13_29) hr
      · show (some (.int (if (102 : Int32) < c then (0 : Int32) else (1 : Int32))) : Option Value) = some (.int (fH c)) ∧ Fr n0 _ ∧ s₁.heap = h0
        rw [e0]
        exact ⟨by rw [show fH c = (if (102 : Int32) < c then (0 : Int32) else (1 : Int32)) from ((if_pos hc3_1).trans ((if_neg hc15_2).trans rfl))], N0, rfl⟩
  · refine Go.st (fun t_ k_ => XS.icmpNo X0.here hx rfl (hb hby d_prog_23_method_13_3) rfl (flt hc3_1).1 k_) ?_
    show Go pg.tables ev below (s₁.setTop (mkF mi 6 #[.val (.int c)] [])) P
    refine Go.st (fun t_ k_ => XS.iloadN X0.here hx rfl (hb hby d_prog_23_method_13_6) rfl k_) ?_
    show Go pg.tables ev below (s₁.setTop (mkF mi 7 #[.val (.int c)] [(.int c)])) P
    refine Go.st (fun t_ k_ => XS.bipush X0.here hx rfl (hb hby d_prog_23_method_13_7) k_) ?_
    show Go pg.tables ev below (s₁.setTop (mkF mi 9 #[.val (.int c)] [(.int (57 : Int32)), (.int c)])) P
    by_cases hc9_3 : (57 : Int32) < c
    · refine Go.st (fun t_ k_ => XS.icmpNo X0.here hx rfl (hb hby d_prog_23_method_13_9) rfl (tlt hc9_3).2.2.2 k_) ?_
      show Go pg.tables ev below (s₁.setTop (mkF mi 12 #[.val (.int c)] [])) P
      refine Go.st (fun t_ k_ => XS.iloadN X0.here hx rfl (hb hby d_prog_23_method_13_12) rfl k_) ?_
      show Go pg.tables ev below (s₁.setTop (mkF mi 13 #[.val (.int c)] [(.int c)])) P
      refine Go.st (fun t_ k_ => XS.bipush X0.here hx rfl (hb hby d_prog_23_method_13_13) k_) ?_
      show Go pg.tables ev below (s₁.setTop (mkF mi 15 #[.val (.int c)] [(.int (97 : Int32)), (.int c)])) P
      by_cases hc15_4 : c < (97 : Int32)
      · refine Go.st (fun t_ k_ => XS.icmpYes X0.here hx rfl (pc0 := 15) (pc' := 28) rfl (hb hby d_prog_23_method_13_15) rfl (tlt hc15_4).1 (by decide) (by decide) k_) ?_
        show Go pg.tables ev below (s₁.setTop (mkF mi 28 #[.val (.int c)] [])) P
        refine Go.st (fun t_ k_ => XS.iconst X0.here hx rfl (hb hby d_prog_23_method_13_28) k_) ?_
        show Go pg.tables ev below (s₁.setTop (mkF mi 29 #[.val (.int c)] [(.int (0 : Int32))])) P
        obtain ⟨fs, hr, hrun, hended, hW, hsame⟩ := X0.leave (v := some (.int (0 : Int32))) (fun h => by rw [Bd.returns] at h; cases h) (BodyLoose.notSynchronized Bd)
        refine ⟨_, _, ?_, hP _ _ ⟨hrun, hended, _, _, rfl, ?_, ⟨_, rfl⟩, hW, hsame.mono (by decide) (by decide)⟩⟩
        · exact retN X0 hx (t := .boolean) Bd.returns (by simp) (hb hby d_prog_23_method_13_29) hr
        · show (some (.int (0 : Int32)) : Option Value) = some (.int (fH c)) ∧ Fr n0 _ ∧ s₁.heap = h0
          rw [e0]
          exact ⟨by rw [show fH c = (0 : Int32) from ((if_neg hc3_1).trans ((if_pos hc9_3).trans ((if_pos hc15_4).trans rfl)))], N0, rfl⟩
      · refine Go.st (fun t_ k_ => XS.icmpNo X0.here hx rfl (hb hby d_prog_23_method_13_15) rfl (flt hc15_4).1 k_) ?_
        show Go pg.tables ev below (s₁.setTop (mkF mi 18 #[.val (.int c)] [])) P
        refine Go.st (fun t_ k_ => XS.iloadN X0.here hx rfl (hb hby d_prog_23_method_13_18) rfl k_) ?_
        show Go pg.tables ev below (s₁.setTop (mkF mi 19 #[.val (.int c)] [(.int c)])) P
        refine Go.st (fun t_ k_ => XS.bipush X0.here hx rfl (hb hby d_prog_23_method_13_19) k_) ?_
        show Go pg.tables ev below (s₁.setTop (mkF mi 21 #[.val (.int c)] [(.int (102 : Int32)), (.int c)])) P
        have dm2 : ∀ t_, Steps pg.tables ev below (s₁.setTop (mkF mi 29 #[.val (.int c)] [(.int (if (102 : Int32) < c then (0 : Int32) else (1 : Int32)))])) t_ → Steps pg.tables ev below (s₁.setTop (mkF mi 21 #[.val (.int c)] [(.int (102 : Int32)), (.int c)])) t_ := by
          intro t_ k_
          by_cases hd : (102 : Int32) < c
          · refine XS.icmpYes X0.here hx rfl (pc0 := 21) (pc' := 28) rfl (hb hby d_prog_23_method_13_21) rfl (tlt hd).2.2.1 (by decide) (by decide) ?_
            show Steps pg.tables ev below (s₁.setTop (mkF mi 28 #[.val (.int c)] [])) t_
            refine XS.iconst X0.here hx rfl (hb hby d_prog_23_method_13_28) ?_
            show Steps pg.tables ev below (s₁.setTop (mkF mi 29 #[.val (.int c)] [(.int (0 : Int32))])) t_
            exact own_cst (if_pos hd) k_
          · refine XS.icmpNo X0.here hx rfl (hb hby d_prog_23_method_13_21) rfl (flt hd).2.2.1 ?_
            show Steps pg.tables ev below (s₁.setTop (mkF mi 24 #[.val (.int c)] [])) t_
            refine XS.iconst X0.here hx rfl (hb hby d_prog_23_method_13_24) ?_
            show Steps pg.tables ev below (s₁.setTop (mkF mi 25 #[.val (.int c)] [(.int (1 : Int32))])) t_
            refine XS.goto X0.here hx rfl (pc0 := 25) (pc' := 29) rfl (hb hby d_prog_23_method_13_25) (by decide) (by decide) ?_
            show Steps pg.tables ev below (s₁.setTop (mkF mi 29 #[.val (.int c)] [(.int (1 : Int32))])) t_
            exact own_cst (if_neg hd) k_
        refine Go.st dm2 ?_
        show Go pg.tables ev below (s₁.setTop (mkF mi 29 #[.val (.int c)] [(.int (if (102 : Int32) < c then (0 : Int32) else (1 : Int32)))])) P
        obtain ⟨fs, hr, hrun, hended, hW, hsame⟩ := X0.leave (v := some (.int (if (102 : Int32) < c then (0 : Int32) else (1 : Int32)))) (fun h => by rw [Bd.returns] at h; cases h) (BodyLoose.notSynchronized Bd)
        refine ⟨_, _, ?_, hP _ _ ⟨hrun, hended, _, _, rfl, ?_, ⟨_, rfl⟩, hW, hsame.mono (by decide) (by decide)⟩⟩
        · exact own_retN X0 hx (t := .boolean) Bd.returns (by simp) (own_nb rfl rfl) (hb hby d_prog_23_method_13_29) hr
        · show (some (.int (if (102 : Int32) < c then (0 : Int32) else (1 : Int32))) : Option Value) = some (.int (fH c)) ∧ Fr n0 _ ∧ s₁.heap = h0
          rw [e0]
          exact ⟨by rw [show fH c = (if (102 : Int32) < c then (0 : Int32) else (1 : Int32)) from ((if_neg hc3_1).trans ((if_pos hc9_3).trans ((if_neg hc15_4).trans rfl)))], N0, rfl⟩
    · refine Go.st (fun t_ k_ => XS.icmpYes X0.here hx rfl (pc0 := 9) (pc' := 24) rfl (hb hby d_prog_23_method_13_9) rfl (flt hc9_3).2.2.2 (by decide) (by decide) k_) ?_
      show Go pg.tables ev below (s₁.setTop (mkF mi 24 #[.val (.int c)] [])) P
      refine Go.st (fun t_ k_ => XS.iconst X0.here hx rfl (hb hby d_prog_23_method_13_24) k_) ?_
      show Go pg.tables ev below (s₁.setTop (mkF mi 25 #[.val (.int c)] [(.int (1 : Int32))])) P
      refine Go.st (fun t_ k_ => XS.goto X0.here hx rfl (pc0 := 25) (pc' := 29) rfl (hb hby d_prog_23_method_13_25) (by decide) (by decide) k_) ?_
      show Go pg.tables ev below (s₁.setTop (mkF mi 29 #[.val (.int c)] [(.int (1 : Int32))])) P
      obtain ⟨fs, hr, hrun, hended, hW, hsame⟩ := X0.leave (v := some (.int (1 : Int32))) (fun h => by rw [Bd.returns] at h; cases h) (BodyLoose.notSynchronized Bd)
      refine ⟨_, _, ?_, hP _ _ ⟨hrun, hended, _, _, rfl, ?_, ⟨_, rfl⟩, hW, hsame.mono (by decide) (by decide)⟩⟩
      · exact retN X0 hx (t := .boolean) Bd.returns (by simp) (hb hby d_prog_23_method_13_29) hr
      · show (some (.int (1 : Int32)) : Option Value) = some (.int (fH c)) ∧ Fr n0 _ ∧ s₁.heap = h0
        rw [e0]
        exact ⟨by rw [show fH c = (1 : Int32) from ((if_neg hc3_1).trans ((if_neg hc9_3).trans rfl))], N0, rfl⟩
def nC (z : Int32) : Int32 := z.toUInt32.toUInt16.toUInt32.toInt32
def own_P (z : Int32) : Prop := fH z = 1 ∧ nar .char z = z
theorem own_el : ∀ i, i < 16 → ∃ zz : Int32, ([(.int (48 : Int32)), (.int (49 : Int32)), (.int (50 : Int32)), (.int (51 : Int32)), (.int (52 : Int32)), (.int (53 : Int32)), (.int (54 : Int32)), (.int (55 : Int32)), (.int (56 : Int32)), (.int (57 : Int32)), (.int (97 : Int32)), (.int (98 : Int32)), (.int (99 : Int32)), (.int (100 : Int32)), (.int (101 : Int32)), (.int (102 : Int32))] : List Value).getD i (.int 0) = .int zz ∧ own_P ((zz &&& (255 : Int32)).toUInt32.toUInt16.toUInt32.toInt32) := by
  intro i hi
  match i, hi with
  | 0, _ => exact ⟨_, rfl, by decide, by decide⟩
  | 1, _ => exact ⟨_, rfl, by decide, by decide⟩
  | 2, _ => exact ⟨_, rfl, by decide, by decide⟩
  | 3, _ => exact ⟨_, rfl, by decide, by decide⟩
  | 4, _ => exact ⟨_, rfl, by decide, by decide⟩
  | 5, _ => exact ⟨_, rfl, by decide, by decide⟩
  | 6, _ => exact ⟨_, rfl, by decide, by decide⟩
  | 7, _ => exact ⟨_, rfl, by decide, by decide⟩
  | 8, _ => exact ⟨_, rfl, by decide, by decide⟩
  | 9, _ => exact ⟨_, rfl, by decide, by decide⟩
  | 10, _ => exact ⟨_, rfl, by decide, by decide⟩
  | 11, _ => exact ⟨_, rfl, by decide, by decide⟩
  | 12, _ => exact ⟨_, rfl, by decide, by decide⟩
  | 13, _ => exact ⟨_, rfl, by decide, by decide⟩
  | 14, _ => exact ⟨_, rfl, by decide, by decide⟩
  | 15, _ => exact ⟨_, rfl, by decide, by decide⟩
  | n + 16, h => exact absurd h (by omega)
theorem own_law1 (x : Int32) (h : (((x.toUInt32.toUInt16.toUInt32.toInt32) - (48 : Int32)).toUInt32.toUInt16.toUInt32.toInt32) < (10 : Int32)) : fH (x.toUInt32.toUInt16.toUInt32.toInt32) = (1 : Int32) := by
  have e1 := c_i2c x
  have e2 := c_isub x.toUInt32.toUInt16.toUInt32.toInt32 48
  have e3 := c_i2c (x.toUInt32.toUInt16.toUInt32.toInt32 - 48)
  have l0 : (48 : Int32).toInt = 48 := rfl
  have l1 : (57 : Int32).toInt = 57 := rfl
  have l2 : (97 : Int32).toInt = 97 := rfl
  have l3 : (102 : Int32).toInt = 102 := rfl
  have l4 : (10 : Int32).toInt = 10 := rfl
  unfold fH
  generalize (x.toUInt32.toUInt16.toUInt32.toInt32 - 48).toUInt32.toUInt16.toUInt32.toInt32 = v at *
  generalize x.toUInt32.toUInt16.toUInt32.toInt32 - 48 = u at *
  generalize x.toUInt32.toUInt16.toUInt32.toInt32 = w at *
  repeat' split
  all_goals first | rfl | (exfalso; simp only [Int32.lt_iff_toInt_lt] at *; omega)
theorem own_law2 (x : Int32) (h : ¬ (((x.toUInt32.toUInt16.toUInt32.toInt32) - (48 : Int32)).toUInt32.toUInt16.toUInt32.toInt32) < (10 : Int32)) : fH (x.toUInt32.toUInt16.toUInt32.toInt32) = (if (((x.toUInt32.toUInt16.toUInt32.toInt32) - (97 : Int32)).toUInt32.toUInt16.toUInt32.toInt32) < (6 : Int32) then (1 : Int32) else (0 : Int32)) := by
  have e1 := c_i2c x
  have e2 := c_isub x.toUInt32.toUInt16.toUInt32.toInt32 48
  have e3 := c_i2c (x.toUInt32.toUInt16.toUInt32.toInt32 - 48)
  have e4 := c_isub x.toUInt32.toUInt16.toUInt32.toInt32 97
  have e5 := c_i2c (x.toUInt32.toUInt16.toUInt32.toInt32 - 97)
  have l0 : (48 : Int32).toInt = 48 := rfl
  have l1 : (57 : Int32).toInt = 57 := rfl
  have l2 : (97 : Int32).toInt = 97 := rfl
  have l3 : (102 : Int32).toInt = 102 := rfl
  have l4 : (10 : Int32).toInt = 10 := rfl
  have l5 : (6 : Int32).toInt = 6 := rfl
  unfold fH
  generalize (x.toUInt32.toUInt16.toUInt32.toInt32 - 48).toUInt32.toUInt16.toUInt32.toInt32 = v at *
  generalize (x.toUInt32.toUInt16.toUInt32.toInt32 - 97).toUInt32.toUInt16.toUInt32.toInt32 = v' at *
  generalize x.toUInt32.toUInt16.toUInt32.toInt32 - 48 = u at *
  generalize x.toUInt32.toUInt16.toUInt32.toInt32 - 97 = u' at *
  generalize x.toUInt32.toUInt16.toUInt32.toInt32 = w at *
  repeat' split
  all_goals first | rfl | (exfalso; simp only [Int32.lt_iff_toInt_lt] at *; omega)
theorem own_in (k : Int32) : ¬ (k &&& (15 : Int32)) < 0 ∧ (k &&& (15 : Int32)) < (16 : Int32) := by
  have e := c_mask k 15 4 (by decide) (by decide)
  have l0 : (0 : Int32).toInt = 0 := rfl
  have l1 : (16 : Int32).toInt = 16 := rfl
  simp only [Int32.lt_iff_toInt_lt]; omega
theorem d_jdk_41_method_11_0 : decode jdk_41_method_11_code 0 = .ok (.iload_n 0, 1) := by decide +kernel
theorem d_jdk_41_method_11_1 : decode jdk_41_method_11_code 1 = .ok (.ifCond .lt 8, 3) := by decide +kernel
theorem d_jdk_41_method_11_4 : decode jdk_41_method_11_code 4 = .ok (.iload_n 0, 1) := by decide +kernel
theorem d_jdk_41_method_11_5 : decode jdk_41_method_11_code 5 = .ok (.iload_n 1, 1) := by decide +kernel
theorem d_jdk_41_method_11_6 : decode jdk_41_method_11_code 6 = .ok (.if_icmp .lt 10, 3) := by decide +kernel
theorem d_jdk_41_method_11_16 : decode jdk_41_method_11_code 16 = .ok (.iload_n 0, 1) := by decide +kernel
theorem d_jdk_41_method_11_17 : decode jdk_41_method_11_code 17 = .ok (.ireturn, 1) := by decide +kernel
theorem pn_1 : plainName "jdk/internal/util/Preconditions" = true := by first | (simp [plainName, overriddenIn]; done) | decide +kernel
theorem ef_rmPC (mi : MethodId) (i : Int32) (n : Int32) (fm : Value) (hr_fm : fm.isRef = true) : entryFrame mi #[(.int i), (.int n), fm] 3 = mkF mi 0 #[.val (.int i), .val (.int n), .val fm] [] := by rcases ref_cases hr_fm with rfl | ⟨_, rfl⟩ <;> first | (simp [entryFrame, mkF, argsToLocals, Value.category]; done) | rfl
def Q_rmPC (Z : State) (i : Int32) (n : Int32) (fm : Value) (h0 : Heap) (n0 : Nat) (vv_ : Option Value) (hh_ : Heap) (LL_ : List Loc) : Prop := vv_ = some (.int i) ∧ Fr n0 LL_ ∧ hh_ = h0
set_option maxRecDepth 65536 in
set_option maxHeartbeats 40000000 in
theorem rmPC (l : Launch) (Z : State) (a0 : Array Value) (hw : ∀ d ∈ tables_1, d.before a0 Z = true) (ws : List Jvm.Cond) (i : Int32) (n : Int32) (fm : Value) (h0 : Heap) (n0 : Nat) (Z0 : n0 ≤ h0.size) (hfm : fm.isRef = true) (h1 : ¬ (i < (0 : Int32))) (h2 : i < n) :
    MetFree l (⟨"jdk/internal/util/Preconditions", "checkIndex", "(IILjava/util/function/BiFunction;)I"⟩ : MethodName) (head1 (Jvm.Cond.code (⟨"jdk/internal/util/Preconditions", "checkIndex", "(IILjava/util/function/BiFunction;)I"⟩ : MethodName) jdk_41_method_11_code 3 (some .int) :: ws) ({ frames := 0, cells := 0, slots := 0, locals := 0 } : Room)) (fun aa_ U => aa_ = #[(.int i), (.int n), fm] ∧ Z.Warmed39 U.vm ∧ U.heap = h0) (fun _ _ _ _ _ => True) (fun _ U oo_ UV_ => ∃ vv_ LL_, oo_ = .returned vv_ ∧ Q_rmPC Z i n fm h0 n0 vv_ UV_.heap LL_ ∧ FrameEnd U oo_ UV_ LL_ ({ frames := 0, cells := 0, slots := 0, locals := 0 } : Room).cells ({ frames := 0, cells := 0, slots := 0, locals := 0 } : Room).slots) := by
  refine MetFree.of_bodySF (plainFor_of_name pn_1) hisR ?_
  intro pg ev si mi args below meth ci s₁ Bd hml0 hP0 hK
  obtain ⟨rfl, hZ, hh⟩ := hP0
  have hx := Bd.exec
  have hby := Bd.bytes
  have hml : ci.maxLocals = 3 := hml0
  have hown : si.vm.findClass "jdk/internal/util/Preconditions" = some mi.cls := findClass_of_methodNamed Bd.named
  have hnm := (name_of_methodNamed Bd.named Bd.method).1
  have X0 : Stand pg l ev ({ frames := 0, cells := 0, slots := 0, locals := 0 } : Room) si mi #[(.int i), (.int n), fm] below meth ci s₁ [] 0 0 := Stand.of_body Bd
  have e0 : s₁.heap = h0 := by rw [← hh, Bd.state]; rfl
  have N0 := Fr.nil n0
  refine Go.start (fun P hP => ?_)
  refine Go.st (fun t_ k_ => castTop (ef_rmPC mi i n fm hfm) k_) (A := s₁.setTop (mkF mi 0 #[.val (.int i), .val (.int n), .val fm] [])) ?_
  show Go pg.tables ev below (s₁.setTop (mkF mi 0 #[.val (.int i), .val (.int n), .val fm] [])) P
  refine Go.st (fun t_ k_ => XS.iloadN X0.here hx rfl (hb hby d_jdk_41_method_11_0) rfl k_) ?_
  show Go pg.tables ev below (s₁.setTop (mkF mi 1 #[.val (.int i), .val (.int n), .val fm] [(.int i)])) P
  refine Go.st (fun t_ k_ => XS.ifNo X0.here hx rfl (hb hby d_jdk_41_method_11_1) rfl ((if0 _ _).trans (flt h1).1) k_) ?_
  show Go pg.tables ev below (s₁.setTop (mkF mi 4 #[.val (.int i), .val (.int n), .val fm] [])) P
  refine Go.st (fun t_ k_ => XS.iloadN X0.here hx rfl (hb hby d_jdk_41_method_11_4) rfl k_) ?_
  show Go pg.tables ev below (s₁.setTop (mkF mi 5 #[.val (.int i), .val (.int n), .val fm] [(.int i)])) P
  refine Go.st (fun t_ k_ => XS.iloadN X0.here hx rfl (hb hby d_jdk_41_method_11_5) rfl k_) ?_
  show Go pg.tables ev below (s₁.setTop (mkF mi 6 #[.val (.int i), .val (.int n), .val fm] [(.int n), (.int i)])) P
  refine Go.st (fun t_ k_ => XS.icmpYes X0.here hx rfl (pc0 := 6) (pc' := 16) rfl (hb hby d_jdk_41_method_11_6) rfl (tlt h2).1 (by decide) (by decide) k_) ?_
  show Go pg.tables ev below (s₁.setTop (mkF mi 16 #[.val (.int i), .val (.int n), .val fm] [])) P
  refine Go.st (fun t_ k_ => XS.iloadN X0.here hx rfl (hb hby d_jdk_41_method_11_16) rfl k_) ?_
  show Go pg.tables ev below (s₁.setTop (mkF mi 17 #[.val (.int i), .val (.int n), .val fm] [(.int i)])) P
  obtain ⟨fs, hr, hrun, hended, hW, hsame⟩ := X0.leave (v := some (.int i)) (fun h => by rw [Bd.returns] at h; cases h) (BodyLoose.notSynchronized Bd)
  refine ⟨_, _, ?_, hP _ _ ⟨hrun, hended, _, _, rfl, ?_, ⟨_, rfl⟩, hW, hsame.mono (by decide) (by decide)⟩⟩
  · exact retI X0 hx Bd.returns (hb hby d_jdk_41_method_11_17) hr
  · show (some (.int i) : Option Value) = some (.int i) ∧ Fr n0 _ ∧ s₁.heap = h0
    rw [e0]
    exact ⟨rfl, N0, rfl⟩
theorem d_jdk_42_method_155_0 : decode jdk_42_method_155_code 0 = .ok (.iload_n 0, 1) := by decide +kernel
theorem d_jdk_42_method_155_1 : decode jdk_42_method_155_code 1 = .ok (.iload_n 1, 1) := by decide +kernel
theorem d_jdk_42_method_155_2 : decode jdk_42_method_155_code 2 = .ok (.getstatic 1053, 3) := by decide +kernel
theorem d_jdk_42_method_155_5 : decode jdk_42_method_155_code 5 = .ok (.invokestatic 1059, 3) := by decide +kernel
theorem pd_0 : parseMethodDescriptor "(IILjava/util/function/BiFunction;)I" = some ⟨[.int, .int, (.object "java/util/function/BiFunction")], some .int⟩ := by decide +kernel
theorem d_jdk_42_method_155_8 : decode jdk_42_method_155_code 8 = .ok (.pop, 1) := by decide +kernel
theorem d_jdk_42_method_155_9 : decode jdk_42_method_155_code 9 = .ok (.return_, 1) := by decide +kernel
theorem pn_2 : plainName "java/lang/String" = true := by first | (simp [plainName, overriddenIn]; done) | decide +kernel
theorem ef_rmCI (mi : MethodId) (i : Int32) (n : Int32) (fm : Value) : entryFrame mi #[(.int i), (.int n)] 2 = mkF mi 0 #[.val (.int i), .val (.int n)] [] := by first | (simp [entryFrame, mkF, argsToLocals, Value.category]; done) | rfl
def Q_rmCI (Z : State) (i : Int32) (n : Int32) (fm : Value) (h0 : Heap) (n0 : Nat) (vv_ : Option Value) (hh_ : Heap) (LL_ : List Loc) : Prop := vv_ = none ∧ Fr n0 LL_ ∧ hh_ = h0
set_option maxRecDepth 65536 in
set_option maxHeartbeats 40000000 in
theorem rmCI (l : Launch) (Z : State) (a0 : Array Value) (hw : ∀ d ∈ tables_1, d.before a0 Z = true) (ws : List Jvm.Cond) (i : Int32) (n : Int32) (fm : Value) (h0 : Heap) (n0 : Nat) (Z0 : n0 ≤ h0.size) (hfm : fm.isRef = true) (SF : Sta Z h0 "jdk/internal/util/Preconditions" "SIOOBE_FORMATTER" "Ljava/util/function/BiFunction;" fm) (h1 : ¬ (i < (0 : Int32))) (h2 : i < n) :
    MetFree l (⟨"java/lang/String", "checkIndex", "(II)V"⟩ : MethodName) (head1 (Jvm.Cond.code (⟨"java/lang/String", "checkIndex", "(II)V"⟩ : MethodName) jdk_42_method_155_code 2 none :: ws) ({ frames := 1, cells := 0, slots := 0, locals := 14 } : Room)) (fun aa_ U => aa_ = #[(.int i), (.int n)] ∧ Z.Warmed39 U.vm ∧ U.heap = h0) (fun _ _ _ _ _ => True) (fun _ U oo_ UV_ => ∃ vv_ LL_, oo_ = .returned vv_ ∧ Q_rmCI Z i n fm h0 n0 vv_ UV_.heap LL_ ∧ FrameEnd U oo_ UV_ LL_ ({ frames := 1, cells := 0, slots := 0, locals := 14 } : Room).cells ({ frames := 1, cells := 0, slots := 0, locals := 14 } : Room).slots) := by
  refine MetFree.of_bodySF (plainFor_of_name pn_2) hisR ?_
  intro pg ev si mi args below meth ci s₁ Bd hml0 hP0 hK
  obtain ⟨rfl, hZ, hh⟩ := hP0
  have hx := Bd.exec
  have hby := Bd.bytes
  have hml : ci.maxLocals = 2 := hml0
  have hown : si.vm.findClass "java/lang/String" = some mi.cls := findClass_of_methodNamed Bd.named
  have hnm := (name_of_methodNamed Bd.named Bd.method).1
  have X0 : Stand pg l ev ({ frames := 1, cells := 0, slots := 0, locals := 14 } : Room) si mi #[(.int i), (.int n)] below meth ci s₁ [] 0 0 := Stand.of_body Bd
  have e0 : s₁.heap = h0 := by rw [← hh, Bd.state]; rfl
  have N0 := Fr.nil n0
  refine Go.start (fun P hP => ?_)
  refine Go.st (fun t_ k_ => castTop (ef_rmCI mi i n fm) k_) (A := s₁.setTop (mkF mi 0 #[.val (.int i), .val (.int n)] [])) ?_
  show Go pg.tables ev below (s₁.setTop (mkF mi 0 #[.val (.int i), .val (.int n)] [])) P
  refine Go.st (fun t_ k_ => XS.iloadN X0.here hx rfl (hb hby d_jdk_42_method_155_0) rfl k_) ?_
  show Go pg.tables ev below (s₁.setTop (mkF mi 1 #[.val (.int i), .val (.int n)] [(.int i)])) P
  refine Go.st (fun t_ k_ => XS.iloadN X0.here hx rfl (hb hby d_jdk_42_method_155_1) rfl k_) ?_
  show Go pg.tables ev below (s₁.setTop (mkF mi 2 #[.val (.int i), .val (.int n)] [(.int n), (.int i)])) P
  obtain ⟨T1, X1, e1, st1⟩ := getS2 X0 hx hZ hown (host := "") (Or.inl (hw _ (List.mem_of_getElem? (i := 32) rfl))) Via.refl e0 SF (g := (mkF mi 2 #[.val (.int i), .val (.int n)] [(.int n), (.int i)])) rfl (hb hby d_jdk_42_method_155_2)
  refine Go.st st1 ?_
  show Go pg.tables ev below (T1.setTop (mkF mi 5 #[.val (.int i), .val (.int n)] [fm, (.int n), (.int i)])) P
  obtain ⟨_, _, ⟨T2, L2, k2, n2⟩, -, X2, ⟨Lc2, hQ2, l2, y2, z2⟩, st2⟩ := Jvm.LawKit.callS X1 hx (y := (⟨"jdk/internal/util/Preconditions", "checkIndex", "(IILjava/util/function/BiFunction;)I"⟩ : MethodName)) hown (mvT hZ (hw _ (List.mem_of_getElem? (i := 34) rfl))) (mvT hZ (hw _ (List.mem_of_getElem? (i := 35) rfl))) (mvT hZ (hw _ (List.mem_of_getElem? (i := 33) rfl))) (mvT hZ (hw _ (List.mem_of_getElem? (i := 36) rfl))) (by decide) (backOf (W := 0) (rmPC l Z a0 hw [] i n fm h0 n0 Z0 hfm h1 h2) hZ (hw _ (List.mem_of_getElem? (i := 36) rfl)) (hw _ (List.mem_of_getElem? (i := 33) rfl)) (by decide) (by decide)) (g := (mkF mi 5 #[.val (.int i), .val (.int n)] [fm, (.int n), (.int i)])) rfl (by rw [hml]; rfl) (argsL := [(.int i), (.int n), fm]) (rest := []) (lenOf pd_0 rfl) rfl (by show 2 * 0 + _ ≤ _; exact Nat.le_of_eq rfl) (hb hby d_jdk_42_method_155_5) (fun _ _ => ⟨rfl, e1, (by decide : 0 + 0 ≤ _), (by decide : 0 + 0 ≤ _)⟩)
  dsimp only [Pt.U, Pt.locs, Pt.cells, Pt.slots] at X2 l2 y2 z2 st2 hQ2
  subst l2 y2 z2
  obtain ⟨rfl, N2q, e2⟩ := hQ2
  have N2 := Fr.app N0 N2q
  refine Go.st st2 ?_
  show Go pg.tables ev below (T2.setTop (mkF mi 8 #[.val (.int i), .val (.int n)] [(.int i)])) P
  refine Go.st (fun t_ k_ => XS.pop X2.here hx rfl (hb hby d_jdk_42_method_155_8) rfl rfl k_) ?_
  show Go pg.tables ev below (T2.setTop (mkF mi 9 #[.val (.int i), .val (.int n)] [])) P
  obtain ⟨fs, hr, hrun, hended, hW, hsame⟩ := X2.leave (v := none) (fun _ => rfl) (BodyLoose.notSynchronized Bd)
  refine ⟨_, _, ?_, hP _ _ ⟨hrun, hended, _, _, rfl, ?_, ⟨_, rfl⟩, hW, hsame.mono (by decide) (by decide)⟩⟩
  · exact X2.returnOut hx Bd.returns (hb hby d_jdk_42_method_155_9) hr
  · show (none : Option Value) = none ∧ Fr n0 _ ∧ T2.heap = h0
    rw [e2]
    exact ⟨rfl, N2, rfl⟩
theorem d_jdk_43_method_2_0 : decode jdk_43_method_2_code 0 = .ok (.iload_n 1, 1) := by decide +kernel
theorem d_jdk_43_method_2_1 : decode jdk_43_method_2_code 1 = .ok (.aload_n 0, 1) := by decide +kernel
theorem d_jdk_43_method_2_2 : decode jdk_43_method_2_code 2 = .ok (.arraylength, 1) := by decide +kernel
theorem d_jdk_43_method_2_3 : decode jdk_43_method_2_code 3 = .ok (.invokestatic 9, 3) := by decide +kernel
theorem pd_1 : parseMethodDescriptor "(II)V" = some ⟨[.int, .int], none⟩ := by decide +kernel
theorem d_jdk_43_method_2_6 : decode jdk_43_method_2_code 6 = .ok (.aload_n 0, 1) := by decide +kernel
theorem d_jdk_43_method_2_7 : decode jdk_43_method_2_code 7 = .ok (.iload_n 1, 1) := by decide +kernel
theorem d_jdk_43_method_2_8 : decode jdk_43_method_2_code 8 = .ok (.baload, 1) := by decide +kernel
theorem d_jdk_43_method_2_9 : decode jdk_43_method_2_code 9 = .ok (.sipush 255, 3) := by decide +kernel
theorem d_jdk_43_method_2_12 : decode jdk_43_method_2_code 12 = .ok (.iand, 1) := by decide +kernel
theorem d_jdk_43_method_2_13 : decode jdk_43_method_2_code 13 = .ok (.i2c, 1) := by decide +kernel
theorem d_jdk_43_method_2_14 : decode jdk_43_method_2_code 14 = .ok (.ireturn, 1) := by decide +kernel
theorem pn_3 : plainName "java/lang/StringLatin1" = true := by first | (simp [plainName, overriddenIn]; done) | decide +kernel
theorem ef_rmLC (mi : MethodId) (t : Addr) (i : Int32) (kt : ClassId) (fm : Value) : entryFrame mi #[(.ref t), (.int i)] 2 = mkF mi 0 #[.val (.ref t), .val (.int i)] [] := by first | (simp [entryFrame, mkF, argsToLocals, Value.category]; done) | rfl
def Q_rmLC (Z : State) (t : Addr) (i : Int32) (kt : ClassId) (fm : Value) (h0 : Heap) (n0 : Nat) (vv_ : Option Value) (hh_ : Heap) (LL_ : List Loc) : Prop := ∃ z : Int32, vv_ = some (.int z) ∧ Fr n0 LL_ ∧ hh_ = h0 ∧ own_P z
set_option maxRecDepth 65536 in
set_option maxHeartbeats 40000000 in
theorem rmLC (l : Launch) (Z : State) (a0 : Array Value) (hw : ∀ d ∈ tables_1, d.before a0 Z = true) (ws : List Jvm.Cond) (t : Addr) (i : Int32) (kt : ClassId) (fm : Value) (h0 : Heap) (n0 : Nat) (Z0 : n0 ≤ h0.size) (hfm : fm.isRef = true) (SF : Sta Z h0 "jdk/internal/util/Preconditions" "SIOOBE_FORMATTER" "Ljava/util/function/BiFunction;" fm) (A0 : Arv Z h0 t kt .byte (16 : Int32) [(.int (48 : Int32)), (.int (49 : Int32)), (.int (50 : Int32)), (.int (51 : Int32)), (.int (52 : Int32)), (.int (53 : Int32)), (.int (54 : Int32)), (.int (55 : Int32)), (.int (56 : Int32)), (.int (57 : Int32)), (.int (97 : Int32)), (.int (98 : Int32)), (.int (99 : Int32)), (.int (100 : Int32)), (.int (101 : Int32)), (.int (102 : Int32))] (.int 0)) (h1 : ¬ (i < (0 : Int32))) (h2 : i < (16 : Int32)) :
    MetFree l (⟨"java/lang/StringLatin1", "charAt", "([BI)C"⟩ : MethodName) (head1 (Jvm.Cond.code (⟨"java/lang/StringLatin1", "charAt", "([BI)C"⟩ : MethodName) jdk_43_method_2_code 2 (some .char) :: ws) ({ frames := 2, cells := 0, slots := 0, locals := 27 } : Room)) (fun aa_ U => aa_ = #[(.ref t), (.int i)] ∧ Z.Warmed39 U.vm ∧ U.heap = h0) (fun _ _ _ _ _ => True) (fun _ U oo_ UV_ => ∃ vv_ LL_, oo_ = .returned vv_ ∧ Q_rmLC Z t i kt fm h0 n0 vv_ UV_.heap LL_ ∧ FrameEnd U oo_ UV_ LL_ ({ frames := 2, cells := 0, slots := 0, locals := 27 } : Room).cells ({ frames := 2, cells := 0, slots := 0, locals := 27 } : Room).slots) := by
  refine MetFree.of_bodySF (plainFor_of_name pn_3) hisR ?_
  intro pg ev si mi args below meth ci s₁ Bd hml0 hP0 hK
  obtain ⟨rfl, hZ, hh⟩ := hP0
  have hx := Bd.exec
  have hby := Bd.bytes
  have hml : ci.maxLocals = 2 := hml0
  have hown : si.vm.findClass "java/lang/StringLatin1" = some mi.cls := findClass_of_methodNamed Bd.named
  have hnm := (name_of_methodNamed Bd.named Bd.method).1
  have X0 : Stand pg l ev ({ frames := 2, cells := 0, slots := 0, locals := 27 } : Room) si mi #[(.ref t), (.int i)] below meth ci s₁ [] 0 0 := Stand.of_body Bd
  have e0 : s₁.heap = h0 := by rw [← hh, Bd.state]; rfl
  have N0 := Fr.nil n0
  refine Go.start (fun P hP => ?_)
  refine Go.st (fun t_ k_ => castTop (ef_rmLC mi t i kt fm) k_) (A := s₁.setTop (mkF mi 0 #[.val (.ref t), .val (.int i)] [])) ?_
  show Go pg.tables ev below (s₁.setTop (mkF mi 0 #[.val (.ref t), .val (.int i)] [])) P
  refine Go.st (fun t_ k_ => XS.iloadN X0.here hx rfl (hb hby d_jdk_43_method_2_0) rfl k_) ?_
  show Go pg.tables ev below (s₁.setTop (mkF mi 1 #[.val (.ref t), .val (.int i)] [(.int i)])) P
  refine Go.st (fun t_ k_ => XS.aloadN X0.here hx rfl (hb hby d_jdk_43_method_2_1) rfl rfl k_) ?_
  show Go pg.tables ev below (s₁.setTop (mkF mi 2 #[.val (.ref t), .val (.int i)] [(.ref t), (.int i)])) P
  have ov1 := A0
  obtain ⟨cl1, Ar1, q1, S1, M1, H1, G1⟩ := ov1
  refine Go.st (X0.arraylength hx (by rw [e0]; exact Ar1.1) (State.isArrayOf_alike hZ.alike Ar1.2.1) (g := (mkF mi 2 #[.val (.ref t), .val (.int i)] [(.ref t), (.int i)])) rfl rfl (hb hby d_jdk_43_method_2_2)) ?_
  rw [len_of S1 M1]
  show Go pg.tables ev below (s₁.setTop (mkF mi 3 #[.val (.ref t), .val (.int i)] [(.int (16 : Int32)), (.int i)])) P
  obtain ⟨_, _, ⟨T2, L2, k2, n2⟩, -, X2, ⟨Lc2, hQ2, l2, y2, z2⟩, st2⟩ := Jvm.LawKit.callS X0 hx (y := (⟨"java/lang/String", "checkIndex", "(II)V"⟩ : MethodName)) hown (mvT hZ (hw _ (List.mem_of_getElem? (i := 29) rfl))) (mvT hZ (hw _ (List.mem_of_getElem? (i := 30) rfl))) (mvT hZ (hw _ (List.mem_of_getElem? (i := 5) rfl))) (mvT hZ (hw _ (List.mem_of_getElem? (i := 31) rfl))) (by decide) (backOf (W := 0) (rmCI l Z a0 hw [] i (16 : Int32) fm h0 n0 Z0 hfm SF h1 h2) hZ (hw _ (List.mem_of_getElem? (i := 31) rfl)) (hw _ (List.mem_of_getElem? (i := 5) rfl)) (by decide) (by decide)) (g := (mkF mi 3 #[.val (.ref t), .val (.int i)] [(.int (16 : Int32)), (.int i)])) rfl (by rw [hml]; rfl) (argsL := [(.int i), (.int (16 : Int32))]) (rest := []) (lenOf pd_1 rfl) rfl (by show 2 * 0 + _ ≤ _; exact Nat.le_of_eq rfl) (hb hby d_jdk_43_method_2_3) (fun _ _ => ⟨rfl, e0, (by decide : 0 + 0 ≤ _), (by decide : 0 + 0 ≤ _)⟩)
  dsimp only [Pt.U, Pt.locs, Pt.cells, Pt.slots] at X2 l2 y2 z2 st2 hQ2
  subst l2 y2 z2
  obtain ⟨rfl, N2q, e2⟩ := hQ2
  have N2 := Fr.app N0 N2q
  refine Go.st st2 ?_
  show Go pg.tables ev below (T2.setTop (mkF mi 6 #[.val (.ref t), .val (.int i)] [])) P
  refine Go.st (fun t_ k_ => XS.aloadN X2.here hx rfl (hb hby d_jdk_43_method_2_6) rfl rfl k_) ?_
  show Go pg.tables ev below (T2.setTop (mkF mi 7 #[.val (.ref t), .val (.int i)] [(.ref t)])) P
  refine Go.st (fun t_ k_ => XS.iloadN X2.here hx rfl (hb hby d_jdk_43_method_2_7) rfl k_) ?_
  show Go pg.tables ev below (T2.setTop (mkF mi 8 #[.val (.ref t), .val (.int i)] [(.int i), (.ref t)])) P
  have ov3 := A0
  obtain ⟨cl3, Ar3, q3, S3, M3, H3, G3⟩ := ov3
  have hin3 : ¬ (i < 0 ∨ cl3.slots.size ≤ (i).toNatClampNeg) := inb_of S3 ⟨h1, h2⟩
  obtain ⟨zz, hzz, hPz⟩ := own_el (i).toNatClampNeg (by have := Nat.lt_of_not_le fun q => hin3 (Or.inr q); rw [S3] at this; exact this)
  have hat3 : cl3.slots[(i).toNatClampNeg]? = some (.int zz) := Has.at H3 hin3 hzz
  refine Go.st (X2.baloadBytes hx (j := i) (v := (.int zz)) (by rw [e2]; exact Ar3.1) (State.isArrayOf_alike hZ.alike Ar3.2.1) Ar3.2.2 hin3 hat3 (g := (mkF mi 8 #[.val (.ref t), .val (.int i)] [(.int i), (.ref t)])) rfl rfl (hb hby d_jdk_43_method_2_8)) ?_
  show Go pg.tables ev below (T2.setTop (mkF mi 9 #[.val (.ref t), .val (.int i)] [(.int zz)])) P
  refine Go.st (fun t_ k_ => XS.sipush X2.here hx rfl (hb hby d_jdk_43_method_2_9) k_) ?_
  show Go pg.tables ev below (T2.setTop (mkF mi 12 #[.val (.ref t), .val (.int i)] [(.int (255 : Int32)), (.int zz)])) P
  refine Go.st (fun t_ k_ => XS.iand X2.here hx rfl (hb hby d_jdk_43_method_2_12) rfl k_) ?_
  show Go pg.tables ev below (T2.setTop (mkF mi 13 #[.val (.ref t), .val (.int i)] [(.int (zz &&& (255 : Int32)))])) P
  refine Go.st (fun t_ k_ => XS.i2c X2.here hx rfl (hb hby d_jdk_43_method_2_13) rfl k_) ?_
  show Go pg.tables ev below (T2.setTop (mkF mi 14 #[.val (.ref t), .val (.int i)] [(.int ((zz &&& (255 : Int32)).toUInt32.toUInt16.toUInt32.toInt32))])) P
  obtain ⟨fs, hr, hrun, hended, hW, hsame⟩ := X2.leave (v := some (.int ((zz &&& (255 : Int32)).toUInt32.toUInt16.toUInt32.toInt32))) (fun h => by rw [Bd.returns] at h; cases h) (BodyLoose.notSynchronized Bd)
  refine ⟨_, _, ?_, hP _ _ ⟨hrun, hended, _, _, rfl, ?_, ⟨_, rfl⟩, hW, hsame.mono (by decide) (by decide)⟩⟩
  · exact own_retN X2 hx (t := .char) Bd.returns (by simp) hPz.2 (hb hby d_jdk_43_method_2_14) hr
  · show ∃ z : Int32, (some (.int ((zz &&& (255 : Int32)).toUInt32.toUInt16.toUInt32.toInt32)) : Option Value) = some (.int z) ∧ Fr n0 _ ∧ T2.heap = h0 ∧ own_P z
    rw [e2]
    exact ⟨_, rfl, N2, rfl, hPz⟩
theorem d_jdk_42_method_154_0 : decode jdk_42_method_154_code 0 = .ok (.getstatic 38, 3) := by decide +kernel
theorem d_jdk_42_method_154_3 : decode jdk_42_method_154_code 3 = .ok (.ifCond .eq 14, 3) := by decide +kernel
theorem d_jdk_42_method_154_6 : decode jdk_42_method_154_code 6 = .ok (.aload_n 0, 1) := by decide +kernel
theorem d_jdk_42_method_154_7 : decode jdk_42_method_154_code 7 = .ok (.getfield 15, 3) := by decide +kernel
theorem d_jdk_42_method_154_10 : decode jdk_42_method_154_code 10 = .ok (.ifCond .ne 7, 3) := by decide +kernel
theorem d_jdk_42_method_154_13 : decode jdk_42_method_154_code 13 = .ok (.iconst 1, 1) := by decide +kernel
theorem d_jdk_42_method_154_14 : decode jdk_42_method_154_code 14 = .ok (.goto 4, 3) := by decide +kernel
theorem d_jdk_42_method_154_18 : decode jdk_42_method_154_code 18 = .ok (.ireturn, 1) := by decide +kernel
theorem ef_rmL1 (mi : MethodId) (o : Addr) (t : Addr) (cz : Int32) : entryFrame mi #[(.ref o)] 1 = mkF mi 0 #[.val (.ref o)] [] := by first | (simp [entryFrame, mkF, argsToLocals, Value.category]; done) | rfl
def Q_rmL1 (Z : State) (o : Addr) (t : Addr) (cz : Int32) (h0 : Heap) (n0 : Nat) (vv_ : Option Value) (hh_ : Heap) (LL_ : List Loc) : Prop := vv_ = some (.int (1 : Int32)) ∧ Fr n0 LL_ ∧ hh_ = h0
set_option maxRecDepth 65536 in
set_option maxHeartbeats 40000000 in
theorem rmL1 (l : Launch) (Z : State) (a0 : Array Value) (hw : ∀ d ∈ tables_1, d.before a0 Z = true) (ws : List Jvm.Cond) (o : Addr) (t : Addr) (cz : Int32) (h0 : Heap) (n0 : Nat) (Z0 : n0 ≤ h0.size) (E0 : Exa Z h0 o "java/lang/String") (F1 : Fld Z h0 o "java/lang/String" "coder" "B" (.int 0)) (F2 : Fld Z h0 o "java/lang/String" "value" "[B" (.ref t)) (SC : Sta Z h0 "java/lang/String" "COMPACT_STRINGS" "Z" (.int cz)) (hcz : ¬ (cz = (0 : Int32))) :
    MetFree l (⟨"java/lang/String", "isLatin1", "()Z"⟩ : MethodName) (head1 (Jvm.Cond.code (⟨"java/lang/String", "isLatin1", "()Z"⟩ : MethodName) jdk_42_method_154_code 1 (some .boolean) :: ws) ({ frames := 0, cells := 0, slots := 0, locals := 0 } : Room)) (fun aa_ U => aa_ = #[(.ref o)] ∧ Z.Warmed39 U.vm ∧ U.heap = h0) (fun _ _ _ _ _ => True) (fun _ U oo_ UV_ => ∃ vv_ LL_, oo_ = .returned vv_ ∧ Q_rmL1 Z o t cz h0 n0 vv_ UV_.heap LL_ ∧ FrameEnd U oo_ UV_ LL_ ({ frames := 0, cells := 0, slots := 0, locals := 0 } : Room).cells ({ frames := 0, cells := 0, slots := 0, locals := 0 } : Room).slots) := by
  refine MetFree.of_bodySF (plainFor_of_name pn_2) hisR ?_
  intro pg ev si mi args below meth ci s₁ Bd hml0 hP0 hK
  obtain ⟨rfl, hZ, hh⟩ := hP0
  have hx := Bd.exec
  have hby := Bd.bytes
  have hml : ci.maxLocals = 1 := hml0
  have hown : si.vm.findClass "java/lang/String" = some mi.cls := findClass_of_methodNamed Bd.named
  have hnm := (name_of_methodNamed Bd.named Bd.method).1
  have X0 : Stand pg l ev ({ frames := 0, cells := 0, slots := 0, locals := 0 } : Room) si mi #[(.ref o)] below meth ci s₁ [] 0 0 := Stand.of_body Bd
  have e0 : s₁.heap = h0 := by rw [← hh, Bd.state]; rfl
  have N0 := Fr.nil n0
  refine Go.start (fun P hP => ?_)
  refine Go.st (fun t_ k_ => castTop (ef_rmL1 mi o t cz) k_) (A := s₁.setTop (mkF mi 0 #[.val (.ref o)] [])) ?_
  show Go pg.tables ev below (s₁.setTop (mkF mi 0 #[.val (.ref o)] [])) P
  obtain ⟨T1, X1, e1, st1⟩ := getS2 X0 hx hZ hown (host := "") (Or.inl (hw _ (List.mem_of_getElem? (i := 22) rfl))) Via.refl e0 SC (g := (mkF mi 0 #[.val (.ref o)] [])) rfl (hb hby d_jdk_42_method_154_0)
  refine Go.st st1 ?_
  show Go pg.tables ev below (T1.setTop (mkF mi 3 #[.val (.ref o)] [(.int cz)])) P
  refine Go.st (fun t_ k_ => XS.ifNo X1.here hx rfl (hb hby d_jdk_42_method_154_3) rfl ((if0 _ _).trans (feq hcz).1) k_) ?_
  show Go pg.tables ev below (T1.setTop (mkF mi 6 #[.val (.ref o)] [])) P
  refine Go.st (fun t_ k_ => XS.aloadN X1.here hx rfl (hb hby d_jdk_42_method_154_6) rfl rfl k_) ?_
  show Go pg.tables ev below (T1.setTop (mkF mi 7 #[.val (.ref o)] [(.ref o)])) P
  obtain ⟨T2, X2, e2, st2⟩ := getF X1 hx hZ hown (host := "") (Or.inl (hw _ (List.mem_of_getElem? (i := 23) rfl))) Via.refl e1 F1 (g := (mkF mi 7 #[.val (.ref o)] [(.ref o)])) rfl rfl (hb hby d_jdk_42_method_154_7)
  refine Go.st st2 ?_
  show Go pg.tables ev below (T2.setTop (mkF mi 10 #[.val (.ref o)] [(.int (0 : Int32))])) P
  refine Go.st (fun t_ k_ => XS.ifNo X2.here hx rfl (hb hby d_jdk_42_method_154_10) rfl ((if0 _ _).trans (teq rfl).2) k_) ?_
  show Go pg.tables ev below (T2.setTop (mkF mi 13 #[.val (.ref o)] [])) P
  refine Go.st (fun t_ k_ => XS.iconst X2.here hx rfl (hb hby d_jdk_42_method_154_13) k_) ?_
  show Go pg.tables ev below (T2.setTop (mkF mi 14 #[.val (.ref o)] [(.int (1 : Int32))])) P
  refine Go.st (fun t_ k_ => XS.goto X2.here hx rfl (pc0 := 14) (pc' := 18) rfl (hb hby d_jdk_42_method_154_14) (by decide) (by decide) k_) ?_
  show Go pg.tables ev below (T2.setTop (mkF mi 18 #[.val (.ref o)] [(.int (1 : Int32))])) P
  obtain ⟨fs, hr, hrun, hended, hW, hsame⟩ := X2.leave (v := some (.int (1 : Int32))) (fun h => by rw [Bd.returns] at h; cases h) (BodyLoose.notSynchronized Bd)
  refine ⟨_, _, ?_, hP _ _ ⟨hrun, hended, _, _, rfl, ?_, ⟨_, rfl⟩, hW, hsame.mono (by decide) (by decide)⟩⟩
  · exact retN X2 hx (t := .boolean) Bd.returns (by simp) (hb hby d_jdk_42_method_154_18) hr
  · show (some (.int (1 : Int32)) : Option Value) = some (.int (1 : Int32)) ∧ Fr n0 _ ∧ T2.heap = h0
    rw [e2]
    exact ⟨rfl, N0, rfl⟩
theorem d_jdk_42_method_56_0 : decode jdk_42_method_56_code 0 = .ok (.aload_n 0, 1) := by decide +kernel
theorem d_jdk_42_method_56_1 : decode jdk_42_method_56_code 1 = .ok (.invokevirtual 492, 3) := by decide +kernel
theorem pd_2 : parseMethodDescriptor "()Z" = some ⟨[], some .boolean⟩ := by decide +kernel
theorem d_jdk_42_method_56_4 : decode jdk_42_method_56_code 4 = .ok (.ifCond .eq 12, 3) := by decide +kernel
theorem d_jdk_42_method_56_7 : decode jdk_42_method_56_code 7 = .ok (.aload_n 0, 1) := by decide +kernel
theorem d_jdk_42_method_56_8 : decode jdk_42_method_56_code 8 = .ok (.getfield 9, 3) := by decide +kernel
theorem d_jdk_42_method_56_11 : decode jdk_42_method_56_code 11 = .ok (.iload_n 1, 1) := by decide +kernel
theorem d_jdk_42_method_56_12 : decode jdk_42_method_56_code 12 = .ok (.invokestatic 495, 3) := by decide +kernel
theorem pd_3 : parseMethodDescriptor "([BI)C" = some ⟨[(.array .byte), .int], some .char⟩ := by decide +kernel
theorem d_jdk_42_method_56_15 : decode jdk_42_method_56_code 15 = .ok (.ireturn, 1) := by decide +kernel
theorem ef_rmCA (mi : MethodId) (o : Addr) (i : Int32) (t : Addr) (cz : Int32) (kt : ClassId) (fm : Value) : entryFrame mi #[(.ref o), (.int i)] 2 = mkF mi 0 #[.val (.ref o), .val (.int i)] [] := by first | (simp [entryFrame, mkF, argsToLocals, Value.category]; done) | rfl
def Q_rmCA (Z : State) (o : Addr) (i : Int32) (t : Addr) (cz : Int32) (kt : ClassId) (fm : Value) (h0 : Heap) (n0 : Nat) (vv_ : Option Value) (hh_ : Heap) (LL_ : List Loc) : Prop := ∃ z : Int32, vv_ = some (.int z) ∧ Fr n0 LL_ ∧ hh_ = h0 ∧ own_P z
set_option maxRecDepth 65536 in
set_option maxHeartbeats 40000000 in
theorem rmCA (l : Launch) (Z : State) (a0 : Array Value) (hw : ∀ d ∈ tables_1, d.before a0 Z = true) (ws : List Jvm.Cond) (o : Addr) (i : Int32) (t : Addr) (cz : Int32) (kt : ClassId) (fm : Value) (h0 : Heap) (n0 : Nat) (Z0 : n0 ≤ h0.size) (E0 : Exa Z h0 o "java/lang/String") (F1 : Fld Z h0 o "java/lang/String" "coder" "B" (.int 0)) (F2 : Fld Z h0 o "java/lang/String" "value" "[B" (.ref t)) (SC : Sta Z h0 "java/lang/String" "COMPACT_STRINGS" "Z" (.int cz)) (hcz : ¬ (cz = (0 : Int32))) (hfm : fm.isRef = true) (SF : Sta Z h0 "jdk/internal/util/Preconditions" "SIOOBE_FORMATTER" "Ljava/util/function/BiFunction;" fm) (A0 : Arv Z h0 t kt .byte (16 : Int32) [(.int (48 : Int32)), (.int (49 : Int32)), (.int (50 : Int32)), (.int (51 : Int32)), (.int (52 : Int32)), (.int (53 : Int32)), (.int (54 : Int32)), (.int (55 : Int32)), (.int (56 : Int32)), (.int (57 : Int32)), (.int (97 : Int32)), (.int (98 : Int32)), (.int (99 : Int32)), (.int (100 : Int32)), (.int (101 : Int32)), (.int (102 : Int32))] (.int 0)) (h1 : ¬ (i < (0 : Int32))) (h2 : i < (16 : Int32)) :
    MetFree l (⟨"java/lang/String", "charAt", "(I)C"⟩ : MethodName) (head1 (Jvm.Cond.code (⟨"java/lang/String", "charAt", "(I)C"⟩ : MethodName) jdk_42_method_56_code 2 (some .char) :: ws) ({ frames := 3, cells := 0, slots := 0, locals := 40 } : Room)) (fun aa_ U => aa_ = #[(.ref o), (.int i)] ∧ Z.Warmed39 U.vm ∧ U.heap = h0) (fun _ _ _ _ _ => True) (fun _ U oo_ UV_ => ∃ vv_ LL_, oo_ = .returned vv_ ∧ Q_rmCA Z o i t cz kt fm h0 n0 vv_ UV_.heap LL_ ∧ FrameEnd U oo_ UV_ LL_ ({ frames := 3, cells := 0, slots := 0, locals := 40 } : Room).cells ({ frames := 3, cells := 0, slots := 0, locals := 40 } : Room).slots) := by
  refine MetFree.of_bodySF (plainFor_of_name pn_2) hisR ?_
  intro pg ev si mi args below meth ci s₁ Bd hml0 hP0 hK
  obtain ⟨rfl, hZ, hh⟩ := hP0
  have hx := Bd.exec
  have hby := Bd.bytes
  have hml : ci.maxLocals = 2 := hml0
  have hown : si.vm.findClass "java/lang/String" = some mi.cls := findClass_of_methodNamed Bd.named
  have hnm := (name_of_methodNamed Bd.named Bd.method).1
  have X0 : Stand pg l ev ({ frames := 3, cells := 0, slots := 0, locals := 40 } : Room) si mi #[(.ref o), (.int i)] below meth ci s₁ [] 0 0 := Stand.of_body Bd
  have e0 : s₁.heap = h0 := by rw [← hh, Bd.state]; rfl
  have N0 := Fr.nil n0
  refine Go.start (fun P hP => ?_)
  refine Go.st (fun t_ k_ => castTop (ef_rmCA mi o i t cz kt fm) k_) (A := s₁.setTop (mkF mi 0 #[.val (.ref o), .val (.int i)] [])) ?_
  show Go pg.tables ev below (s₁.setTop (mkF mi 0 #[.val (.ref o), .val (.int i)] [])) P
  refine Go.st (fun t_ k_ => XS.aloadN X0.here hx rfl (hb hby d_jdk_42_method_56_0) rfl rfl k_) ?_
  show Go pg.tables ev below (s₁.setTop (mkF mi 1 #[.val (.ref o), .val (.int i)] [(.ref o)])) P
  obtain ⟨cq1, kq1, q1a, q1b, q1c⟩ := isOf hZ e0 E0
  obtain ⟨_, _, ⟨T1, L1, k1, n1⟩, -, X1, ⟨Lc1, hQ1, l1, y1, z1⟩, st1⟩ := X0.virtualBack hx (y := (⟨"java/lang/String", "isLatin1", "()Z"⟩ : MethodName)) (z := (⟨"java/lang/String", "isLatin1", "()Z"⟩ : MethodName)) hown (mvT hZ (hw _ (List.mem_of_getElem? (i := 17) rfl))) (mvT hZ (hw _ (List.mem_of_getElem? (i := 18) rfl))) (notFace_of_selects (args := #[]) (mvT hZ (hw _ (List.mem_of_getElem? (i := 20) rfl)))) (mvT hZ (hw _ (List.mem_of_getElem? (i := 20) rfl))) (mvT hZ (hw _ (List.mem_of_getElem? (i := 19) rfl))) (by decide) (backOf (W := 0) (rmL1 l Z a0 hw [] o t cz h0 n0 Z0 E0 F1 F2 SC hcz) hZ (hw _ (List.mem_of_getElem? (i := 21) rfl)) (hw _ (List.mem_of_getElem? (i := 5) rfl)) (by decide) (by decide)) q1a q1c (g := (mkF mi 1 #[.val (.ref o), .val (.int i)] [(.ref o)])) rfl (by rw [hml]; rfl) (Steps.refl _) (argsL := []) (rest := []) (lenOf pd_2 rfl) rfl (by show 2 * 0 + _ ≤ _; exact Nat.le_of_eq rfl) (hb hby d_jdk_42_method_56_1) (fun _ _ => ⟨rfl, e0, (by decide : 0 + 0 ≤ _), (by decide : 0 + 0 ≤ _)⟩)
  dsimp only [Pt.U, Pt.locs, Pt.cells, Pt.slots] at X1 l1 y1 z1 st1 hQ1
  subst l1 y1 z1
  obtain ⟨rfl, N1q, e1⟩ := hQ1
  have N1 := Fr.app N0 N1q
  refine Go.tr st1 ?_
  show Go pg.tables ev below (T1.setTop (mkF mi 4 #[.val (.ref o), .val (.int i)] [(.int (1 : Int32))])) P
  refine Go.st (fun t_ k_ => XS.ifNo X1.here hx rfl (hb hby d_jdk_42_method_56_4) rfl ((if0 _ _).trans (feq (by decide)).1) k_) ?_
  show Go pg.tables ev below (T1.setTop (mkF mi 7 #[.val (.ref o), .val (.int i)] [])) P
  refine Go.st (fun t_ k_ => XS.aloadN X1.here hx rfl (hb hby d_jdk_42_method_56_7) rfl rfl k_) ?_
  show Go pg.tables ev below (T1.setTop (mkF mi 8 #[.val (.ref o), .val (.int i)] [(.ref o)])) P
  obtain ⟨T2, X2, e2, st2⟩ := getF X1 hx hZ hown (host := "") (Or.inl (hw _ (List.mem_of_getElem? (i := 24) rfl))) Via.refl e1 F2 (g := (mkF mi 8 #[.val (.ref o), .val (.int i)] [(.ref o)])) rfl rfl (hb hby d_jdk_42_method_56_8)
  refine Go.st st2 ?_
  show Go pg.tables ev below (T2.setTop (mkF mi 11 #[.val (.ref o), .val (.int i)] [(.ref t)])) P
  refine Go.st (fun t_ k_ => XS.iloadN X2.here hx rfl (hb hby d_jdk_42_method_56_11) rfl k_) ?_
  show Go pg.tables ev below (T2.setTop (mkF mi 12 #[.val (.ref o), .val (.int i)] [(.int i), (.ref t)])) P
  obtain ⟨_, _, ⟨T3, L3, k3, n3⟩, -, X3, ⟨Lc3, hQ3, l3, y3, z3⟩, st3⟩ := Jvm.LawKit.callS X2 hx (y := (⟨"java/lang/StringLatin1", "charAt", "([BI)C"⟩ : MethodName)) hown (mvT hZ (hw _ (List.mem_of_getElem? (i := 25) rfl))) (mvT hZ (hw _ (List.mem_of_getElem? (i := 26) rfl))) (mvT hZ (hw _ (List.mem_of_getElem? (i := 27) rfl))) (mvT hZ (hw _ (List.mem_of_getElem? (i := 28) rfl))) (by decide) (backOf (W := 0) (rmLC l Z a0 hw [] t i kt fm h0 n0 Z0 hfm SF A0 h1 h2) hZ (hw _ (List.mem_of_getElem? (i := 28) rfl)) (hw _ (List.mem_of_getElem? (i := 27) rfl)) (by decide) (by decide)) (g := (mkF mi 12 #[.val (.ref o), .val (.int i)] [(.int i), (.ref t)])) rfl (by rw [hml]; rfl) (argsL := [(.ref t), (.int i)]) (rest := []) (lenOf pd_3 rfl) rfl (by show 2 * 0 + _ ≤ _; exact Nat.le_of_eq rfl) (hb hby d_jdk_42_method_56_12) (fun _ _ => ⟨rfl, e2, (by decide : 0 + 0 ≤ _), (by decide : 0 + 0 ≤ _)⟩)
  dsimp only [Pt.U, Pt.locs, Pt.cells, Pt.slots] at X3 l3 y3 z3 st3 hQ3
  subst l3 y3 z3
  obtain ⟨z3, rfl, N3q, e3, hPz3⟩ := hQ3
  have N3 := Fr.app N1 N3q
  refine Go.st st3 ?_
  show Go pg.tables ev below (T3.setTop (mkF mi 15 #[.val (.ref o), .val (.int i)] [(.int z3)])) P
  obtain ⟨fs, hr, hrun, hended, hW, hsame⟩ := X3.leave (v := some (.int z3)) (fun h => by rw [Bd.returns] at h; cases h) (BodyLoose.notSynchronized Bd)
  refine ⟨_, _, ?_, hP _ _ ⟨hrun, hended, _, _, rfl, ?_, ⟨_, rfl⟩, hW, hsame.mono (by decide) (by decide)⟩⟩
  · exact own_retN X3 hx (t := .char) Bd.returns (by simp) hPz3.2 (hb hby d_jdk_42_method_56_15) hr
  · show ∃ z : Int32, (some (.int z3) : Option Value) = some (.int z) ∧ Fr n0 _ ∧ T3.heap = h0 ∧ own_P z
    rw [e3]
    exact ⟨_, rfl, N3, rfl, hPz3⟩
theorem pd_4 : parseMethodDescriptor "(C)Z" = some ⟨[.char], some .boolean⟩ := by decide +kernel
theorem pd_5 : parseMethodDescriptor "(I)C" = some ⟨[.int], some .char⟩ := by decide +kernel
theorem pn_4 : plainName "com/example/baton/baton/SpanContextIsLowerHexDigitPinLaw" = true := by first | (simp [plainName, overriddenIn]; done) | decide +kernel
theorem ef_rm0 (mi : MethodId) (x0 : Int32) (k : Int32) (cz : Int32) (fm : Value) : entryFrame mi #[(.int x0), (.int k)] maxLocals = mkF mi 0 #[.val (.int x0), .val (.int k), .unset, .unset, .unset] [] := by first | (simp [entryFrame, mkF, argsToLocals, Value.category, maxLocals]; done) | rfl
def Q_rm0 (Z : State) (x0 : Int32) (k : Int32) (cz : Int32) (fm : Value) (h0 : Heap) (n0 : Nat) (vv_ : Option Value) (hh_ : Heap) (LL_ : List Loc) : Prop := vv_ = some (.int 1) ∧ Fr n0 LL_
set_option maxRecDepth 65536 in
set_option maxHeartbeats 40000000 in
theorem rm0 (l : Launch) (Z : State) (a0 : Array Value) (hw : ∀ d ∈ tables_1, d.before a0 Z = true) (ws : List Jvm.Cond) (x0 : Int32) (k : Int32) (cz : Int32) (fm : Value) (h0 : Heap) (n0 : Nat) (Z0 : n0 ≤ h0.size) (SC : Sta Z h0 "java/lang/String" "COMPACT_STRINGS" "Z" (.int cz)) (hcz : ¬ (cz = (0 : Int32))) (SF : Sta Z h0 "jdk/internal/util/Preconditions" "SIOOBE_FORMATTER" "Ljava/util/function/BiFunction;" fm) (hfm : fm.isRef = true) (hn0 : n0 = h0.size) (hZh : Z.heap = h0) (hcw : Jvm.Lit.compactW.before a0 Z = true) (hheld : Jvm.Lit.constHeld Z "com/example/baton/baton/SpanContextIsLowerHexDigitPinLaw" 13) :
    MetFree l x (head1 (Jvm.Cond.code x code maxLocals ret :: ws) room_1) (fun aa_ U => aa_ = #[(.int x0), (.int k)] ∧ Z.Warmed39 U.vm ∧ U.heap = h0 ∧ U.vm.interned = Z.vm.interned) (fun _ _ _ _ _ => True) (fun _ U oo_ UV_ => ∃ vv_ LL_, oo_ = .returned vv_ ∧ Q_rm0 Z x0 k cz fm h0 n0 vv_ UV_.heap LL_ ∧ ReturnedEndW U oo_ UV_ LL_ room_1.cells room_1.slots) := by
  refine MetFree.of_bodySF (plainFor_of_name pn_4) hisR ?_
  intro pg ev si mi args below meth ci s₁ Bd hml0 hP0 hK
  obtain ⟨rfl, hZ, hh, hIv⟩ := hP0
  have hx := Bd.exec
  have hby := Bd.bytes
  have hml : ci.maxLocals = 5 := hml0
  have hown : si.vm.findClass "com/example/baton/baton/SpanContextIsLowerHexDigitPinLaw" = some mi.cls := findClass_of_methodNamed Bd.named
  have hnm := (name_of_methodNamed Bd.named Bd.method).1
  have X0 : Stand pg l ev room_1 si mi #[(.int x0), (.int k)] below meth ci s₁ [] 0 0 := Stand.of_body Bd
  have e0 : s₁.heap = h0 := by rw [← hh, Bd.state]; rfl
  have N0 := Fr.nil n0
  refine Go.start (fun P hP => ?_)
  refine Go.st (fun t_ k_ => castTop (ef_rm0 mi x0 k cz fm) k_) (A := s₁.setTop (mkF mi 0 #[.val (.int x0), .val (.int k), .unset, .unset, .unset] [])) ?_
  have hIB : IB Z si.vm [] := ⟨#[], by simp [hIv], fun q hq => by simp at hq⟩
  show Go pg.tables ev below (s₁.setTop (mkF mi 0 #[.val (.int x0), .val (.int k), .unset, .unset, .unset] [])) P
  refine Go.st (fun t_ k_ => XS.iloadN X0.here hx rfl (hb hby at_0) rfl k_) ?_
  show Go pg.tables ev below (s₁.setTop (mkF mi 1 #[.val (.int x0), .val (.int k), .unset, .unset, .unset] [(.int x0)])) P
  refine Go.st (fun t_ k_ => XS.i2c X0.here hx rfl (hb hby at_1) rfl k_) ?_
  show Go pg.tables ev below (s₁.setTop (mkF mi 2 #[.val (.int x0), .val (.int k), .unset, .unset, .unset] [(.int (x0.toUInt32.toUInt16.toUInt32.toInt32))])) P
  refine Go.st (fun t_ k_ => XS.istoreN X0.here hx rfl (hb hby at_2) rfl (l' := #[.val (.int x0), .val (.int k), .val (.int (x0.toUInt32.toUInt16.toUInt32.toInt32)), .unset, .unset]) rfl k_) ?_
  show Go pg.tables ev below (s₁.setTop (mkF mi 3 #[.val (.int x0), .val (.int k), .val (.int (x0.toUInt32.toUInt16.toUInt32.toInt32)), .unset, .unset] [])) P
  refine Go.st (fun t_ k_ => XS.iloadN X0.here hx rfl (hb hby at_3) rfl k_) ?_
  show Go pg.tables ev below (s₁.setTop (mkF mi 4 #[.val (.int x0), .val (.int k), .val (.int (x0.toUInt32.toUInt16.toUInt32.toInt32)), .unset, .unset] [(.int (x0.toUInt32.toUInt16.toUInt32.toInt32))])) P
  refine Go.st (fun t_ k_ => XS.bipush X0.here hx rfl (hb hby at_4) k_) ?_
  show Go pg.tables ev below (s₁.setTop (mkF mi 6 #[.val (.int x0), .val (.int k), .val (.int (x0.toUInt32.toUInt16.toUInt32.toInt32)), .unset, .unset] [(.int (48 : Int32)), (.int (x0.toUInt32.toUInt16.toUInt32.toInt32))])) P
  refine Go.st (fun t_ k_ => XS.isub X0.here hx rfl (hb hby at_6) rfl k_) ?_
  show Go pg.tables ev below (s₁.setTop (mkF mi 7 #[.val (.int x0), .val (.int k), .val (.int (x0.toUInt32.toUInt16.toUInt32.toInt32)), .unset, .unset] [(.int ((x0.toUInt32.toUInt16.toUInt32.toInt32) - (48 : Int32)))])) P
  refine Go.st (fun t_ k_ => XS.i2c X0.here hx rfl (hb hby at_7) rfl k_) ?_
  show Go pg.tables ev below (s₁.setTop (mkF mi 8 #[.val (.int x0), .val (.int k), .val (.int (x0.toUInt32.toUInt16.toUInt32.toInt32)), .unset, .unset] [(.int (((x0.toUInt32.toUInt16.toUInt32.toInt32) - (48 : Int32)).toUInt32.toUInt16.toUInt32.toInt32))])) P
  refine Go.st (fun t_ k_ => XS.bipush X0.here hx rfl (hb hby at_8) k_) ?_
  show Go pg.tables ev below (s₁.setTop (mkF mi 10 #[.val (.int x0), .val (.int k), .val (.int (x0.toUInt32.toUInt16.toUInt32.toInt32)), .unset, .unset] [(.int (10 : Int32)), (.int (((x0.toUInt32.toUInt16.toUInt32.toInt32) - (48 : Int32)).toUInt32.toUInt16.toUInt32.toInt32))])) P
  by_cases hc10_1 : (((x0.toUInt32.toUInt16.toUInt32.toInt32) - (48 : Int32)).toUInt32.toUInt16.toUInt32.toInt32) < (10 : Int32)
  · refine Go.st (fun t_ k_ => XS.icmpYes X0.here hx rfl (pc0 := 10) (pc' := 23) rfl (hb hby at_10) rfl (tlt hc10_1).1 (by decide) (by decide) k_) ?_
    show Go pg.tables ev below (s₁.setTop (mkF mi 23 #[.val (.int x0), .val (.int k), .val (.int (x0.toUInt32.toUInt16.toUInt32.toInt32)), .unset, .unset] [])) P
    refine Go.st (fun t_ k_ => XS.iconst X0.here hx rfl (hb hby at_23) k_) ?_
    show Go pg.tables ev below (s₁.setTop (mkF mi 24 #[.val (.int x0), .val (.int k), .val (.int (x0.toUInt32.toUInt16.toUInt32.toInt32)), .unset, .unset] [(.int (1 : Int32))])) P
    refine Go.st (fun t_ k_ => XS.goto X0.here hx rfl (pc0 := 24) (pc' := 28) rfl (hb hby at_24) (by decide) (by decide) k_) ?_
    show Go pg.tables ev below (s₁.setTop (mkF mi 28 #[.val (.int x0), .val (.int k), .val (.int (x0.toUInt32.toUInt16.toUInt32.toInt32)), .unset, .unset] [(.int (1 : Int32))])) P
    refine Go.st (fun t_ k_ => XS.istoreN X0.here hx rfl (hb hby at_28) rfl (l' := #[.val (.int x0), .val (.int k), .val (.int (x0.toUInt32.toUInt16.toUInt32.toInt32)), .val (.int (1 : Int32)), .unset]) rfl k_) ?_
    show Go pg.tables ev below (s₁.setTop (mkF mi 29 #[.val (.int x0), .val (.int k), .val (.int (x0.toUInt32.toUInt16.toUInt32.toInt32)), .val (.int (1 : Int32)), .unset] [])) P
    refine Go.st (fun t_ k_ => XS.iloadN X0.here hx rfl (hb hby at_29) rfl k_) ?_
    show Go pg.tables ev below (s₁.setTop (mkF mi 30 #[.val (.int x0), .val (.int k), .val (.int (x0.toUInt32.toUInt16.toUInt32.toInt32)), .val (.int (1 : Int32)), .unset] [(.int (x0.toUInt32.toUInt16.toUInt32.toInt32))])) P
    obtain ⟨_, _, ⟨T1, L1, k1, n1⟩, -, X1, ⟨Lc1, hQ1, l1, y1, z1⟩, st1⟩ := Jvm.LawKit.callS X0 hx (y := (⟨"com/example/baton/baton/SpanContext", "isLowerHexDigit", "(C)Z"⟩ : MethodName)) hown (mvT hZ (hw _ (List.mem_of_getElem? (i := 0) rfl))) (mvT hZ (hw _ (List.mem_of_getElem? (i := 1) rfl))) (mvT hZ (hw _ (List.mem_of_getElem? (i := 2) rfl))) (mvT hZ (hw _ (List.mem_of_getElem? (i := 3) rfl))) (by decide) (backOf (W := 0) (rmH l Z a0 hw [] (x0.toUInt32.toUInt16.toUInt32.toInt32) h0 n0 Z0) hZ (hw _ (List.mem_of_getElem? (i := 3) rfl)) (hw _ (List.mem_of_getElem? (i := 2) rfl)) (by decide) (by decide)) (g := (mkF mi 30 #[.val (.int x0), .val (.int k), .val (.int (x0.toUInt32.toUInt16.toUInt32.toInt32)), .val (.int (1 : Int32)), .unset] [(.int (x0.toUInt32.toUInt16.toUInt32.toInt32))])) rfl (by rw [hml]; rfl) (argsL := [(.int (x0.toUInt32.toUInt16.toUInt32.toInt32))]) (rest := []) (lenOf pd_4 rfl) rfl (by show 2 * 0 + _ ≤ _; exact Nat.le_of_eq rfl) (hb hby at_30) (fun _ _ => ⟨rfl, e0, (by decide : 0 + 0 ≤ _), (by decide : 0 + 0 ≤ _)⟩)
    dsimp only [Pt.U, Pt.locs, Pt.cells, Pt.slots] at X1 l1 y1 z1 st1 hQ1
    subst l1 y1 z1
    obtain ⟨rfl, N1q, e1⟩ := hQ1
    have N1 := Fr.app N0 N1q
    refine Go.st st1 ?_
    show Go pg.tables ev below (T1.setTop (mkF mi 33 #[.val (.int x0), .val (.int k), .val (.int (x0.toUInt32.toUInt16.toUInt32.toInt32)), .val (.int (1 : Int32)), .unset] [(.int (fH (x0.toUInt32.toUInt16.toUInt32.toInt32)))])) P
    refine Go.st (fun t_ k_ => XS.iloadN X1.here hx rfl (hb hby at_33) rfl k_) ?_
    show Go pg.tables ev below (T1.setTop (mkF mi 34 #[.val (.int x0), .val (.int k), .val (.int (x0.toUInt32.toUInt16.toUInt32.toInt32)), .val (.int (1 : Int32)), .unset] [(.int (1 : Int32)), (.int (fH (x0.toUInt32.toUInt16.toUInt32.toInt32)))])) P
    refine Go.st (fun t_ k_ => XS.icmpYes X1.here hx rfl (pc0 := 34) (pc' := 39) rfl (hb hby at_34) rfl (teq (own_law1 x0 hc10_1)).1 (by decide) (by decide) k_) ?_
    show Go pg.tables ev below (T1.setTop (mkF mi 39 #[.val (.int x0), .val (.int k), .val (.int (x0.toUInt32.toUInt16.toUInt32.toInt32)), .val (.int (1 : Int32)), .unset] [])) P
    have hwS : ∀ a ∈ Bundle.stringAtoms, a.before a0 Z = true := fun d hd => hw d ((by decide +kernel : ∀ d ∈ Bundle.stringAtoms, d ∈ tables_1) d hd)
    have hfr : Fr si.heap.size _ := (by rw [hh, ← hn0]; exact N1 : Fr si.heap.size _)
    obtain ⟨o, T2, h2, k12, t, kt, X2, e2, E2, hSi, hk1, hZ2, hown2, A2, FC2, FV2, AV2, -, -, -, st2⟩ := ldcSV (s := si) (vm0 := si.vm) (Ts := []) X1 hx hZ hown (hw _ (List.mem_of_getElem? (i := 4) rfl)) hwS e1 ((State.WarmedH.refl si).since h0.size) (Nat.le_refl _) hfr (fun b cl q => by rw [hh, ← hZh]; exact q) hIB (by simp) hheld hcw (vs := [(.int (48 : Int32)), (.int (49 : Int32)), (.int (50 : Int32)), (.int (51 : Int32)), (.int (52 : Int32)), (.int (53 : Int32)), (.int (54 : Int32)), (.int (55 : Int32)), (.int (56 : Int32)), (.int (57 : Int32)), (.int (97 : Int32)), (.int (98 : Int32)), (.int (99 : Int32)), (.int (100 : Int32)), (.int (101 : Int32)), (.int (102 : Int32))]) (z := (16 : Int32)) ⟨by decide, by decide⟩ (by decide) rfl (g := (mkF mi 39 #[.val (.int x0), .val (.int k), .val (.int (x0.toUInt32.toUInt16.toUInt32.toInt32)), .val (.int (1 : Int32)), .unset] [])) rfl (hb hby at_39) (n := 64) (by decide) (by decide) (by decide) (by decide)
    have hZ : Z.Warmed39 (si.setVm T2.vm).vm := hZ2
    have hown : (si.setVm T2.vm).vm.findClass "com/example/baton/baton/SpanContextIsLowerHexDigitPinLaw" = some mi.cls := hown2
    have Zs3 : n0 ≤ h2.size := Nat.le_trans Z0 E2.1
    refine Go.st st2 ?_
    show Go pg.tables ev below (T2.setTop (mkF mi 41 #[.val (.int x0), .val (.int k), .val (.int (x0.toUInt32.toUInt16.toUInt32.toInt32)), .val (.int (1 : Int32)), .unset] [(.ref o)])) P
    refine Go.st (fun t_ k_ => XS.iloadN X2.here hx rfl (hb hby at_41) rfl k_) ?_
    show Go pg.tables ev below (T2.setTop (mkF mi 42 #[.val (.int x0), .val (.int k), .val (.int (x0.toUInt32.toUInt16.toUInt32.toInt32)), .val (.int (1 : Int32)), .unset] [(.int k), (.ref o)])) P
    refine Go.st (fun t_ k_ => XS.bipush X2.here hx rfl (hb hby at_42) k_) ?_
    show Go pg.tables ev below (T2.setTop (mkF mi 44 #[.val (.int x0), .val (.int k), .val (.int (x0.toUInt32.toUInt16.toUInt32.toInt32)), .val (.int (1 : Int32)), .unset] [(.int (15 : Int32)), (.int k), (.ref o)])) P
    refine Go.st (fun t_ k_ => XS.iand X2.here hx rfl (hb hby at_44) rfl k_) ?_
    show Go pg.tables ev below (T2.setTop (mkF mi 45 #[.val (.int x0), .val (.int k), .val (.int (x0.toUInt32.toUInt16.toUInt32.toInt32)), .val (.int (1 : Int32)), .unset] [(.int (k &&& (15 : Int32))), (.ref o)])) P
    have f5 := (SC.ext E2)
    have f6 := (SF.ext E2)
    obtain ⟨cq4, kq4, q4a, q4b, q4c⟩ := isOf hZ e2 A2
    obtain ⟨_, _, ⟨T4, L4, k4, n4⟩, -, X4, ⟨Lc4, hQ4, l4, y4, z4⟩, st4⟩ := X2.virtualBack hx (y := (⟨"java/lang/String", "charAt", "(I)C"⟩ : MethodName)) (z := (⟨"java/lang/String", "charAt", "(I)C"⟩ : MethodName)) hown (mvT hZ (hw _ (List.mem_of_getElem? (i := 12) rfl))) (mvT hZ (hw _ (List.mem_of_getElem? (i := 13) rfl))) (notFace_of_selects (args := #[]) (mvT hZ (hw _ (List.mem_of_getElem? (i := 15) rfl)))) (mvT hZ (hw _ (List.mem_of_getElem? (i := 15) rfl))) (mvT hZ (hw _ (List.mem_of_getElem? (i := 14) rfl))) (by decide) (backOf (W := 0) (rmCA l Z a0 hw [] o (k &&& (15 : Int32)) t cz kt fm h2 n0 Zs3 A2 FC2 FV2 f5 hcz hfm f6 AV2 (own_in k).1 (own_in k).2) hZ (hw _ (List.mem_of_getElem? (i := 16) rfl)) (hw _ (List.mem_of_getElem? (i := 5) rfl)) (by decide) (by decide)) q4a q4c (g := (mkF mi 45 #[.val (.int x0), .val (.int k), .val (.int (x0.toUInt32.toUInt16.toUInt32.toInt32)), .val (.int (1 : Int32)), .unset] [(.int (k &&& (15 : Int32))), (.ref o)])) rfl (by rw [hml]; rfl) (Steps.refl _) (argsL := [(.int (k &&& (15 : Int32)))]) (rest := []) (lenOf pd_5 rfl) rfl (by show 2 * 0 + _ ≤ _; exact Nat.le_of_eq rfl) (hb hby at_45) (fun _ _ => ⟨rfl, e2, (by decide : 2 + 0 ≤ _), (by decide : 68 + 0 ≤ _)⟩)
    dsimp only [Pt.U, Pt.locs, Pt.cells, Pt.slots] at X4 l4 y4 z4 st4 hQ4
    subst l4 y4 z4
    obtain ⟨z4, rfl, N4q, e4, hPz4⟩ := hQ4
    have N4 := Fr.app N1 N4q
    refine Go.tr st4 ?_
    show Go pg.tables ev below (T4.setTop (mkF mi 48 #[.val (.int x0), .val (.int k), .val (.int (x0.toUInt32.toUInt16.toUInt32.toInt32)), .val (.int (1 : Int32)), .unset] [(.int z4)])) P
    refine Go.st (fun t_ k_ => XS.istore X4.here hx rfl (hb hby at_48) rfl (l' := #[.val (.int x0), .val (.int k), .val (.int (x0.toUInt32.toUInt16.toUInt32.toInt32)), .val (.int (1 : Int32)), .val (.int z4)]) rfl k_) ?_
    show Go pg.tables ev below (T4.setTop (mkF mi 50 #[.val (.int x0), .val (.int k), .val (.int (x0.toUInt32.toUInt16.toUInt32.toInt32)), .val (.int (1 : Int32)), .val (.int z4)] [])) P
    refine Go.st (fun t_ k_ => XS.iload X4.here hx rfl (hb hby at_50) rfl k_) ?_
    show Go pg.tables ev below (T4.setTop (mkF mi 52 #[.val (.int x0), .val (.int k), .val (.int (x0.toUInt32.toUInt16.toUInt32.toInt32)), .val (.int (1 : Int32)), .val (.int z4)] [(.int z4)])) P
    obtain ⟨_, _, ⟨T7, L7, k7, n7⟩, -, X7, ⟨Lc7, hQ7, l7, y7, z7⟩, st7⟩ := Jvm.LawKit.callS X4 hx (y := (⟨"com/example/baton/baton/SpanContext", "isLowerHexDigit", "(C)Z"⟩ : MethodName)) hown (mvT hZ (hw _ (List.mem_of_getElem? (i := 0) rfl))) (mvT hZ (hw _ (List.mem_of_getElem? (i := 1) rfl))) (mvT hZ (hw _ (List.mem_of_getElem? (i := 2) rfl))) (mvT hZ (hw _ (List.mem_of_getElem? (i := 3) rfl))) (by decide) (backOf (W := 0) (rmH l Z a0 hw [] z4 h2 n0 Zs3) hZ (hw _ (List.mem_of_getElem? (i := 3) rfl)) (hw _ (List.mem_of_getElem? (i := 2) rfl)) (by decide) (by decide)) (g := (mkF mi 52 #[.val (.int x0), .val (.int k), .val (.int (x0.toUInt32.toUInt16.toUInt32.toInt32)), .val (.int (1 : Int32)), .val (.int z4)] [(.int z4)])) rfl (by rw [hml]; rfl) (argsL := [(.int z4)]) (rest := []) (lenOf pd_4 rfl) rfl (by show 2 * 0 + _ ≤ _; exact Nat.le_of_eq rfl) (hb hby at_52) (fun _ _ => ⟨rfl, e4, (by decide : 2 + 0 ≤ _), (by decide : 68 + 0 ≤ _)⟩)
    dsimp only [Pt.U, Pt.locs, Pt.cells, Pt.slots] at X7 l7 y7 z7 st7 hQ7
    subst l7 y7 z7
    obtain ⟨rfl, N7q, e7⟩ := hQ7
    have N7 := Fr.app N4 N7q
    refine Go.st st7 ?_
    show Go pg.tables ev below (T7.setTop (mkF mi 55 #[.val (.int x0), .val (.int k), .val (.int (x0.toUInt32.toUInt16.toUInt32.toInt32)), .val (.int (1 : Int32)), .val (.int z4)] [(.int (fH z4))])) P
    rw [show fH z4 = 1 from hPz4.1]
    show Go pg.tables ev below (T7.setTop (mkF mi 55 #[.val (.int x0), .val (.int k), .val (.int (x0.toUInt32.toUInt16.toUInt32.toInt32)), .val (.int (1 : Int32)), .val (.int z4)] [(.int (1 : Int32))])) P
    obtain ⟨fs, hr, hrun, hended, -, hW, hpr, hsame⟩ := Stand.leaveW (v := some (.int (1 : Int32))) X7 hSi (by show _ ≤ T7.heap.size; rw [e7]; exact hk1) (fun h => by rw [Bd.returns] at h; cases h) (BodyLoose.notSynchronized Bd)
    refine ⟨_, _, ?_, hP _ _ ⟨hrun, hended, _, _, rfl, ?_, ⟨_, rfl⟩, hW, hpr, hsame.mono (by decide) (by decide)⟩⟩
    · exact retN X7 hx (t := .boolean) Bd.returns (by simp) (hb hby at_55) hr
    · show (some (.int (1 : Int32)) : Option Value) = some (.int 1) ∧ Fr n0 _
      exact ⟨rfl, N7⟩
  · refine Go.st (fun t_ k_ => XS.icmpNo X0.here hx rfl (hb hby at_10) rfl (flt hc10_1).1 k_) ?_
    show Go pg.tables ev below (s₁.setTop (mkF mi 13 #[.val (.int x0), .val (.int k), .val (.int (x0.toUInt32.toUInt16.toUInt32.toInt32)), .unset, .unset] [])) P
    refine Go.st (fun t_ k_ => XS.iloadN X0.here hx rfl (hb hby at_13) rfl k_) ?_
    show Go pg.tables ev below (s₁.setTop (mkF mi 14 #[.val (.int x0), .val (.int k), .val (.int (x0.toUInt32.toUInt16.toUInt32.toInt32)), .unset, .unset] [(.int (x0.toUInt32.toUInt16.toUInt32.toInt32))])) P
    refine Go.st (fun t_ k_ => XS.bipush X0.here hx rfl (hb hby at_14) k_) ?_
    show Go pg.tables ev below (s₁.setTop (mkF mi 16 #[.val (.int x0), .val (.int k), .val (.int (x0.toUInt32.toUInt16.toUInt32.toInt32)), .unset, .unset] [(.int (97 : Int32)), (.int (x0.toUInt32.toUInt16.toUInt32.toInt32))])) P
    refine Go.st (fun t_ k_ => XS.isub X0.here hx rfl (hb hby at_16) rfl k_) ?_
    show Go pg.tables ev below (s₁.setTop (mkF mi 17 #[.val (.int x0), .val (.int k), .val (.int (x0.toUInt32.toUInt16.toUInt32.toInt32)), .unset, .unset] [(.int ((x0.toUInt32.toUInt16.toUInt32.toInt32) - (97 : Int32)))])) P
    refine Go.st (fun t_ k_ => XS.i2c X0.here hx rfl (hb hby at_17) rfl k_) ?_
    show Go pg.tables ev below (s₁.setTop (mkF mi 18 #[.val (.int x0), .val (.int k), .val (.int (x0.toUInt32.toUInt16.toUInt32.toInt32)), .unset, .unset] [(.int (((x0.toUInt32.toUInt16.toUInt32.toInt32) - (97 : Int32)).toUInt32.toUInt16.toUInt32.toInt32))])) P
    refine Go.st (fun t_ k_ => XS.bipush X0.here hx rfl (hb hby at_18) k_) ?_
    show Go pg.tables ev below (s₁.setTop (mkF mi 20 #[.val (.int x0), .val (.int k), .val (.int (x0.toUInt32.toUInt16.toUInt32.toInt32)), .unset, .unset] [(.int (6 : Int32)), (.int (((x0.toUInt32.toUInt16.toUInt32.toInt32) - (97 : Int32)).toUInt32.toUInt16.toUInt32.toInt32))])) P
    have dm8 : ∀ t_, Steps pg.tables ev below (s₁.setTop (mkF mi 28 #[.val (.int x0), .val (.int k), .val (.int (x0.toUInt32.toUInt16.toUInt32.toInt32)), .unset, .unset] [(.int (if (((x0.toUInt32.toUInt16.toUInt32.toInt32) - (97 : Int32)).toUInt32.toUInt16.toUInt32.toInt32) < (6 : Int32) then (1 : Int32) else (0 : Int32)))])) t_ → Steps pg.tables ev below (s₁.setTop (mkF mi 20 #[.val (.int x0), .val (.int k), .val (.int (x0.toUInt32.toUInt16.toUInt32.toInt32)), .unset, .unset] [(.int (6 : Int32)), (.int (((x0.toUInt32.toUInt16.toUInt32.toInt32) - (97 : Int32)).toUInt32.toUInt16.toUInt32.toInt32))])) t_ := by
      intro t_ k_
      by_cases hd : (((x0.toUInt32.toUInt16.toUInt32.toInt32) - (97 : Int32)).toUInt32.toUInt16.toUInt32.toInt32) < (6 : Int32)
      · refine XS.icmpNo X0.here hx rfl (hb hby at_20) rfl (tlt hd).2.1 ?_
        show Steps pg.tables ev below (s₁.setTop (mkF mi 23 #[.val (.int x0), .val (.int k), .val (.int (x0.toUInt32.toUInt16.toUInt32.toInt32)), .unset, .unset] [])) t_
        refine XS.iconst X0.here hx rfl (hb hby at_23) ?_
        show Steps pg.tables ev below (s₁.setTop (mkF mi 24 #[.val (.int x0), .val (.int k), .val (.int (x0.toUInt32.toUInt16.toUInt32.toInt32)), .unset, .unset] [(.int (1 : Int32))])) t_
        refine XS.goto X0.here hx rfl (pc0 := 24) (pc' := 28) rfl (hb hby at_24) (by decide) (by decide) ?_
        show Steps pg.tables ev below (s₁.setTop (mkF mi 28 #[.val (.int x0), .val (.int k), .val (.int (x0.toUInt32.toUInt16.toUInt32.toInt32)), .unset, .unset] [(.int (1 : Int32))])) t_
        exact own_cst (if_pos hd) k_
      · refine XS.icmpYes X0.here hx rfl (pc0 := 20) (pc' := 27) rfl (hb hby at_20) rfl (flt hd).2.1 (by decide) (by decide) ?_
        show Steps pg.tables ev below (s₁.setTop (mkF mi 27 #[.val (.int x0), .val (.int k), .val (.int (x0.toUInt32.toUInt16.toUInt32.toInt32)), .unset, .unset] [])) t_
        refine XS.iconst X0.here hx rfl (hb hby at_27) ?_
        show Steps pg.tables ev below (s₁.setTop (mkF mi 28 #[.val (.int x0), .val (.int k), .val (.int (x0.toUInt32.toUInt16.toUInt32.toInt32)), .unset, .unset] [(.int (0 : Int32))])) t_
        exact own_cst (if_neg hd) k_
    refine Go.st dm8 ?_
    show Go pg.tables ev below (s₁.setTop (mkF mi 28 #[.val (.int x0), .val (.int k), .val (.int (x0.toUInt32.toUInt16.toUInt32.toInt32)), .unset, .unset] [(.int (if (((x0.toUInt32.toUInt16.toUInt32.toInt32) - (97 : Int32)).toUInt32.toUInt16.toUInt32.toInt32) < (6 : Int32) then (1 : Int32) else (0 : Int32)))])) P
    refine Go.st (fun t_ k_ => XS.istoreN X0.here hx rfl (hb hby at_28) rfl (l' := #[.val (.int x0), .val (.int k), .val (.int (x0.toUInt32.toUInt16.toUInt32.toInt32)), .val (.int (if (((x0.toUInt32.toUInt16.toUInt32.toInt32) - (97 : Int32)).toUInt32.toUInt16.toUInt32.toInt32) < (6 : Int32) then (1 : Int32) else (0 : Int32))), .unset]) rfl k_) ?_
    show Go pg.tables ev below (s₁.setTop (mkF mi 29 #[.val (.int x0), .val (.int k), .val (.int (x0.toUInt32.toUInt16.toUInt32.toInt32)), .val (.int (if (((x0.toUInt32.toUInt16.toUInt32.toInt32) - (97 : Int32)).toUInt32.toUInt16.toUInt32.toInt32) < (6 : Int32) then (1 : Int32) else (0 : Int32))), .unset] [])) P
    refine Go.st (fun t_ k_ => XS.iloadN X0.here hx rfl (hb hby at_29) rfl k_) ?_
    show Go pg.tables ev below (s₁.setTop (mkF mi 30 #[.val (.int x0), .val (.int k), .val (.int (x0.toUInt32.toUInt16.toUInt32.toInt32)), .val (.int (if (((x0.toUInt32.toUInt16.toUInt32.toInt32) - (97 : Int32)).toUInt32.toUInt16.toUInt32.toInt32) < (6 : Int32) then (1 : Int32) else (0 : Int32))), .unset] [(.int (x0.toUInt32.toUInt16.toUInt32.toInt32))])) P
    obtain ⟨_, _, ⟨T9, L9, k9, n9⟩, -, X9, ⟨Lc9, hQ9, l9, y9, z9⟩, st9⟩ := Jvm.LawKit.callS X0 hx (y := (⟨"com/example/baton/baton/SpanContext", "isLowerHexDigit", "(C)Z"⟩ : MethodName)) hown (mvT hZ (hw _ (List.mem_of_getElem? (i := 0) rfl))) (mvT hZ (hw _ (List.mem_of_getElem? (i := 1) rfl))) (mvT hZ (hw _ (List.mem_of_getElem? (i := 2) rfl))) (mvT hZ (hw _ (List.mem_of_getElem? (i := 3) rfl))) (by decide) (backOf (W := 0) (rmH l Z a0 hw [] (x0.toUInt32.toUInt16.toUInt32.toInt32) h0 n0 Z0) hZ (hw _ (List.mem_of_getElem? (i := 3) rfl)) (hw _ (List.mem_of_getElem? (i := 2) rfl)) (by decide) (by decide)) (g := (mkF mi 30 #[.val (.int x0), .val (.int k), .val (.int (x0.toUInt32.toUInt16.toUInt32.toInt32)), .val (.int (if (((x0.toUInt32.toUInt16.toUInt32.toInt32) - (97 : Int32)).toUInt32.toUInt16.toUInt32.toInt32) < (6 : Int32) then (1 : Int32) else (0 : Int32))), .unset] [(.int (x0.toUInt32.toUInt16.toUInt32.toInt32))])) rfl (by rw [hml]; rfl) (argsL := [(.int (x0.toUInt32.toUInt16.toUInt32.toInt32))]) (rest := []) (lenOf pd_4 rfl) rfl (by show 2 * 0 + _ ≤ _; exact Nat.le_of_eq rfl) (hb hby at_30) (fun _ _ => ⟨rfl, e0, (by decide : 0 + 0 ≤ _), (by decide : 0 + 0 ≤ _)⟩)
    dsimp only [Pt.U, Pt.locs, Pt.cells, Pt.slots] at X9 l9 y9 z9 st9 hQ9
    subst l9 y9 z9
    obtain ⟨rfl, N9q, e9⟩ := hQ9
    have N9 := Fr.app N0 N9q
    refine Go.st st9 ?_
    show Go pg.tables ev below (T9.setTop (mkF mi 33 #[.val (.int x0), .val (.int k), .val (.int (x0.toUInt32.toUInt16.toUInt32.toInt32)), .val (.int (if (((x0.toUInt32.toUInt16.toUInt32.toInt32) - (97 : Int32)).toUInt32.toUInt16.toUInt32.toInt32) < (6 : Int32) then (1 : Int32) else (0 : Int32))), .unset] [(.int (fH (x0.toUInt32.toUInt16.toUInt32.toInt32)))])) P
    refine Go.st (fun t_ k_ => XS.iloadN X9.here hx rfl (hb hby at_33) rfl k_) ?_
    show Go pg.tables ev below (T9.setTop (mkF mi 34 #[.val (.int x0), .val (.int k), .val (.int (x0.toUInt32.toUInt16.toUInt32.toInt32)), .val (.int (if (((x0.toUInt32.toUInt16.toUInt32.toInt32) - (97 : Int32)).toUInt32.toUInt16.toUInt32.toInt32) < (6 : Int32) then (1 : Int32) else (0 : Int32))), .unset] [(.int (if (((x0.toUInt32.toUInt16.toUInt32.toInt32) - (97 : Int32)).toUInt32.toUInt16.toUInt32.toInt32) < (6 : Int32) then (1 : Int32) else (0 : Int32))), (.int (fH (x0.toUInt32.toUInt16.toUInt32.toInt32)))])) P
    refine Go.st (fun t_ k_ => XS.icmpYes X9.here hx rfl (pc0 := 34) (pc' := 39) rfl (hb hby at_34) rfl (teq (own_law2 x0 hc10_1)).1 (by decide) (by decide) k_) ?_
    show Go pg.tables ev below (T9.setTop (mkF mi 39 #[.val (.int x0), .val (.int k), .val (.int (x0.toUInt32.toUInt16.toUInt32.toInt32)), .val (.int (if (((x0.toUInt32.toUInt16.toUInt32.toInt32) - (97 : Int32)).toUInt32.toUInt16.toUInt32.toInt32) < (6 : Int32) then (1 : Int32) else (0 : Int32))), .unset] [])) P
    have hwS : ∀ a ∈ Bundle.stringAtoms, a.before a0 Z = true := fun d hd => hw d ((by decide +kernel : ∀ d ∈ Bundle.stringAtoms, d ∈ tables_1) d hd)
    have hfr : Fr si.heap.size _ := (by rw [hh, ← hn0]; exact N9 : Fr si.heap.size _)
    obtain ⟨o, T10, h10, k110, t, kt, X10, e10, E10, hSi, hk1, hZ2, hown2, A10, FC10, FV10, AV10, -, -, -, st10⟩ := ldcSV (s := si) (vm0 := si.vm) (Ts := []) X9 hx hZ hown (hw _ (List.mem_of_getElem? (i := 4) rfl)) hwS e9 ((State.WarmedH.refl si).since h0.size) (Nat.le_refl _) hfr (fun b cl q => by rw [hh, ← hZh]; exact q) hIB (by simp) hheld hcw (vs := [(.int (48 : Int32)), (.int (49 : Int32)), (.int (50 : Int32)), (.int (51 : Int32)), (.int (52 : Int32)), (.int (53 : Int32)), (.int (54 : Int32)), (.int (55 : Int32)), (.int (56 : Int32)), (.int (57 : Int32)), (.int (97 : Int32)), (.int (98 : Int32)), (.int (99 : Int32)), (.int (100 : Int32)), (.int (101 : Int32)), (.int (102 : Int32))]) (z := (16 : Int32)) ⟨by decide, by decide⟩ (by decide) rfl (g := (mkF mi 39 #[.val (.int x0), .val (.int k), .val (.int (x0.toUInt32.toUInt16.toUInt32.toInt32)), .val (.int (if (((x0.toUInt32.toUInt16.toUInt32.toInt32) - (97 : Int32)).toUInt32.toUInt16.toUInt32.toInt32) < (6 : Int32) then (1 : Int32) else (0 : Int32))), .unset] [])) rfl (hb hby at_39) (n := 64) (by decide) (by decide) (by decide) (by decide)
    have hZ : Z.Warmed39 (si.setVm T10.vm).vm := hZ2
    have hown : (si.setVm T10.vm).vm.findClass "com/example/baton/baton/SpanContextIsLowerHexDigitPinLaw" = some mi.cls := hown2
    have Zs11 : n0 ≤ h10.size := Nat.le_trans Z0 E10.1
    refine Go.st st10 ?_
    show Go pg.tables ev below (T10.setTop (mkF mi 41 #[.val (.int x0), .val (.int k), .val (.int (x0.toUInt32.toUInt16.toUInt32.toInt32)), .val (.int (if (((x0.toUInt32.toUInt16.toUInt32.toInt32) - (97 : Int32)).toUInt32.toUInt16.toUInt32.toInt32) < (6 : Int32) then (1 : Int32) else (0 : Int32))), .unset] [(.ref o)])) P
    refine Go.st (fun t_ k_ => XS.iloadN X10.here hx rfl (hb hby at_41) rfl k_) ?_
    show Go pg.tables ev below (T10.setTop (mkF mi 42 #[.val (.int x0), .val (.int k), .val (.int (x0.toUInt32.toUInt16.toUInt32.toInt32)), .val (.int (if (((x0.toUInt32.toUInt16.toUInt32.toInt32) - (97 : Int32)).toUInt32.toUInt16.toUInt32.toInt32) < (6 : Int32) then (1 : Int32) else (0 : Int32))), .unset] [(.int k), (.ref o)])) P
    refine Go.st (fun t_ k_ => XS.bipush X10.here hx rfl (hb hby at_42) k_) ?_
    show Go pg.tables ev below (T10.setTop (mkF mi 44 #[.val (.int x0), .val (.int k), .val (.int (x0.toUInt32.toUInt16.toUInt32.toInt32)), .val (.int (if (((x0.toUInt32.toUInt16.toUInt32.toInt32) - (97 : Int32)).toUInt32.toUInt16.toUInt32.toInt32) < (6 : Int32) then (1 : Int32) else (0 : Int32))), .unset] [(.int (15 : Int32)), (.int k), (.ref o)])) P
    refine Go.st (fun t_ k_ => XS.iand X10.here hx rfl (hb hby at_44) rfl k_) ?_
    show Go pg.tables ev below (T10.setTop (mkF mi 45 #[.val (.int x0), .val (.int k), .val (.int (x0.toUInt32.toUInt16.toUInt32.toInt32)), .val (.int (if (((x0.toUInt32.toUInt16.toUInt32.toInt32) - (97 : Int32)).toUInt32.toUInt16.toUInt32.toInt32) < (6 : Int32) then (1 : Int32) else (0 : Int32))), .unset] [(.int (k &&& (15 : Int32))), (.ref o)])) P
    have f13 := (SC.ext E10)
    have f14 := (SF.ext E10)
    obtain ⟨cq12, kq12, q12a, q12b, q12c⟩ := isOf hZ e10 A10
    obtain ⟨_, _, ⟨T12, L12, k12, n12⟩, -, X12, ⟨Lc12, hQ12, l12, y12, z12⟩, st12⟩ := X10.virtualBack hx (y := (⟨"java/lang/String", "charAt", "(I)C"⟩ : MethodName)) (z := (⟨"java/lang/String", "charAt", "(I)C"⟩ : MethodName)) hown (mvT hZ (hw _ (List.mem_of_getElem? (i := 12) rfl))) (mvT hZ (hw _ (List.mem_of_getElem? (i := 13) rfl))) (notFace_of_selects (args := #[]) (mvT hZ (hw _ (List.mem_of_getElem? (i := 15) rfl)))) (mvT hZ (hw _ (List.mem_of_getElem? (i := 15) rfl))) (mvT hZ (hw _ (List.mem_of_getElem? (i := 14) rfl))) (by decide) (backOf (W := 0) (rmCA l Z a0 hw [] o (k &&& (15 : Int32)) t cz kt fm h10 n0 Zs11 A10 FC10 FV10 f13 hcz hfm f14 AV10 (own_in k).1 (own_in k).2) hZ (hw _ (List.mem_of_getElem? (i := 16) rfl)) (hw _ (List.mem_of_getElem? (i := 5) rfl)) (by decide) (by decide)) q12a q12c (g := (mkF mi 45 #[.val (.int x0), .val (.int k), .val (.int (x0.toUInt32.toUInt16.toUInt32.toInt32)), .val (.int (if (((x0.toUInt32.toUInt16.toUInt32.toInt32) - (97 : Int32)).toUInt32.toUInt16.toUInt32.toInt32) < (6 : Int32) then (1 : Int32) else (0 : Int32))), .unset] [(.int (k &&& (15 : Int32))), (.ref o)])) rfl (by rw [hml]; rfl) (Steps.refl _) (argsL := [(.int (k &&& (15 : Int32)))]) (rest := []) (lenOf pd_5 rfl) rfl (by show 2 * 0 + _ ≤ _; exact Nat.le_of_eq rfl) (hb hby at_45) (fun _ _ => ⟨rfl, e10, (by decide : 2 + 0 ≤ _), (by decide : 68 + 0 ≤ _)⟩)
    dsimp only [Pt.U, Pt.locs, Pt.cells, Pt.slots] at X12 l12 y12 z12 st12 hQ12
    subst l12 y12 z12
    obtain ⟨z12, rfl, N12q, e12, hPz12⟩ := hQ12
    have N12 := Fr.app N9 N12q
    refine Go.tr st12 ?_
    show Go pg.tables ev below (T12.setTop (mkF mi 48 #[.val (.int x0), .val (.int k), .val (.int (x0.toUInt32.toUInt16.toUInt32.toInt32)), .val (.int (if (((x0.toUInt32.toUInt16.toUInt32.toInt32) - (97 : Int32)).toUInt32.toUInt16.toUInt32.toInt32) < (6 : Int32) then (1 : Int32) else (0 : Int32))), .unset] [(.int z12)])) P
    refine Go.st (fun t_ k_ => XS.istore X12.here hx rfl (hb hby at_48) rfl (l' := #[.val (.int x0), .val (.int k), .val (.int (x0.toUInt32.toUInt16.toUInt32.toInt32)), .val (.int (if (((x0.toUInt32.toUInt16.toUInt32.toInt32) - (97 : Int32)).toUInt32.toUInt16.toUInt32.toInt32) < (6 : Int32) then (1 : Int32) else (0 : Int32))), .val (.int z12)]) rfl k_) ?_
    show Go pg.tables ev below (T12.setTop (mkF mi 50 #[.val (.int x0), .val (.int k), .val (.int (x0.toUInt32.toUInt16.toUInt32.toInt32)), .val (.int (if (((x0.toUInt32.toUInt16.toUInt32.toInt32) - (97 : Int32)).toUInt32.toUInt16.toUInt32.toInt32) < (6 : Int32) then (1 : Int32) else (0 : Int32))), .val (.int z12)] [])) P
    refine Go.st (fun t_ k_ => XS.iload X12.here hx rfl (hb hby at_50) rfl k_) ?_
    show Go pg.tables ev below (T12.setTop (mkF mi 52 #[.val (.int x0), .val (.int k), .val (.int (x0.toUInt32.toUInt16.toUInt32.toInt32)), .val (.int (if (((x0.toUInt32.toUInt16.toUInt32.toInt32) - (97 : Int32)).toUInt32.toUInt16.toUInt32.toInt32) < (6 : Int32) then (1 : Int32) else (0 : Int32))), .val (.int z12)] [(.int z12)])) P
    obtain ⟨_, _, ⟨T15, L15, k15, n15⟩, -, X15, ⟨Lc15, hQ15, l15, y15, z15⟩, st15⟩ := Jvm.LawKit.callS X12 hx (y := (⟨"com/example/baton/baton/SpanContext", "isLowerHexDigit", "(C)Z"⟩ : MethodName)) hown (mvT hZ (hw _ (List.mem_of_getElem? (i := 0) rfl))) (mvT hZ (hw _ (List.mem_of_getElem? (i := 1) rfl))) (mvT hZ (hw _ (List.mem_of_getElem? (i := 2) rfl))) (mvT hZ (hw _ (List.mem_of_getElem? (i := 3) rfl))) (by decide) (backOf (W := 0) (rmH l Z a0 hw [] z12 h10 n0 Zs11) hZ (hw _ (List.mem_of_getElem? (i := 3) rfl)) (hw _ (List.mem_of_getElem? (i := 2) rfl)) (by decide) (by decide)) (g := (mkF mi 52 #[.val (.int x0), .val (.int k), .val (.int (x0.toUInt32.toUInt16.toUInt32.toInt32)), .val (.int (if (((x0.toUInt32.toUInt16.toUInt32.toInt32) - (97 : Int32)).toUInt32.toUInt16.toUInt32.toInt32) < (6 : Int32) then (1 : Int32) else (0 : Int32))), .val (.int z12)] [(.int z12)])) rfl (by rw [hml]; rfl) (argsL := [(.int z12)]) (rest := []) (lenOf pd_4 rfl) rfl (by show 2 * 0 + _ ≤ _; exact Nat.le_of_eq rfl) (hb hby at_52) (fun _ _ => ⟨rfl, e12, (by decide : 2 + 0 ≤ _), (by decide : 68 + 0 ≤ _)⟩)
    dsimp only [Pt.U, Pt.locs, Pt.cells, Pt.slots] at X15 l15 y15 z15 st15 hQ15
    subst l15 y15 z15
    obtain ⟨rfl, N15q, e15⟩ := hQ15
    have N15 := Fr.app N12 N15q
    refine Go.st st15 ?_
    show Go pg.tables ev below (T15.setTop (mkF mi 55 #[.val (.int x0), .val (.int k), .val (.int (x0.toUInt32.toUInt16.toUInt32.toInt32)), .val (.int (if (((x0.toUInt32.toUInt16.toUInt32.toInt32) - (97 : Int32)).toUInt32.toUInt16.toUInt32.toInt32) < (6 : Int32) then (1 : Int32) else (0 : Int32))), .val (.int z12)] [(.int (fH z12))])) P
    rw [show fH z12 = 1 from hPz12.1]
    show Go pg.tables ev below (T15.setTop (mkF mi 55 #[.val (.int x0), .val (.int k), .val (.int (x0.toUInt32.toUInt16.toUInt32.toInt32)), .val (.int (if (((x0.toUInt32.toUInt16.toUInt32.toInt32) - (97 : Int32)).toUInt32.toUInt16.toUInt32.toInt32) < (6 : Int32) then (1 : Int32) else (0 : Int32))), .val (.int z12)] [(.int (1 : Int32))])) P
    obtain ⟨fs, hr, hrun, hended, -, hW, hpr, hsame⟩ := Stand.leaveW (v := some (.int (1 : Int32))) X15 hSi (by show _ ≤ T15.heap.size; rw [e15]; exact hk1) (fun h => by rw [Bd.returns] at h; cases h) (BodyLoose.notSynchronized Bd)
    refine ⟨_, _, ?_, hP _ _ ⟨hrun, hended, _, _, rfl, ?_, ⟨_, rfl⟩, hW, hpr, hsame.mono (by decide) (by decide)⟩⟩
    · exact retN X15 hx (t := .boolean) Bd.returns (by simp) (hb hby at_55) hr
    · show (some (.int (1 : Int32)) : Option Value) = some (.int 1) ∧ Fr n0 _
      exact ⟨rfl, N15⟩
set_option maxRecDepth 65536 in
set_option maxHeartbeats 40000000 in
theorem comes_1 {Post : Tables → Env → Array Value → State → Outcome → State → Prop} (hpost : ∀ tb e args s v u, (limb_1_1.after args s (.returned v) u = true ∧ limb_1_2.after args s (.returned v) u = true ∧ True) → ReturnedEndW s (.returned v) u (Jvm.fieldLocs frame_1_writes args s ++ Jvm.arrayLocs frame_1_arrays args s ++ Jvm.staticLocs frame_1_statics s) 8 1088 → Post tb e args s (.returned v) u) :
    ArmFor flags0 classFile x code maxLocals ret World_1 tables_1 room_1 Calls_1 rest_1 Pre_1 Post := by
  intro l hfl _ _ p e ha hc hk s m args below hf hA hF happ hP
  obtain ⟨hcalls, hrest, hpre⟩ := hP
  obtain ⟨-, -, -, hnamed, -, -, -, hat⟩ := (Spec.applies_iff hf).mp happ
  obtain ⟨hg, hn⟩ := and_e (Cond.before_iff.mp (show (Jvm.Cond.and given_1 narrow_1).before args s = true from hpre))
  obtain ⟨g1, g2⟩ := and_e hg
  obtain ⟨g3, g4⟩ := and_e g2
  obtain ⟨w0, w1, rfl⟩ : ∃ w0 w1 : Value, args = #[w0, w1] := by
    have hs : args.size = 2 := by simpa [Cond.value, given_1] using g1
    obtain ⟨L⟩ := args
    match L, hs with
    | [w0, w1], _ => exact ⟨w0, w1, rfl⟩
  have hw := fun d (hd : d ∈ tables_1) => atoms_spec (ws := Jvm.Cond.code x code maxLocals ret :: tables_1) hat d (List.mem_cons_of_mem _ hd)
  have hfit : Fit s := fun {y c} hc i hi => by
    obtain ⟨ha, rfl⟩ := Array.getElem?_eq_some_iff.mp hc
    have q := List.all_eq_true.mp ((Array.all_eq_true_iff_forall_mem.mp hF) _ (Array.getElem_mem ha)) i (List.mem_range.mpr hi)
    simpa [Array.getElem?_eq_getElem hi] using q
  obtain ⟨hsets, hown0⟩ := atoms_of _ (rest_1_c_eq ▸ (show rest_1_c.before _ s = true from hrest))
  have hr0 := Cond.before_iff.mp hown0
  obtain ⟨i0, ei0⟩ := is_v g3
  obtain rfl : w0 = (.int i0) := Option.some.inj ei0
  obtain ⟨i1, ei1⟩ := is_v g4
  obtain rfl : w1 = (.int i1) := Option.some.inj ei1
  have n5 := not_v (Cond.before_iff.mp (hsets _ (List.mem_of_getElem? (i := 2) rfl)))
  obtain ⟨cz, ecz⟩ := is_v (Cond.before_iff.mp (hsets _ (List.mem_of_getElem? (i := 1) rfl)))
  have SC : Sta s s.heap "java/lang/String" "COMPACT_STRINGS" "Z" (.int cz) := Sta.start ecz (Or.inl (hsets _ (List.mem_of_getElem? (i := 0) rfl)))
  obtain ⟨fm, efm, hfm⟩ := isR_v (Cond.before_iff.mp (hsets _ (List.mem_of_getElem? (i := 8) rfl)))
  have SF : Sta s s.heap "jdk/internal/util/Preconditions" "SIOOBE_FORMATTER" "Ljava/util/function/BiFunction;" fm := Sta.start efm (Or.inl (hsets _ (List.mem_of_getElem? (i := 7) rfl)))
  have hcz : ¬ (cz = (0 : Int32)) := gotF (Cond.eq_ints ecz (Term.int_eval (0))) n5
  obtain ⟨n, o, h1, h2, h3, _, L, rfl, ⟨rfl, N⟩, hq⟩ := rm0 l s _ hw tables_1 i0 i1 cz fm s.heap s.heap.size (Nat.le_refl _) SC hcz SF hfm rfl rfl (hsets _ (List.mem_of_getElem? (i := 2) rfl)) (hcalls.1 ("com/example/baton/baton/SpanContextIsLowerHexDigitPinLaw", 13) (by simp [consts_1])) p e ha hc hk s m _ below hf ((Spec.applies_iff_loose hf).mp happ).1 ⟨rfl, State.Warmed39.refl s, rfl, rfl⟩ trivial
  refine ⟨n, _, h1, h2, h3, hpost _ _ _ _ _ _ ⟨Cond.after_iff.mpr rfl, Cond.after_iff.mpr (eq_i res_at (Term.int_eval (1)) rfl), trivial⟩ ⟨hq.1, hq.2.1, hq.2.2.1, (hq.2.2.2.sift fun y hy => Or.inr (N y hy)).mono (by decide) (by decide)⟩⟩
theorem main_1_1 : Claimed_1_1 := comes_1 fun _ _ _ _ _ _ h hF => ⟨h.1, hF⟩
theorem main_1_2 : Claimed_1_2 := comes_1 fun _ _ _ _ _ _ h hF => ⟨h.2.1, hF⟩
end Jvm.Pilot.@@N@@
namespace Jvm.Pilot.@@N@@
open Jvm Jvm.ClassFile Sem Op Lib Jvm.Free Jvm.Stand Jvm.Pilot.@@N@@.Jvm.D
/-! MADE BY PROGRAM (witnessworld.py) out of the Statement's table words and the real class files: 17 classes; the members and pool entries that the words name. The judged class is class 1, her method 1. -/
namespace start1
open Jvm.ClassFile
def u (s : String) : CpInfo := .utf8 (stringToUtf16 s)
/-- a pool by its gaps: so many unusable entries, then the entry; so many at the end -/
def gap : Nat → List CpInfo → List CpInfo
  | 0, r => r
  | n + 1, r => .unusable :: gap n r
def poolList (es : List (Nat × CpInfo)) (last : Nat) : List CpInfo := es.foldr (fun e r => gap e.1 (e.2 :: r)) (gap last [])
def pool (es : List (Nat × CpInfo)) (last : Nat) : Array CpInfo := ⟨poolList es last⟩
def fileOf (pool : Array CpInfo) (this : Nat) (attrs : Array Attribute := #[]) (ms : Array MethodInfo := #[]) (fl : Nat := 33) (sup : Nat := 0) (ifs : Array Nat := #[]) (fds : Array FieldInfo := #[]) : ClassFile where
  minorVersion := 0
  majorVersion := 65
  constantPool := pool
  accessFlags := fl
  thisClass := this
  superClass := sup
  interfaces := ifs
  fields := fds
  methods := ms
  attributes := attrs
def plain (name : String) (sup : Option ClassId) : Class where
  name := name
  kind := .ordinary
  loader := none
  accessFlags := 33
  super := sup
  interfaces := #[]
  cf := none
  fields := #[]
  methods := #[]
  instanceTypes := #[]
  staticTypes := #[]
  resolved := #[]
  callSites := []
  init := .initialized
  statics := none
  mirror := none

def pool0 : Array CpInfo := pool [(5, u "<init>"), (0, u "()V"), (1, .class_ 10), (1, u "java/lang/Object")] 113

def k0m0 : Method := { name := "<init>", desc := "()V", sig := { parameters := [], returnType := none }, accessFlags := 1, code := none }
/-- java/lang/Object -/
def k0 : Class := { plain "java/lang/Object" none with
  accessFlags := 33
  interfaces := #[]
  cf := some (fileOf pool0 8 #[] #[{ accessFlags := 1, nameIndex := 5, descriptorIndex := 6, attributes := #[] }] 33 0 #[] #[])
  fields := #[]
  methods := #[k0m0]
  instanceTypes := #[]
  staticTypes := #[]
  resolved := Array.replicate 124 none
  statics := none }

def pool1 : Array CpInfo := pool [(2, .class_ 4), (1, u "java/lang/Object"), (0, u "<init>"), (0, u "()V"), (0, .methodref 8 9), (0, .class_ 10), (0, .nameAndType 11 12), (0, u "com/example/baton/baton/SpanContext"), (0, u "isLowerHexDigit"), (0, u "(C)Z"), (0, .string 14), (0, u "0123456789abcdef"), (0, .methodref 16 17), (0, .class_ 18), (0, .nameAndType 19 20), (0, u "java/lang/String"), (0, u "charAt"), (0, u "(I)C"), (0, .class_ 22), (0, u "com/example/baton/baton/SpanContextIsLowerHexDigitPinLaw"), (2, u "law"), (0, u "(II)Z")] 3

def k1m0 : Method := { name := "<init>", desc := "()V", sig := { parameters := [], returnType := none }, accessFlags := 2, code := none }
def k1c1 : Code := { maxStack := 3, maxLocals := 5, code := code, exceptionTable := #[], attributes := #[] }
def k1m1 : Method := { name := "law", desc := "(II)Z", sig := { parameters := [.int, .int], returnType := some .boolean }, accessFlags := 9, code := some k1c1 }
/-- com/example/baton/baton/SpanContextIsLowerHexDigitPinLaw -/
def k1 : Class := { plain "com/example/baton/baton/SpanContextIsLowerHexDigitPinLaw" (some 0) with
  accessFlags := 49
  interfaces := #[]
  cf := some (fileOf pool1 21 #[] #[{ accessFlags := 2, nameIndex := 5, descriptorIndex := 6, attributes := #[] }, { accessFlags := 9, nameIndex := 25, descriptorIndex := 26, attributes := #[] }] 49 2 #[] #[])
  fields := #[]
  methods := #[k1m0, k1m1]
  instanceTypes := #[]
  staticTypes := #[]
  resolved := Array.replicate 30 none
  statics := none }

def pool2 : Array CpInfo := pool [(2, .class_ 4), (1, u "java/lang/Object"), (3, .class_ 10), (1, u "com/example/baton/baton/SpanContext"), (0, u "traceId"), (0, u "Ljava/lang/String;"), (2, u "spanId"), (2, u "traceFlags"), (0, u "Lcom/example/baton/baton/TraceFlags;"), (2, u "traceState"), (0, u "Lcom/example/baton/baton/TraceState;"), (2, u "remote"), (0, u "Z"), (70, u "HEX_DIGITS"), (0, u "[C"), (6, u "isLowerHexDigit"), (0, u "(C)Z"), (6, u "ZERO_HIGH_HALF"), (48, u "TRACE_ID_LENGTH"), (0, u "I"), (2, u "SPAN_ID_LENGTH")] 38

def k2c0 : Code := { maxStack := 2, maxLocals := 1, code := prog_23_method_13_code, exceptionTable := #[], attributes := #[] }
def k2m0 : Method := { name := "isLowerHexDigit", desc := "(C)Z", sig := { parameters := [.char], returnType := some .boolean }, accessFlags := 8, code := some k2c0 }
/-- com/example/baton/baton/SpanContext -/
def k2 : Class := { plain "com/example/baton/baton/SpanContext" (some 0) with
  accessFlags := 49
  interfaces := #[]
  cf := some (fileOf pool2 8 #[] #[{ accessFlags := 8, nameIndex := 106, descriptorIndex := 107, attributes := #[] }] 49 2 #[] #[{ accessFlags := 24, nameIndex := 163, descriptorIndex := 164, attributes := #[] }, { accessFlags := 24, nameIndex := 167, descriptorIndex := 164, attributes := #[] }, { accessFlags := 26, nameIndex := 98, descriptorIndex := 99, attributes := #[] }, { accessFlags := 26, nameIndex := 114, descriptorIndex := 12, attributes := #[] }, { accessFlags := 18, nameIndex := 11, descriptorIndex := 12, attributes := #[] }, { accessFlags := 18, nameIndex := 15, descriptorIndex := 12, attributes := #[] }, { accessFlags := 18, nameIndex := 18, descriptorIndex := 19, attributes := #[] }, { accessFlags := 18, nameIndex := 22, descriptorIndex := 23, attributes := #[] }, { accessFlags := 18, nameIndex := 26, descriptorIndex := 27, attributes := #[] }])
  fields := #[{ name := "TRACE_ID_LENGTH", type := .int, accessFlags := 24, slot := 0, constantValue := 0 }, { name := "SPAN_ID_LENGTH", type := .int, accessFlags := 24, slot := 1, constantValue := 0 }, { name := "HEX_DIGITS", type := (.array .char), accessFlags := 26, slot := 2, constantValue := 0 }, { name := "ZERO_HIGH_HALF", type := (.object "java/lang/String"), accessFlags := 26, slot := 3, constantValue := 0 }, { name := "traceId", type := (.object "java/lang/String"), accessFlags := 18, slot := 0, constantValue := 0 }, { name := "spanId", type := (.object "java/lang/String"), accessFlags := 18, slot := 1, constantValue := 0 }, { name := "traceFlags", type := (.object "com/example/baton/baton/TraceFlags"), accessFlags := 18, slot := 2, constantValue := 0 }, { name := "traceState", type := (.object "com/example/baton/baton/TraceState"), accessFlags := 18, slot := 3, constantValue := 0 }, { name := "remote", type := .boolean, accessFlags := 18, slot := 4, constantValue := 0 }]
  methods := #[k2m0]
  instanceTypes := #[(.object "java/lang/String"), (.object "java/lang/String"), (.object "com/example/baton/baton/TraceFlags"), (.object "com/example/baton/baton/TraceState"), .boolean]
  staticTypes := #[.int, .int, (.array .char), (.object "java/lang/String")]
  resolved := Array.replicate 206 none
  statics := none }

def pool3 : Array CpInfo := pool [(1, .class_ 2), (0, u "java/io/Serializable"), (0, .class_ 4), (0, u "java/lang/Object")] 2

/-- java/io/Serializable -/
def k3 : Class := { plain "java/io/Serializable" (some 0) with
  accessFlags := 1537
  interfaces := #[]
  cf := some (fileOf pool3 1 #[] #[] 1537 3 #[] #[])
  fields := #[]
  methods := #[]
  instanceTypes := #[]
  staticTypes := #[]
  resolved := Array.replicate 7 none
  statics := none }

def pool4 : Array CpInfo := pool [(1, .class_ 2), (0, u "java/lang/Comparable"), (0, .class_ 4), (0, u "java/lang/Object")] 7

/-- java/lang/Comparable -/
def k4 : Class := { plain "java/lang/Comparable" (some 0) with
  accessFlags := 1537
  interfaces := #[]
  cf := some (fileOf pool4 1 #[] #[] 1537 3 #[] #[])
  fields := #[]
  methods := #[]
  instanceTypes := #[]
  staticTypes := #[]
  resolved := Array.replicate 12 none
  statics := none }

def pool5 : Array CpInfo := pool [(2, .class_ 4), (1, u "java/lang/CharSequence"), (42, .class_ 48), (0, u "java/lang/CharSequence$1CodePointIterator"), (10, .class_ 60), (0, u "java/lang/CharSequence$1CharIterator"), (5, .class_ 67), (0, u "java/lang/Object")] 63

/-- java/lang/CharSequence -/
def k5 : Class := { plain "java/lang/CharSequence" (some 0) with
  accessFlags := 1537
  interfaces := #[]
  cf := some (fileOf pool5 2 #[.nestMembers #[47, 59]] #[] 1537 66 #[] #[])
  fields := #[]
  methods := #[]
  instanceTypes := #[]
  staticTypes := #[]
  resolved := Array.replicate 131 none
  statics := none }

def pool6 : Array CpInfo := pool [(1, .class_ 2), (0, u "java/lang/constant/Constable"), (0, .class_ 4), (0, u "java/lang/Object")] 6

/-- java/lang/constant/Constable -/
def k6 : Class := { plain "java/lang/constant/Constable" (some 0) with
  accessFlags := 1537
  interfaces := #[]
  cf := some (fileOf pool6 1 #[] #[] 1537 3 #[] #[])
  fields := #[]
  methods := #[]
  instanceTypes := #[]
  staticTypes := #[]
  resolved := Array.replicate 11 none
  statics := none }

def pool7 : Array CpInfo := pool [(1, .class_ 2), (0, u "java/lang/constant/ConstantDesc"), (0, .class_ 4), (0, u "java/lang/Object")] 32

/-- java/lang/constant/ConstantDesc -/
def k7 : Class := { plain "java/lang/constant/ConstantDesc" (some 0) with
  accessFlags := 1537
  interfaces := #[]
  cf := some (fileOf pool7 1 #[] #[] 1537 3 #[] #[])
  fields := #[]
  methods := #[]
  instanceTypes := #[]
  staticTypes := #[]
  resolved := Array.replicate 37 none
  statics := none }

def pool8 : Array CpInfo := pool [(2, .class_ 4), (1, u "java/lang/Object"), (0, u "<init>"), (0, u "()V"), (2, .fieldref 10 11), (0, .class_ 12), (0, .nameAndType 13 14), (0, u "java/lang/String"), (0, u "value"), (0, u "[B"), (0, .fieldref 10 16), (0, .nameAndType 17 18), (0, u "coder"), (0, u "B"), (2, u "hash"), (0, u "I"), (2, u "hashIsZero"), (0, u "Z"), (11, .fieldref 10 39), (0, .nameAndType 40 26), (0, u "COMPACT_STRINGS"), (66, .class_ 109), (1, u "java/lang/StringLatin1"), (32, u "()Z"), (220, u "([BI)C"), (27, u "(II)V"), (35, u "(I)C"), (64, .methodref 10 493), (0, .nameAndType 494 142), (0, u "isLatin1"), (0, .methodref 107 496), (0, .nameAndType 497 363), (0, u "charAt"), (3, u "checkIndex"), (73, .class_ 576), (0, u "java/lang/CharSequence"), (22, u "CASE_INSENSITIVE_ORDER"), (0, u "Ljava/util/Comparator;"), (452, .fieldref 1054 1055), (0, .class_ 1056), (0, .nameAndType 1057 1058), (0, u "jdk/internal/util/Preconditions"), (0, u "SIOOBE_FORMATTER"), (0, u "Ljava/util/function/BiFunction;"), (0, .methodref 1054 1060), (0, .nameAndType 501 1061), (0, u "(IILjava/util/function/BiFunction;)I"), (39, u "serialPersistentFields"), (0, u "[Ljava/io/ObjectStreamField;"), (0, .class_ 1104), (0, u "java/lang/String$CaseInsensitiveComparator"), (1, .class_ 1107), (0, u "java/io/Serializable"), (0, .class_ 1109), (0, u "java/lang/Comparable"), (0, .class_ 1111), (0, u "java/lang/constant/Constable"), (0, .class_ 1113), (0, u "java/lang/constant/ConstantDesc"), (2, u "serialVersionUID"), (0, u "J"), (3, u "REPL"), (0, u "C"), (2, u "LATIN1"), (1, u "UTF16")] 323

def k8m0 : Method := { name := "<init>", desc := "()V", sig := { parameters := [], returnType := none }, accessFlags := 1, code := none }
def k8c1 : Code := { maxStack := 2, maxLocals := 2, code := jdk_42_method_56_code, exceptionTable := #[], attributes := #[] }
def k8m1 : Method := { name := "charAt", desc := "(I)C", sig := { parameters := [.int], returnType := some .char }, accessFlags := 1, code := some k8c1 }
def k8c2 : Code := { maxStack := 1, maxLocals := 1, code := jdk_42_method_154_code, exceptionTable := #[], attributes := #[] }
def k8m2 : Method := { name := "isLatin1", desc := "()Z", sig := { parameters := [], returnType := some .boolean }, accessFlags := 0, code := some k8c2 }
def k8c3 : Code := { maxStack := 3, maxLocals := 2, code := jdk_42_method_155_code, exceptionTable := #[], attributes := #[] }
def k8m3 : Method := { name := "checkIndex", desc := "(II)V", sig := { parameters := [.int, .int], returnType := none }, accessFlags := 8, code := some k8c3 }
/-- java/lang/String -/
def k8 : Class := { plain "java/lang/String" (some 0) with
  accessFlags := 49
  interfaces := #[3, 4, 5, 6, 7]
  cf := some (fileOf pool8 10 #[.nestMembers #[1103]] #[{ accessFlags := 1, nameIndex := 5, descriptorIndex := 6, attributes := #[] }, { accessFlags := 1, nameIndex := 497, descriptorIndex := 427, attributes := #[] }, { accessFlags := 0, nameIndex := 494, descriptorIndex := 142, attributes := #[] }, { accessFlags := 8, nameIndex := 501, descriptorIndex := 391, attributes := #[] }] 49 2 #[1106, 1108, 575, 1110, 1112] #[{ accessFlags := 18, nameIndex := 13, descriptorIndex := 14, attributes := #[] }, { accessFlags := 18, nameIndex := 17, descriptorIndex := 18, attributes := #[] }, { accessFlags := 2, nameIndex := 21, descriptorIndex := 22, attributes := #[] }, { accessFlags := 2, nameIndex := 25, descriptorIndex := 26, attributes := #[] }, { accessFlags := 26, nameIndex := 1116, descriptorIndex := 1117, attributes := #[] }, { accessFlags := 24, nameIndex := 40, descriptorIndex := 26, attributes := #[] }, { accessFlags := 26, nameIndex := 1101, descriptorIndex := 1102, attributes := #[] }, { accessFlags := 26, nameIndex := 1121, descriptorIndex := 1122, attributes := #[] }, { accessFlags := 25, nameIndex := 599, descriptorIndex := 600, attributes := #[] }, { accessFlags := 24, nameIndex := 1125, descriptorIndex := 18, attributes := #[] }, { accessFlags := 24, nameIndex := 1127, descriptorIndex := 18, attributes := #[] }])
  fields := #[{ name := "value", type := (.array .byte), accessFlags := 18, slot := 0, constantValue := 0 }, { name := "coder", type := .byte, accessFlags := 18, slot := 1, constantValue := 0 }, { name := "hash", type := .int, accessFlags := 2, slot := 2, constantValue := 0 }, { name := "hashIsZero", type := .boolean, accessFlags := 2, slot := 3, constantValue := 0 }, { name := "serialVersionUID", type := .long, accessFlags := 26, slot := 0, constantValue := 0 }, { name := "COMPACT_STRINGS", type := .boolean, accessFlags := 24, slot := 1, constantValue := 0 }, { name := "serialPersistentFields", type := (.array (.object "java/io/ObjectStreamField")), accessFlags := 26, slot := 2, constantValue := 0 }, { name := "REPL", type := .char, accessFlags := 26, slot := 3, constantValue := 0 }, { name := "CASE_INSENSITIVE_ORDER", type := (.object "java/util/Comparator"), accessFlags := 25, slot := 4, constantValue := 0 }, { name := "LATIN1", type := .byte, accessFlags := 24, slot := 5, constantValue := 0 }, { name := "UTF16", type := .byte, accessFlags := 24, slot := 6, constantValue := 0 }]
  methods := #[k8m0, k8m1, k8m2, k8m3]
  instanceTypes := #[(.array .byte), .byte, .int, .boolean]
  staticTypes := #[.long, .boolean, (.array (.object "java/io/ObjectStreamField")), .char, (.object "java/util/Comparator"), .byte, .byte]
  resolved := Array.replicate 1451 none
  statics := some 0 }

def pool9 : Array CpInfo := pool [(1, .class_ 2), (0, u "java/lang/String"), (1, .class_ 6), (1, u "java/lang/Object"), (0, u "<init>"), (0, u "()V"), (0, .methodref 1 10), (0, .nameAndType 11 12), (0, u "checkIndex"), (0, u "(II)V"), (1, .class_ 16), (1, u "java/lang/StringLatin1"), (36, u "([BI)C"), (67, u "$assertionsDisabled"), (0, u "Z"), (98, .class_ 223), (1, u "java/lang/StringLatin1$LinesSpliterator"), (28, u "charAt"), (137, .class_ 391), (0, u "java/lang/StringLatin1$CharsSpliterator")] 3

def k9m0 : Method := { name := "<init>", desc := "()V", sig := { parameters := [], returnType := none }, accessFlags := 0, code := none }
def k9c1 : Code := { maxStack := 2, maxLocals := 2, code := jdk_43_method_2_code, exceptionTable := #[], attributes := #[] }
def k9m1 : Method := { name := "charAt", desc := "([BI)C", sig := { parameters := [(.array .byte), .int], returnType := some .char }, accessFlags := 9, code := some k9c1 }
/-- java/lang/StringLatin1 -/
def k9 : Class := { plain "java/lang/StringLatin1" (some 0) with
  accessFlags := 48
  interfaces := #[]
  cf := some (fileOf pool9 14 #[.nestMembers #[390, 221]] #[{ accessFlags := 0, nameIndex := 7, descriptorIndex := 8, attributes := #[] }, { accessFlags := 9, nameIndex := 252, descriptorIndex := 53, attributes := #[] }] 48 4 #[] #[{ accessFlags := 4120, nameIndex := 121, descriptorIndex := 122, attributes := #[] }])
  fields := #[{ name := "$assertionsDisabled", type := .boolean, accessFlags := 4120, slot := 0, constantValue := 0 }]
  methods := #[k9m0, k9m1]
  instanceTypes := #[]
  staticTypes := #[.boolean]
  resolved := Array.replicate 395 none
  statics := none }

def pool10 : Array CpInfo := pool [(2, .class_ 4), (1, u "java/lang/Object"), (0, u "<init>"), (0, u "()V"), (17, .class_ 26), (1, u "jdk/internal/util/Preconditions"), (6, u "checkIndex"), (21, .class_ 56), (0, u "jdk/internal/util/Preconditions$4"), (57, .class_ 115), (0, u "jdk/internal/util/Preconditions$1"), (7, u "SIOOBE_FORMATTER"), (0, u "Ljava/util/function/BiFunction;"), (0, .class_ 126), (0, u "jdk/internal/util/Preconditions$2"), (3, u "AIOOBE_FORMATTER"), (0, .class_ 132), (0, u "jdk/internal/util/Preconditions$3"), (3, u "IOOBE_FORMATTER"), (41, u "(IILjava/util/function/BiFunction;)I")] 15

def k10m0 : Method := { name := "<init>", desc := "()V", sig := { parameters := [], returnType := none }, accessFlags := 1, code := none }
def k10c1 : Code := { maxStack := 3, maxLocals := 3, code := jdk_41_method_11_code, exceptionTable := #[], attributes := #[] }
def k10m1 : Method := { name := "checkIndex", desc := "(IILjava/util/function/BiFunction;)I", sig := { parameters := [.int, .int, (.object "java/util/function/BiFunction")], returnType := some .int }, accessFlags := 9, code := some k10c1 }
/-- jdk/internal/util/Preconditions -/
def k10 : Class := { plain "jdk/internal/util/Preconditions" (some 0) with
  accessFlags := 33
  interfaces := #[]
  cf := some (fileOf pool10 24 #[.nestMembers #[55, 131, 125, 114]] #[{ accessFlags := 1, nameIndex := 5, descriptorIndex := 6, attributes := #[] }, { accessFlags := 9, nameIndex := 33, descriptorIndex := 178, attributes := #[] }] 33 2 #[] #[{ accessFlags := 25, nameIndex := 123, descriptorIndex := 124, attributes := #[] }, { accessFlags := 25, nameIndex := 130, descriptorIndex := 124, attributes := #[] }, { accessFlags := 25, nameIndex := 136, descriptorIndex := 124, attributes := #[] }])
  fields := #[{ name := "SIOOBE_FORMATTER", type := (.object "java/util/function/BiFunction"), accessFlags := 25, slot := 0, constantValue := 0 }, { name := "AIOOBE_FORMATTER", type := (.object "java/util/function/BiFunction"), accessFlags := 25, slot := 1, constantValue := 0 }, { name := "IOOBE_FORMATTER", type := (.object "java/util/function/BiFunction"), accessFlags := 25, slot := 2, constantValue := 0 }]
  methods := #[k10m0, k10m1]
  instanceTypes := #[]
  staticTypes := #[(.object "java/util/function/BiFunction"), (.object "java/util/function/BiFunction"), (.object "java/util/function/BiFunction")]
  resolved := Array.replicate 194 none
  statics := some 1 }

def pool11 : Array CpInfo := pool [(9, u "<init>"), (6, .class_ 18), (1, u "java/lang/Object"), (0, u "()V"), (1, .class_ 23), (1, u "jdk/internal/util/ArraysSupport"), (0, u "LOG2_ARRAY_LONG_INDEX_SCALE"), (0, u "I"), (2, u "U"), (0, u "Ljdk/internal/misc/Unsafe;"), (8, u "BIG_ENDIAN"), (0, u "Z"), (8, u "LOG2_BYTE_BIT_SIZE"), (4, u "LOG2_ARRAY_INT_INDEX_SCALE"), (54, u "JLA"), (0, u "Ljdk/internal/access/JavaLangAccess;"), (11, u "LOG2_ARRAY_BOOLEAN_INDEX_SCALE"), (9, u "LOG2_ARRAY_BYTE_INDEX_SCALE"), (5, u "LOG2_ARRAY_CHAR_INDEX_SCALE"), (5, u "LOG2_ARRAY_SHORT_INDEX_SCALE"), (18, u "LOG2_ARRAY_FLOAT_INDEX_SCALE"), (24, u "LOG2_ARRAY_DOUBLE_INDEX_SCALE"), (89, u "T_BOOLEAN"), (2, u "T_CHAR"), (1, u "T_FLOAT"), (1, u "T_DOUBLE"), (1, u "T_BYTE"), (1, u "T_SHORT"), (1, u "T_INT"), (1, u "T_LONG"), (1, u "SOFT_MAX_ARRAY_LENGTH")] 83

def k11m0 : Method := { name := "<init>", desc := "()V", sig := { parameters := [], returnType := none }, accessFlags := 2, code := none }
/-- jdk/internal/util/ArraysSupport -/
def k11 : Class := { plain "jdk/internal/util/ArraysSupport" (some 0) with
  accessFlags := 33
  interfaces := #[]
  cf := some (fileOf pool11 21 #[] #[{ accessFlags := 2, nameIndex := 9, descriptorIndex := 19, attributes := #[] }] 33 16 #[] #[{ accessFlags := 24, nameIndex := 28, descriptorIndex := 29, attributes := #[] }, { accessFlags := 26, nameIndex := 38, descriptorIndex := 39, attributes := #[] }, { accessFlags := 25, nameIndex := 121, descriptorIndex := 25, attributes := #[] }, { accessFlags := 25, nameIndex := 131, descriptorIndex := 25, attributes := #[] }, { accessFlags := 25, nameIndex := 137, descriptorIndex := 25, attributes := #[] }, { accessFlags := 25, nameIndex := 143, descriptorIndex := 25, attributes := #[] }, { accessFlags := 25, nameIndex := 53, descriptorIndex := 25, attributes := #[] }, { accessFlags := 25, nameIndex := 24, descriptorIndex := 25, attributes := #[] }, { accessFlags := 25, nameIndex := 162, descriptorIndex := 25, attributes := #[] }, { accessFlags := 25, nameIndex := 187, descriptorIndex := 25, attributes := #[] }, { accessFlags := 26, nameIndex := 48, descriptorIndex := 25, attributes := #[] }, { accessFlags := 25, nameIndex := 277, descriptorIndex := 25, attributes := #[] }, { accessFlags := 25, nameIndex := 280, descriptorIndex := 25, attributes := #[] }, { accessFlags := 25, nameIndex := 282, descriptorIndex := 25, attributes := #[] }, { accessFlags := 25, nameIndex := 284, descriptorIndex := 25, attributes := #[] }, { accessFlags := 25, nameIndex := 286, descriptorIndex := 25, attributes := #[] }, { accessFlags := 25, nameIndex := 288, descriptorIndex := 25, attributes := #[] }, { accessFlags := 25, nameIndex := 290, descriptorIndex := 25, attributes := #[] }, { accessFlags := 25, nameIndex := 292, descriptorIndex := 25, attributes := #[] }, { accessFlags := 26, nameIndex := 108, descriptorIndex := 109, attributes := #[] }, { accessFlags := 25, nameIndex := 294, descriptorIndex := 25, attributes := #[] }])
  fields := #[{ name := "U", type := (.object "jdk/internal/misc/Unsafe"), accessFlags := 24, slot := 0, constantValue := 0 }, { name := "BIG_ENDIAN", type := .boolean, accessFlags := 26, slot := 1, constantValue := 0 }, { name := "LOG2_ARRAY_BOOLEAN_INDEX_SCALE", type := .int, accessFlags := 25, slot := 2, constantValue := 0 }, { name := "LOG2_ARRAY_BYTE_INDEX_SCALE", type := .int, accessFlags := 25, slot := 3, constantValue := 0 }, { name := "LOG2_ARRAY_CHAR_INDEX_SCALE", type := .int, accessFlags := 25, slot := 4, constantValue := 0 }, { name := "LOG2_ARRAY_SHORT_INDEX_SCALE", type := .int, accessFlags := 25, slot := 5, constantValue := 0 }, { name := "LOG2_ARRAY_INT_INDEX_SCALE", type := .int, accessFlags := 25, slot := 6, constantValue := 0 }, { name := "LOG2_ARRAY_LONG_INDEX_SCALE", type := .int, accessFlags := 25, slot := 7, constantValue := 0 }, { name := "LOG2_ARRAY_FLOAT_INDEX_SCALE", type := .int, accessFlags := 25, slot := 8, constantValue := 0 }, { name := "LOG2_ARRAY_DOUBLE_INDEX_SCALE", type := .int, accessFlags := 25, slot := 9, constantValue := 0 }, { name := "LOG2_BYTE_BIT_SIZE", type := .int, accessFlags := 26, slot := 10, constantValue := 0 }, { name := "T_BOOLEAN", type := .int, accessFlags := 25, slot := 11, constantValue := 0 }, { name := "T_CHAR", type := .int, accessFlags := 25, slot := 12, constantValue := 0 }, { name := "T_FLOAT", type := .int, accessFlags := 25, slot := 13, constantValue := 0 }, { name := "T_DOUBLE", type := .int, accessFlags := 25, slot := 14, constantValue := 0 }, { name := "T_BYTE", type := .int, accessFlags := 25, slot := 15, constantValue := 0 }, { name := "T_SHORT", type := .int, accessFlags := 25, slot := 16, constantValue := 0 }, { name := "T_INT", type := .int, accessFlags := 25, slot := 17, constantValue := 0 }, { name := "T_LONG", type := .int, accessFlags := 25, slot := 18, constantValue := 0 }, { name := "JLA", type := (.object "jdk/internal/access/JavaLangAccess"), accessFlags := 26, slot := 19, constantValue := 0 }, { name := "SOFT_MAX_ARRAY_LENGTH", type := .int, accessFlags := 25, slot := 20, constantValue := 0 }]
  methods := #[k11m0]
  instanceTypes := #[]
  staticTypes := #[(.object "jdk/internal/misc/Unsafe"), .boolean, .int, .int, .int, .int, .int, .int, .int, .int, .int, .int, .int, .int, .int, .int, .int, .int, .int, (.object "jdk/internal/access/JavaLangAccess"), .int]
  resolved := Array.replicate 378 none
  statics := none }

def pool12 : Array CpInfo := pool [(1, u "java/lang/Cloneable"), (0, .class_ 1), (0, u "java/lang/Object"), (0, .class_ 3)] 3

/-- java/lang/Cloneable -/
def k12 : Class := { plain "java/lang/Cloneable" (some 0) with
  accessFlags := 1537
  interfaces := #[]
  cf := some (fileOf pool12 2 #[] #[] 1537 4 #[] #[])
  fields := #[]
  methods := #[]
  instanceTypes := #[]
  staticTypes := #[]
  resolved := Array.replicate 8 none
  statics := none }

/-- the primitive byte -/
def k13 : Class := { plain "byte" none with kind := .primitive 'B', accessFlags := 0x411 }
/-- [B -/
def k14 : Class := { plain "[B" (some 0) with kind := .array 13 .byte, interfaces := #[12, 3], accessFlags := 1041 }

/-- the primitive int -/
def k15 : Class := { plain "int" none with kind := .primitive 'I', accessFlags := 0x411 }
/-- [I -/
def k16 : Class := { plain "[I" (some 0) with kind := .array 15 .int, interfaces := #[12, 3], accessFlags := 1041 }

def heap : Heap := #[{ cls := 8, slots := #[.long 0, .int 1, .null, .int 0, .null, .int 0, .int 0], vm := .statics 8 },
  { cls := 10, slots := #[.null, .null, .null], vm := .statics 10 }]
def classes : Array Class := #[k0, k1, k2, k3, k4, k5, k6, k7, k8, k9, k10, k11, k12, k13, k14, k15, k16]
def interned : List (Array UInt16 × Addr) := []
def slotsUsed : Nat := 10
def theMethod : MethodId := ⟨1, 1⟩
def args0 : Array Value := #[.int 3, .int 5]
def aboutOver (below : List Frame) : State where
  vm := { classes := classes, interned := interned.toArray }
  heap := heap
  slotsUsed := slotsUsed
  threads := #[{ frames := .invoking theMethod args0 :: below }]
def below0 : List Frame := [.native { method := ⟨0, 0⟩, args := #[] }]
def about1 : State := aboutOver below0
def p0 : Program := .bare "" "" ""
def e0 : Env := launch0.env 0 0 0
theorem w_frames : about1.frames = Frame.invoking theMethod args0 :: below0 := rfl
set_option maxRecDepth 65536 in
theorem w_args : argsFit about1.vm theMethod args0 = true := by decide +kernel
set_option maxRecDepth 65536 in
theorem w_heap : heapFits about1 = true := by decide +kernel
set_option maxRecDepth 65536 in
theorem w_runnable : about1.curStatus? = some .runnable := by decide +kernel
set_option maxRecDepth 65536 in
theorem w_alone : about1.alone = true := by decide +kernel
set_option maxRecDepth 65536 in
theorem w_named : about1.methodNamed? x = some theMethod := by decide +kernel
set_option maxRecDepth 65536 in
theorem w_hears : about1.hears theMethod below0 = true := by decide +kernel
set_option maxRecDepth 65536 in
theorem w_ripe : about1.ripe theMethod args0 below0 = true := by decide +kernel
theorem w_running : about1.status = .running := rfl
set_option maxRecDepth 65536 in
theorem w_room : about1.hasRoom e0.platform room_1 = true :=
  launch0.hasRoom_least _ room_1 (by decide +kernel) (by decide +kernel) (by decide +kernel) (by decide +kernel) (by decide +kernel) (by decide +kernel)
theorem allAtoms_all (ts : List Jvm.Cond) (a : Array Jvm.Value) (st : Jvm.State) : (allAtoms ts).before a st = ts.all (fun c => c.before a st) := by
  induction ts with
  | nil => rfl
  | cons c t ih =>
    show (Jvm.Cond.and c (allAtoms t)).before a st = _
    rw [Jvm.Cond.before_and, ih, List.all_cons]
def words1 : List Jvm.Cond := Jvm.Cond.code x code maxLocals ret :: tables_1
/-- a 'code' word, met by the world's own term for the bytes: nothing is compared byte by byte -/
theorem code_word {y : MethodName} {bytes : ByteArray} {mx : Nat} {rt : Option FieldType} {a : Array Value} {s : State} {m : MethodId} {meth : Method} {c : Code} (h1 : s.methodNamed? y = some m) (h2 : s.vm.method? m = some meth) (h3 : meth.code = some c) (h4 : c.code = bytes)
    (h5 : (c.maxLocals == mx && c.exceptionTable.isEmpty && decide (c.maxStack ≤ mostOperands) && decide (meth.sig.returnType = rt) && !meth.locks && decide (parseMethodDescriptor y.desc = some meth.sig)) = true) : (Jvm.Cond.code y bytes mx rt).before a s = true := by
  simp only [Bool.and_eq_true, beq_iff_eq, Bool.not_eq_true', decide_eq_true_eq] at h5
  obtain ⟨⟨⟨⟨⟨g1, g2⟩, g3⟩, g4⟩, g5⟩, g6⟩ := h5
  simp [Cond.before, Cond.holds, Cond.value, h1, h2, h3, h4, g1, g2, g3, g4, g5, g6]
def isCode : Jvm.Cond → Bool
  | .code _ _ _ _ => true
  | _ => false
theorem all_split {L : List Jvm.Cond} {P : Jvm.Cond → Bool} (h1 : L.all (fun c => isCode c || P c) = true) (h2 : ∀ c ∈ L.filter isCode, P c = true) : L.all P = true := by
  refine List.all_eq_true.mpr fun c hc => ?_
  have h := List.all_eq_true.mp h1 c hc
  rcases Bool.eq_false_or_eq_true (isCode c) with hi | hi
  · exact h2 c (List.mem_filter.mpr ⟨hc, hi⟩)
  · simpa [hi] using h
set_option maxRecDepth 65536 in
theorem w_c0 : (Jvm.Cond.code x code maxLocals ret).before args0 about1 = true := code_word (m := ⟨1, 1⟩) (meth := k1m1) (c := k1c1) (by decide +kernel) rfl rfl rfl (by decide +kernel)
set_option maxRecDepth 65536 in
theorem w_c1 : (Jvm.Cond.code ({ cls := "com/example/baton/baton/SpanContext", name := "isLowerHexDigit", desc := "(C)Z" } : Jvm.MethodName) prog_23_method_13_code (1 : Nat) (Option.some Jvm.ClassFile.FieldType.boolean)).before args0 about1 = true := code_word (m := ⟨2, 0⟩) (meth := k2m0) (c := k2c0) (by decide +kernel) rfl rfl rfl (by decide +kernel)
set_option maxRecDepth 65536 in
theorem w_c2 : (Jvm.Cond.code ({ cls := "java/lang/String", name := "charAt", desc := "(I)C" } : Jvm.MethodName) jdk_42_method_56_code (2 : Nat) (Option.some Jvm.ClassFile.FieldType.char)).before args0 about1 = true := code_word (m := ⟨8, 1⟩) (meth := k8m1) (c := k8c1) (by decide +kernel) rfl rfl rfl (by decide +kernel)
set_option maxRecDepth 65536 in
theorem w_c3 : (Jvm.Cond.code ({ cls := "java/lang/String", name := "isLatin1", desc := "()Z" } : Jvm.MethodName) jdk_42_method_154_code (1 : Nat) (Option.some Jvm.ClassFile.FieldType.boolean)).before args0 about1 = true := code_word (m := ⟨8, 2⟩) (meth := k8m2) (c := k8c2) (by decide +kernel) rfl rfl rfl (by decide +kernel)
set_option maxRecDepth 65536 in
theorem w_c4 : (Jvm.Cond.code ({ cls := "java/lang/StringLatin1", name := "charAt", desc := "([BI)C" } : Jvm.MethodName) jdk_43_method_2_code (2 : Nat) (Option.some Jvm.ClassFile.FieldType.char)).before args0 about1 = true := code_word (m := ⟨9, 1⟩) (meth := k9m1) (c := k9c1) (by decide +kernel) rfl rfl rfl (by decide +kernel)
set_option maxRecDepth 65536 in
theorem w_c5 : (Jvm.Cond.code ({ cls := "java/lang/String", name := "checkIndex", desc := "(II)V" } : Jvm.MethodName) jdk_42_method_155_code (2 : Nat) (Option.none : Option Jvm.ClassFile.FieldType)).before args0 about1 = true := code_word (m := ⟨8, 3⟩) (meth := k8m3) (c := k8c3) (by decide +kernel) rfl rfl rfl (by decide +kernel)
set_option maxRecDepth 65536 in
theorem w_c6 : (Jvm.Cond.code ({ cls := "jdk/internal/util/Preconditions", name := "checkIndex", desc := "(IILjava/util/function/BiFunction;)I" } : Jvm.MethodName) jdk_41_method_11_code (3 : Nat) (Option.some Jvm.ClassFile.FieldType.int)).before args0 about1 = true := code_word (m := ⟨10, 1⟩) (meth := k10m1) (c := k10c1) (by decide +kernel) rfl rfl rfl (by decide +kernel)
def codes1 : List Jvm.Cond := [Jvm.Cond.code x code maxLocals ret, Jvm.Cond.code ({ cls := "com/example/baton/baton/SpanContext", name := "isLowerHexDigit", desc := "(C)Z" } : Jvm.MethodName) prog_23_method_13_code (1 : Nat) (Option.some Jvm.ClassFile.FieldType.boolean), Jvm.Cond.code ({ cls := "java/lang/String", name := "charAt", desc := "(I)C" } : Jvm.MethodName) jdk_42_method_56_code (2 : Nat) (Option.some Jvm.ClassFile.FieldType.char), Jvm.Cond.code ({ cls := "java/lang/String", name := "isLatin1", desc := "()Z" } : Jvm.MethodName) jdk_42_method_154_code (1 : Nat) (Option.some Jvm.ClassFile.FieldType.boolean), Jvm.Cond.code ({ cls := "java/lang/StringLatin1", name := "charAt", desc := "([BI)C" } : Jvm.MethodName) jdk_43_method_2_code (2 : Nat) (Option.some Jvm.ClassFile.FieldType.char), Jvm.Cond.code ({ cls := "java/lang/String", name := "checkIndex", desc := "(II)V" } : Jvm.MethodName) jdk_42_method_155_code (2 : Nat) (Option.none : Option Jvm.ClassFile.FieldType), Jvm.Cond.code ({ cls := "jdk/internal/util/Preconditions", name := "checkIndex", desc := "(IILjava/util/function/BiFunction;)I" } : Jvm.MethodName) jdk_41_method_11_code (3 : Nat) (Option.some Jvm.ClassFile.FieldType.int)]
set_option maxRecDepth 65536 in
theorem codes_eq : words1.filter isCode = codes1 := rfl
theorem w_codes : ∀ c ∈ words1.filter isCode, c.before args0 about1 = true := by
  rw [codes_eq]
  intro c hc
  simp only [codes1, List.mem_cons, List.not_mem_nil, or_false] at hc
  rcases hc with rfl | rfl | rfl | rfl | rfl | rfl | rfl
  · exact w_c0
  · exact w_c1
  · exact w_c2
  · exact w_c3
  · exact w_c4
  · exact w_c5
  · exact w_c6
set_option maxRecDepth 65536 in
theorem w_t1 : (words1.take 24).all (fun c => isCode c || c.before args0 about1) = true := by decide +kernel
set_option maxRecDepth 65536 in
theorem w_t2 : (words1.drop 24).all (fun c => isCode c || c.before args0 about1) = true := by decide +kernel
theorem w_tables : (allAtoms (Jvm.Cond.code x code maxLocals ret :: tables_1)).before args0 about1 = true := by
  rw [allAtoms_all]
  show words1.all (fun c => c.before args0 about1) = true
  refine all_split ?_ w_codes
  rw [← List.take_append_drop 24 words1, List.all_append, w_t1, w_t2]
  rfl
set_option maxRecDepth 65536 in
theorem w_rest : rest_1_c.before args0 about1 = true := by decide +kernel
set_option maxRecDepth 65536 in
theorem w_case : (Jvm.Cond.and given_1 narrow_1).before args0 about1 = true := by decide +kernel
set_option maxRecDepth 65536 in
theorem w_consts : constsHeld consts_1 about1 := Jvm.Lit.constsHeldB_iff.mp (by decide +kernel)
theorem w_applies : (headSpec (Jvm.Cond.code x code maxLocals ret :: tables_1) room_1).applies x e0.platform about1 = true :=
  (Spec.applies_iff w_frames).mpr ⟨w_running, w_runnable, w_alone, w_named, w_hears, w_ripe, w_room, w_tables⟩
theorem atStart : AtStart classFile x code maxLocals ret World_1 tables_1 room_1 Calls_1 rest_1 Pre_1 launch0 p0 e0 about1 theMethod args0 below0 :=
  ⟨lists_1, trivial, launch0.admits_env _ _ _, launch0.least_env, fairChoices_fair.cas, fairChoices_fair.clock, w_frames, w_args, w_heap, w_applies, ⟨w_consts, trivial⟩, w_rest, w_case⟩
end start1
theorem witness_1 : WitnessClaimed_1 := ⟨start1.p0, start1.e0, start1.about1, start1.theMethod, start1.args0, start1.below0, start1.atStart⟩
end Jvm.Pilot.@@N@@
