import JvmDerived
import JvmDerived.Pilot.@@N@@Statement
import JvmDerived.Pilot.@@N@@Code
set_option linter.unusedVariables false
set_option linter.unusedSimpArgs false
namespace Jvm.RoadKit
open Sem ClassFile Op Lib Jvm.Stand Jvm.Free Jvm.LawKit
section New
variable {p : Program} {l : Launch} {e : Env} {R : Room} {s : State} {m : MethodId} {args : Array Value} {below : List Frame} {meth : Method} {c : Code} {T : State} {locs : List Loc} {cells slots : Nat}
theorem retI (X : Stand p l e R s m args below meth c T locs cells slots) (hx : p.tables.exec = Jvm.exec) {pc : Nat} {Ls : Array Slot} {z : Int32} {rest : List Value} (hret : meth.sig.returnType = some .int) (hd : decode c.code pc = .ok (.ireturn, 1)) {fs : List Frame}
    (hl : ∀ (f : JFrame) (acts : List Action), f.method = m → f.locked = none → f.entered = [] → (doReturn e (T.setTop f) acts (some (.int z))).1 = T.setFrames fs) : Steps p.tables e below (T.setTop (mkF m pc Ls (.int z :: rest))) (T.setFrames fs) := by
  have hm' : T.vm.method? m = some meth := X.method'
  have hn : narrow .int (.int z) = .int z := rfl
  show Steps p.tables e below (T.setTop { method := m, pc := pc, locals := Ls, stack := _ :: rest, locked := none }) _
  jvm_step X.here [X.here.top, hx, hd, hm', hret, hn]
  first | (intro acts; rw [hl _ acts rfl rfl rfl]) | rw [hl _ _ rfl rfl rfl]
  exact Steps.refl _
theorem own_nb {t : FieldType} {c : Prop} [Decidable c] {a b : Int32} (ha : nar t a = a) (hb : nar t b = b) : nar t (if c then a else b) = (if c then a else b) := by
  by_cases h : c
  · rw [if_pos h]; exact ha
  · rw [if_neg h]; exact hb
theorem own_retN (X : Stand p l e R s m args below meth c T locs cells slots) (hx : p.tables.exec = Jvm.exec) {pc : Nat} {Ls : Array Slot} {z : Int32} {t : FieldType} {rest : List Value} (hret : meth.sig.returnType = some t) (ht : t = .boolean ∨ t = .byte ∨ t = .char ∨ t = .short) (hz : nar t z = z)
    (hd : decode c.code pc = .ok (.ireturn, 1)) {fs : List Frame} (hl : ∀ (f : JFrame) (acts : List Action), f.method = m → f.locked = none → f.entered = [] → (doReturn e (T.setTop f) acts (some (.int z))).1 = T.setFrames fs) :
    Steps p.tables e below (T.setTop (mkF m pc Ls (.int z :: rest))) (T.setFrames fs) := retN X hx hret ht hd (by rw [hz]; exact hl)
end New
end Jvm.RoadKit
namespace Jvm.Pilot.@@N@@
open Jvm Jvm.ClassFile Sem Op Lib Jvm.Free Jvm.Stand Jvm.LawKit Jvm.RoadKit Bundle Jvm.Pilot.@@N@@.Jvm.D
/-- from the state A the run comes to some end that P takes -/
def Go (tb : Tables) (e : Env) (below : List Frame) (A : State) (P : State → Outcome → Prop) : Prop := ∃ t o, Steps tb e below A t ∧ P t o
theorem Go.st {tb : Tables} {e : Env} {below : List Frame} {A B : State} {P : State → Outcome → Prop} (h : ∀ t, Steps tb e below A t → Steps tb e below B t) (k : Go tb e below A P) : Go tb e below B P := by
  obtain ⟨t, o, h1, h2⟩ := k; exact ⟨t, o, h t h1, h2⟩
theorem Go.tr {tb : Tables} {e : Env} {below : List Frame} {A B : State} {P : State → Outcome → Prop} (h : Steps tb e below B A) (k : Go tb e below A P) : Go tb e below B P := by
  obtain ⟨t, o, h1, h2⟩ := k; exact ⟨t, o, h.trans h1, h2⟩
theorem Go.start {tb : Tables} {e : Env} {below : List Frame} {A : State} {P0 : State → Outcome → Prop} (h : ∀ P : State → Outcome → Prop, (∀ t o, P0 t o → P t o) → Go tb e below A P) : ∃ t o, Steps tb e below A t ∧ P0 t o := h P0 (fun _ _ q => q)
theorem own_cat {v : Value} (h : v.isRef = true) : v.category = 1 := by rcases ref_cases h with rfl | ⟨_, rfl⟩ <;> rfl
theorem own_cst {tb : Tables} {e : Env} {below : List Frame} {T : State} {m : MethodId} {J : Nat} {Ls : Array Slot} {a b : Int32} {rest : List Value} {t : State} (h : a = b) (k : Steps tb e below (T.setTop (mkF m J Ls (.int a :: rest))) t) : Steps tb e below (T.setTop (mkF m J Ls (.int b :: rest))) t := h ▸ k
theorem own_lt {x y : Int64} (h : x < y) : lcmpW x y < 0 := (lw_lt x y).mpr h
theorem own_nlt {x y : Int64} (h : ¬ x < y) : ¬ lcmpW x y < 0 := fun q => h ((lw_lt x y).mp q)
theorem own_gt {x y : Int64} (h : y < x) : 0 < lcmpW x y := (lw_gt x y).mpr h
theorem own_ngt {x y : Int64} (h : ¬ y < x) : ¬ 0 < lcmpW x y := fun q => h ((lw_gt x y).mp q)
theorem own_eq {x y : Int64} (h : x = y) : lcmpW x y = 0 := (lw_eq x y).mpr h
theorem own_neq {x y : Int64} (h : ¬ x = y) : ¬ lcmpW x y = 0 := fun q => h ((lw_eq x y).mp q)
theorem d_prog_156_method_2_0 : decode prog_156_method_2_code 0 = .ok (.iload_n 0, 1) := by decide +kernel
theorem d_prog_156_method_2_1 : decode prog_156_method_2_code 1 = .ok (.bipush 9, 2) := by decide +kernel
theorem d_prog_156_method_2_3 : decode prog_156_method_2_code 3 = .ok (.if_icmp .eq 51, 3) := by decide +kernel
theorem d_prog_156_method_2_54 : decode prog_156_method_2_code 54 = .ok (.iconst 1, 1) := by decide +kernel
theorem d_prog_156_method_2_55 : decode prog_156_method_2_code 55 = .ok (.goto 4, 3) := by decide +kernel
theorem d_prog_156_method_2_59 : decode prog_156_method_2_code 59 = .ok (.ireturn, 1) := by decide +kernel
theorem d_prog_156_method_2_6 : decode prog_156_method_2_code 6 = .ok (.iload_n 0, 1) := by decide +kernel
theorem d_prog_156_method_2_7 : decode prog_156_method_2_code 7 = .ok (.bipush 10, 2) := by decide +kernel
theorem d_prog_156_method_2_9 : decode prog_156_method_2_code 9 = .ok (.if_icmp .eq 45, 3) := by decide +kernel
theorem d_prog_156_method_2_12 : decode prog_156_method_2_code 12 = .ok (.iload_n 0, 1) := by decide +kernel
theorem d_prog_156_method_2_13 : decode prog_156_method_2_code 13 = .ok (.bipush 13, 2) := by decide +kernel
theorem d_prog_156_method_2_15 : decode prog_156_method_2_code 15 = .ok (.if_icmp .eq 39, 3) := by decide +kernel
theorem d_prog_156_method_2_18 : decode prog_156_method_2_code 18 = .ok (.iload_n 0, 1) := by decide +kernel
theorem d_prog_156_method_2_19 : decode prog_156_method_2_code 19 = .ok (.bipush 32, 2) := by decide +kernel
theorem d_prog_156_method_2_21 : decode prog_156_method_2_code 21 = .ok (.if_icmp .lt 9, 3) := by decide +kernel
theorem d_prog_156_method_2_30 : decode prog_156_method_2_code 30 = .ok (.iload_n 0, 1) := by decide +kernel
theorem d_prog_156_method_2_31 : decode prog_156_method_2_code 31 = .ok (.ldc 8, 2) := by decide +kernel
theorem d_prog_156_method_2_33 : decode prog_156_method_2_code 33 = .ok (.if_icmp .lt 9, 3) := by decide +kernel
theorem d_prog_156_method_2_42 : decode prog_156_method_2_code 42 = .ok (.iload_n 0, 1) := by decide +kernel
theorem d_prog_156_method_2_43 : decode prog_156_method_2_code 43 = .ok (.ldc 10, 2) := by decide +kernel
theorem d_prog_156_method_2_45 : decode prog_156_method_2_code 45 = .ok (.if_icmp .lt 13, 3) := by decide +kernel
theorem d_prog_156_method_2_58 : decode prog_156_method_2_code 58 = .ok (.iconst 0, 1) := by decide +kernel
theorem d_prog_156_method_2_48 : decode prog_156_method_2_code 48 = .ok (.iload_n 0, 1) := by decide +kernel
theorem d_prog_156_method_2_49 : decode prog_156_method_2_code 49 = .ok (.ldc 11, 2) := by decide +kernel
theorem d_prog_156_method_2_51 : decode prog_156_method_2_code 51 = .ok (.if_icmp .gt 7, 3) := by decide +kernel
theorem d_prog_156_method_2_36 : decode prog_156_method_2_code 36 = .ok (.iload_n 0, 1) := by decide +kernel
theorem d_prog_156_method_2_37 : decode prog_156_method_2_code 37 = .ok (.ldc 9, 2) := by decide +kernel
theorem d_prog_156_method_2_39 : decode prog_156_method_2_code 39 = .ok (.if_icmp .le 15, 3) := by decide +kernel
theorem d_prog_156_method_2_24 : decode prog_156_method_2_code 24 = .ok (.iload_n 0, 1) := by decide +kernel
theorem d_prog_156_method_2_25 : decode prog_156_method_2_code 25 = .ok (.ldc 7, 2) := by decide +kernel
theorem d_prog_156_method_2_27 : decode prog_156_method_2_code 27 = .ok (.if_icmp .le 27, 3) := by decide +kernel
theorem pn_0 : plainName "com/example/hedge/hedge/xml/XmlNames" = true := by first | (simp [plainName, overriddenIn]; done) | decide +kernel
theorem ef_rmC (mi : MethodId) (c : Int32) : entryFrame mi #[(.int c)] 1 = mkF mi 0 #[.val (.int c)] [] := by first | (simp [entryFrame, mkF, argsToLocals, Value.category]; done) | rfl
def fC (c : Int32) : Int32 := (if c = (9 : Int32) then (1 : Int32) else (if c = (10 : Int32) then (1 : Int32) else (if c = (13 : Int32) then (1 : Int32) else (if c < (32 : Int32) then (if c < (57344 : Int32) then (if c < (65536 : Int32) then (0 : Int32) else (if (1114111 : Int32) < c then (0 : Int32) else (1 : Int32))) else (if (65533 : Int32) < c then (if c < (65536 : Int32) then (0 : Int32) else (if (1114111 : Int32) < c then (0 : Int32) else (1 : Int32))) else (1 : Int32))) else (if (55295 : Int32) < c then (if c < (57344 : Int32) then (if c < (65536 : Int32) then (0 : Int32) else (if (1114111 : Int32) < c then (0 : Int32) else (1 : Int32))) else (if (65533 : Int32) < c then (if c < (65536 : Int32) then (0 : Int32) else (if (1114111 : Int32) < c then (0 : Int32) else (1 : Int32))) else (1 : Int32))) else (1 : Int32))))))
def Q_rmC (Z : State) (c : Int32) (h0 : Heap) (n0 : Nat) (vv_ : Option Value) (hh_ : Heap) (LL_ : List Loc) : Prop := vv_ = some (.int (fC c)) ∧ Fr n0 LL_ ∧ hh_ = h0
set_option maxRecDepth 65536 in
set_option maxHeartbeats 40000000 in
theorem rmC (l : Launch) (Z : State) (a0 : Array Value) (hw : ∀ d ∈ tables_1, d.before a0 Z = true) (ws : List Jvm.Cond) (c : Int32) (h0 : Heap) (n0 : Nat) (Z0 : n0 ≤ h0.size) :
    MetFree l (⟨"com/example/hedge/hedge/xml/XmlNames", "isChar", "(I)Z"⟩ : MethodName) (head1 (Jvm.Cond.code (⟨"com/example/hedge/hedge/xml/XmlNames", "isChar", "(I)Z"⟩ : MethodName) prog_156_method_2_code 1 (some .boolean) :: ws) ({ frames := 0, cells := 0, slots := 0, locals := 0 } : Room)) (fun aa_ U => aa_ = #[(.int c)] ∧ Z.Warmed39 U.vm ∧ U.heap = h0) (fun _ _ _ _ _ => True) (fun _ U oo_ UV_ => ∃ vv_ LL_, oo_ = .returned vv_ ∧ Q_rmC Z c h0 n0 vv_ UV_.heap LL_ ∧ FrameEnd U oo_ UV_ LL_ ({ frames := 0, cells := 0, slots := 0, locals := 0 } : Room).cells ({ frames := 0, cells := 0, slots := 0, locals := 0 } : Room).slots) := by
  refine MetFree.of_bodySF (plainFor_of_name pn_0) hisR ?_
  intro pg ev si mi args below meth ci s₁ Bd hml0 hP0 hK
  obtain ⟨rfl, hZ, hh⟩ := hP0
  have hx := Bd.exec
  have hby := Bd.bytes
  have hml : ci.maxLocals = 1 := hml0
  have hown : si.vm.findClass "com/example/hedge/hedge/xml/XmlNames" = some mi.cls := findClass_of_methodNamed Bd.named
  have hnm := (name_of_methodNamed Bd.named Bd.method).1
  have X0 : Stand pg l ev ({ frames := 0, cells := 0, slots := 0, locals := 0 } : Room) si mi #[(.int c)] below meth ci s₁ [] 0 0 := Stand.of_body Bd
  have e0 : s₁.heap = h0 := by rw [← hh, Bd.state]; rfl
  have N0 := Fr.nil n0
  refine Go.start (fun P hP => ?_)
  refine Go.st (fun t_ k_ => castTop (ef_rmC mi c) k_) (A := s₁.setTop (mkF mi 0 #[.val (.int c)] [])) ?_
  show Go pg.tables ev below (s₁.setTop (mkF mi 0 #[.val (.int c)] [])) P
  refine Go.st (fun t_ k_ => XS.iloadN X0.here hx rfl (hb hby d_prog_156_method_2_0) rfl k_) ?_
  show Go pg.tables ev below (s₁.setTop (mkF mi 1 #[.val (.int c)] [(.int c)])) P
  refine Go.st (fun t_ k_ => XS.bipush X0.here hx rfl (hb hby d_prog_156_method_2_1) k_) ?_
  show Go pg.tables ev below (s₁.setTop (mkF mi 3 #[.val (.int c)] [(.int (9 : Int32)), (.int c)])) P
  by_cases hc3_1 : c = (9 : Int32)
  · refine Go.st (fun t_ k_ => XS.icmpYes X0.here hx rfl (pc0 := 3) (pc' := 54) rfl (hb hby d_prog_156_method_2_3) rfl (teq hc3_1).1 (by decide) (by decide) k_) ?_
    show Go pg.tables ev below (s₁.setTop (mkF mi 54 #[.val (.int c)] [])) P
    refine Go.st (fun t_ k_ => XS.iconst X0.here hx rfl (hb hby d_prog_156_method_2_54) k_) ?_
    show Go pg.tables ev below (s₁.setTop (mkF mi 55 #[.val (.int c)] [(.int (1 : Int32))])) P
    refine Go.st (fun t_ k_ => XS.goto X0.here hx rfl (pc0 := 55) (pc' := 59) rfl (hb hby d_prog_156_method_2_55) (by decide) (by decide) k_) ?_
    show Go pg.tables ev below (s₁.setTop (mkF mi 59 #[.val (.int c)] [(.int (1 : Int32))])) P
    obtain ⟨fs, hr, hrun, hended, hW, hsame⟩ := X0.leave (v := some (.int (1 : Int32))) (fun h => by rw [Bd.returns] at h; cases h) (BodyLoose.notSynchronized Bd)
    refine ⟨_, _, ?_, hP _ _ ⟨hrun, hended, _, _, rfl, ?_, ⟨_, rfl⟩, hW, hsame.mono (by decide) (by decide)⟩⟩
    · exact retN X0 hx (t := .boolean) Bd.returns (by simp) (hb hby d_prog_156_method_2_59) hr
    · show (some (.int (1 : Int32)) : Option Value) = some (.int (fC c)) ∧ Fr n0 _ ∧ s₁.heap = h0
      rw [e0]
      exact ⟨by rw [show fC c = (1 : Int32) from ((if_pos hc3_1).trans rfl)], N0, rfl⟩
  · refine Go.st (fun t_ k_ => XS.icmpNo X0.here hx rfl (hb hby d_prog_156_method_2_3) rfl (feq hc3_1).1 k_) ?_
    show Go pg.tables ev below (s₁.setTop (mkF mi 6 #[.val (.int c)] [])) P
    refine Go.st (fun t_ k_ => XS.iloadN X0.here hx rfl (hb hby d_prog_156_method_2_6) rfl k_) ?_
    show Go pg.tables ev below (s₁.setTop (mkF mi 7 #[.val (.int c)] [(.int c)])) P
    refine Go.st (fun t_ k_ => XS.bipush X0.here hx rfl (hb hby d_prog_156_method_2_7) k_) ?_
    show Go pg.tables ev below (s₁.setTop (mkF mi 9 #[.val (.int c)] [(.int (10 : Int32)), (.int c)])) P
    by_cases hc9_2 : c = (10 : Int32)
    · refine Go.st (fun t_ k_ => XS.icmpYes X0.here hx rfl (pc0 := 9) (pc' := 54) rfl (hb hby d_prog_156_method_2_9) rfl (teq hc9_2).1 (by decide) (by decide) k_) ?_
      show Go pg.tables ev below (s₁.setTop (mkF mi 54 #[.val (.int c)] [])) P
      refine Go.st (fun t_ k_ => XS.iconst X0.here hx rfl (hb hby d_prog_156_method_2_54) k_) ?_
      show Go pg.tables ev below (s₁.setTop (mkF mi 55 #[.val (.int c)] [(.int (1 : Int32))])) P
      refine Go.st (fun t_ k_ => XS.goto X0.here hx rfl (pc0 := 55) (pc' := 59) rfl (hb hby d_prog_156_method_2_55) (by decide) (by decide) k_) ?_
      show Go pg.tables ev below (s₁.setTop (mkF mi 59 #[.val (.int c)] [(.int (1 : Int32))])) P
      obtain ⟨fs, hr, hrun, hended, hW, hsame⟩ := X0.leave (v := some (.int (1 : Int32))) (fun h => by rw [Bd.returns] at h; cases h) (BodyLoose.notSynchronized Bd)
      refine ⟨_, _, ?_, hP _ _ ⟨hrun, hended, _, _, rfl, ?_, ⟨_, rfl⟩, hW, hsame.mono (by decide) (by decide)⟩⟩
      · exact retN X0 hx (t := .boolean) Bd.returns (by simp) (hb hby d_prog_156_method_2_59) hr
      · show (some (.int (1 : Int32)) : Option Value) = some (.int (fC c)) ∧ Fr n0 _ ∧ s₁.heap = h0
        rw [e0]
        exact ⟨by rw [show fC c = (1 : Int32) from ((if_neg hc3_1).trans ((if_pos hc9_2).trans rfl))], N0, rfl⟩
    · refine Go.st (fun t_ k_ => XS.icmpNo X0.here hx rfl (hb hby d_prog_156_method_2_9) rfl (feq hc9_2).1 k_) ?_
      show Go pg.tables ev below (s₁.setTop (mkF mi 12 #[.val (.int c)] [])) P
      refine Go.st (fun t_ k_ => XS.iloadN X0.here hx rfl (hb hby d_prog_156_method_2_12) rfl k_) ?_
      show Go pg.tables ev below (s₁.setTop (mkF mi 13 #[.val (.int c)] [(.int c)])) P
      refine Go.st (fun t_ k_ => XS.bipush X0.here hx rfl (hb hby d_prog_156_method_2_13) k_) ?_
      show Go pg.tables ev below (s₁.setTop (mkF mi 15 #[.val (.int c)] [(.int (13 : Int32)), (.int c)])) P
      by_cases hc15_3 : c = (13 : Int32)
      · refine Go.st (fun t_ k_ => XS.icmpYes X0.here hx rfl (pc0 := 15) (pc' := 54) rfl (hb hby d_prog_156_method_2_15) rfl (teq hc15_3).1 (by decide) (by decide) k_) ?_
        show Go pg.tables ev below (s₁.setTop (mkF mi 54 #[.val (.int c)] [])) P
        refine Go.st (fun t_ k_ => XS.iconst X0.here hx rfl (hb hby d_prog_156_method_2_54) k_) ?_
        show Go pg.tables ev below (s₁.setTop (mkF mi 55 #[.val (.int c)] [(.int (1 : Int32))])) P
        refine Go.st (fun t_ k_ => XS.goto X0.here hx rfl (pc0 := 55) (pc' := 59) rfl (hb hby d_prog_156_method_2_55) (by decide) (by decide) k_) ?_
        show Go pg.tables ev below (s₁.setTop (mkF mi 59 #[.val (.int c)] [(.int (1 : Int32))])) P
        obtain ⟨fs, hr, hrun, hended, hW, hsame⟩ := X0.leave (v := some (.int (1 : Int32))) (fun h => by rw [Bd.returns] at h; cases h) (BodyLoose.notSynchronized Bd)
        refine ⟨_, _, ?_, hP _ _ ⟨hrun, hended, _, _, rfl, ?_, ⟨_, rfl⟩, hW, hsame.mono (by decide) (by decide)⟩⟩
        · exact retN X0 hx (t := .boolean) Bd.returns (by simp) (hb hby d_prog_156_method_2_59) hr
        · show (some (.int (1 : Int32)) : Option Value) = some (.int (fC c)) ∧ Fr n0 _ ∧ s₁.heap = h0
          rw [e0]
          exact ⟨by rw [show fC c = (1 : Int32) from ((if_neg hc3_1).trans ((if_neg hc9_2).trans ((if_pos hc15_3).trans rfl)))], N0, rfl⟩
      · refine Go.st (fun t_ k_ => XS.icmpNo X0.here hx rfl (hb hby d_prog_156_method_2_15) rfl (feq hc15_3).1 k_) ?_
        show Go pg.tables ev below (s₁.setTop (mkF mi 18 #[.val (.int c)] [])) P
        refine Go.st (fun t_ k_ => XS.iloadN X0.here hx rfl (hb hby d_prog_156_method_2_18) rfl k_) ?_
        show Go pg.tables ev below (s₁.setTop (mkF mi 19 #[.val (.int c)] [(.int c)])) P
        refine Go.st (fun t_ k_ => XS.bipush X0.here hx rfl (hb hby d_prog_156_method_2_19) k_) ?_
        show Go pg.tables ev below (s₁.setTop (mkF mi 21 #[.val (.int c)] [(.int (32 : Int32)), (.int c)])) P
        by_cases hc21_4 : c < (32 : Int32)
        · refine Go.st (fun t_ k_ => XS.icmpYes X0.here hx rfl (pc0 := 21) (pc' := 30) rfl (hb hby d_prog_156_method_2_21) rfl (tlt hc21_4).1 (by decide) (by decide) k_) ?_
          show Go pg.tables ev below (s₁.setTop (mkF mi 30 #[.val (.int c)] [])) P
          refine Go.st (fun t_ k_ => XS.iloadN X0.here hx rfl (hb hby d_prog_156_method_2_30) rfl k_) ?_
          show Go pg.tables ev below (s₁.setTop (mkF mi 31 #[.val (.int c)] [(.int c)])) P
          refine Go.st (X0.ldcInt hx hown (mvT hZ (hw _ (List.mem_of_getElem? (i := 14) rfl))) (g := (mkF mi 31 #[.val (.int c)] [(.int c)])) rfl (hb hby d_prog_156_method_2_31)) ?_
          show Go pg.tables ev below (s₁.setTop (mkF mi 33 #[.val (.int c)] [(.int (57344 : Int32)), (.int c)])) P
          by_cases hc33_5 : c < (57344 : Int32)
          · refine Go.st (fun t_ k_ => XS.icmpYes X0.here hx rfl (pc0 := 33) (pc' := 42) rfl (hb hby d_prog_156_method_2_33) rfl (tlt hc33_5).1 (by decide) (by decide) k_) ?_
            show Go pg.tables ev below (s₁.setTop (mkF mi 42 #[.val (.int c)] [])) P
            refine Go.st (fun t_ k_ => XS.iloadN X0.here hx rfl (hb hby d_prog_156_method_2_42) rfl k_) ?_
            show Go pg.tables ev below (s₁.setTop (mkF mi 43 #[.val (.int c)] [(.int c)])) P
            refine Go.st (X0.ldcInt hx hown (mvT hZ (hw _ (List.mem_of_getElem? (i := 15) rfl))) (g := (mkF mi 43 #[.val (.int c)] [(.int c)])) rfl (hb hby d_prog_156_method_2_43)) ?_
            show Go pg.tables ev below (s₁.setTop (mkF mi 45 #[.val (.int c)] [(.int (65536 : Int32)), (.int c)])) P
            by_cases hc45_6 : c < (65536 : Int32)
            · refine Go.st (fun t_ k_ => XS.icmpYes X0.here hx rfl (pc0 := 45) (pc' := 58) rfl (hb hby d_prog_156_method_2_45) rfl (tlt hc45_6).1 (by decide) (by decide) k_) ?_
              show Go pg.tables ev below (s₁.setTop (mkF mi 58 #[.val (.int c)] [])) P
              refine Go.st (fun t_ k_ => XS.iconst X0.here hx rfl (hb hby d_prog_156_method_2_58) k_) ?_
              show Go pg.tables ev below (s₁.setTop (mkF mi 59 #[.val (.int c)] [(.int (0 : Int32))])) P
              obtain ⟨fs, hr, hrun, hended, hW, hsame⟩ := X0.leave (v := some (.int (0 : Int32))) (fun h => by rw [Bd.returns] at h; cases h) (BodyLoose.notSynchronized Bd)
              refine ⟨_, _, ?_, hP _ _ ⟨hrun, hended, _, _, rfl, ?_, ⟨_, rfl⟩, hW, hsame.mono (by decide) (by decide)⟩⟩
              · exact retN X0 hx (t := .boolean) Bd.returns (by simp) (hb hby d_prog_156_method_2_59) hr
              · show (some (.int (0 : Int32)) : Option Value) = some (.int (fC c)) ∧ Fr n0 _ ∧ s₁.heap = h0
                rw [e0]
                exact ⟨by rw [show fC c = (0 : Int32) from ((if_neg hc3_1).trans ((if_neg hc9_2).trans ((if_neg hc15_3).trans ((if_pos hc21_4).trans ((if_pos hc33_5).trans ((if_pos hc45_6).trans rfl))))))], N0, rfl⟩
            · refine Go.st (fun t_ k_ => XS.icmpNo X0.here hx rfl (hb hby d_prog_156_method_2_45) rfl (flt hc45_6).1 k_) ?_
              show Go pg.tables ev below (s₁.setTop (mkF mi 48 #[.val (.int c)] [])) P
              refine Go.st (fun t_ k_ => XS.iloadN X0.here hx rfl (hb hby d_prog_156_method_2_48) rfl k_) ?_
              show Go pg.tables ev below (s₁.setTop (mkF mi 49 #[.val (.int c)] [(.int c)])) P
              refine Go.st (X0.ldcInt hx hown (mvT hZ (hw _ (List.mem_of_getElem? (i := 24) rfl))) (g := (mkF mi 49 #[.val (.int c)] [(.int c)])) rfl (hb hby d_prog_156_method_2_49)) ?_
              show Go pg.tables ev below (s₁.setTop (mkF mi 51 #[.val (.int c)] [(.int (1114111 : Int32)), (.int c)])) P
              have dm1 : ∀ t_, Steps pg.tables ev below (s₁.setTop (mkF mi 59 #[.val (.int c)] [(.int (if (1114111 : Int32) < c then (0 : Int32) else (1 : Int32)))])) t_ → Steps pg.tables ev below (s₁.setTop (mkF mi 51 #[.val (.int c)] [(.int (1114111 : Int32)), (.int c)])) t_ := by
                intro t_ k_
                by_cases hd : (1114111 : Int32) < c
                · refine XS.icmpYes X0.here hx rfl (pc0 := 51) (pc' := 58) rfl (hb hby d_prog_156_method_2_51) rfl (tlt hd).2.2.1 (by decide) (by decide) ?_
                  show Steps pg.tables ev below (s₁.setTop (mkF mi 58 #[.val (.int c)] [])) t_
                  refine XS.iconst X0.here hx rfl (hb hby d_prog_156_method_2_58) ?_
                  show Steps pg.tables ev below (s₁.setTop (mkF mi 59 #[.val (.int c)] [(.int (0 : Int32))])) t_
                  exact own_cst (if_pos hd) k_
                · refine XS.icmpNo X0.here hx rfl (hb hby d_prog_156_method_2_51) rfl (flt hd).2.2.1 ?_
                  show Steps pg.tables ev below (s₁.setTop (mkF mi 54 #[.val (.int c)] [])) t_
                  refine XS.iconst X0.here hx rfl (hb hby d_prog_156_method_2_54) ?_
                  show Steps pg.tables ev below (s₁.setTop (mkF mi 55 #[.val (.int c)] [(.int (1 : Int32))])) t_
                  refine XS.goto X0.here hx rfl (pc0 := 55) (pc' := 59) rfl (hb hby d_prog_156_method_2_55) (by decide) (by decide) ?_
                  show Steps pg.tables ev below (s₁.setTop (mkF mi 59 #[.val (.int c)] [(.int (1 : Int32))])) t_
                  exact own_cst (if_neg hd) k_
              refine Go.st dm1 ?_
              show Go pg.tables ev below (s₁.setTop (mkF mi 59 #[.val (.int c)] [(.int (if (1114111 : Int32) < c then (0 : Int32) else (1 : Int32)))])) P
              obtain ⟨fs, hr, hrun, hended, hW, hsame⟩ := X0.leave (v := some (.int (if (1114111 : Int32) < c then (0 : Int32) else (1 : Int32)))) (fun h => by rw [Bd.returns] at h; cases h) (BodyLoose.notSynchronized Bd)
              refine ⟨_, _, ?_, hP _ _ ⟨hrun, hended, _, _, rfl, ?_, ⟨_, rfl⟩, hW, hsame.mono (by decide) (by decide)⟩⟩
              · exact own_retN X0 hx (t := .boolean) Bd.returns (by simp) (own_nb rfl rfl) (hb hby d_prog_156_method_2_59) hr
              · show (some (.int (if (1114111 : Int32) < c then (0 : Int32) else (1 : Int32))) : Option Value) = some (.int (fC c)) ∧ Fr n0 _ ∧ s₁.heap = h0
                rw [e0]
                exact ⟨by rw [show fC c = (if (1114111 : Int32) < c then (0 : Int32) else (1 : Int32)) from ((if_neg hc3_1).trans ((if_neg hc9_2).trans ((if_neg hc15_3).trans ((if_pos hc21_4).trans ((if_pos hc33_5).trans ((if_neg hc45_6).trans rfl))))))], N0, rfl⟩
          · refine Go.st (fun t_ k_ => XS.icmpNo X0.here hx rfl (hb hby d_prog_156_method_2_33) rfl (flt hc33_5).1 k_) ?_
            show Go pg.tables ev below (s₁.setTop (mkF mi 36 #[.val (.int c)] [])) P
            refine Go.st (fun t_ k_ => XS.iloadN X0.here hx rfl (hb hby d_prog_156_method_2_36) rfl k_) ?_
            show Go pg.tables ev below (s₁.setTop (mkF mi 37 #[.val (.int c)] [(.int c)])) P
            refine Go.st (X0.ldcInt hx hown (mvT hZ (hw _ (List.mem_of_getElem? (i := 23) rfl))) (g := (mkF mi 37 #[.val (.int c)] [(.int c)])) rfl (hb hby d_prog_156_method_2_37)) ?_
            show Go pg.tables ev below (s₁.setTop (mkF mi 39 #[.val (.int c)] [(.int (65533 : Int32)), (.int c)])) P
            by_cases hc39_7 : (65533 : Int32) < c
            · refine Go.st (fun t_ k_ => XS.icmpNo X0.here hx rfl (hb hby d_prog_156_method_2_39) rfl (tlt hc39_7).2.2.2 k_) ?_
              show Go pg.tables ev below (s₁.setTop (mkF mi 42 #[.val (.int c)] [])) P
              refine Go.st (fun t_ k_ => XS.iloadN X0.here hx rfl (hb hby d_prog_156_method_2_42) rfl k_) ?_
              show Go pg.tables ev below (s₁.setTop (mkF mi 43 #[.val (.int c)] [(.int c)])) P
              refine Go.st (X0.ldcInt hx hown (mvT hZ (hw _ (List.mem_of_getElem? (i := 15) rfl))) (g := (mkF mi 43 #[.val (.int c)] [(.int c)])) rfl (hb hby d_prog_156_method_2_43)) ?_
              show Go pg.tables ev below (s₁.setTop (mkF mi 45 #[.val (.int c)] [(.int (65536 : Int32)), (.int c)])) P
              by_cases hc45_8 : c < (65536 : Int32)
              · refine Go.st (fun t_ k_ => XS.icmpYes X0.here hx rfl (pc0 := 45) (pc' := 58) rfl (hb hby d_prog_156_method_2_45) rfl (tlt hc45_8).1 (by decide) (by decide) k_) ?_
                show Go pg.tables ev below (s₁.setTop (mkF mi 58 #[.val (.int c)] [])) P
                refine Go.st (fun t_ k_ => XS.iconst X0.here hx rfl (hb hby d_prog_156_method_2_58) k_) ?_
                show Go pg.tables ev below (s₁.setTop (mkF mi 59 #[.val (.int c)] [(.int (0 : Int32))])) P
                obtain ⟨fs, hr, hrun, hended, hW, hsame⟩ := X0.leave (v := some (.int (0 : Int32))) (fun h => by rw [Bd.returns] at h; cases h) (BodyLoose.notSynchronized Bd)
                refine ⟨_, _, ?_, hP _ _ ⟨hrun, hended, _, _, rfl, ?_, ⟨_, rfl⟩, hW, hsame.mono (by decide) (by decide)⟩⟩
                · exact retN X0 hx (t := .boolean) Bd.returns (by simp) (hb hby d_prog_156_method_2_59) hr
                · show (some (.int (0 : Int32)) : Option Value) = some (.int (fC c)) ∧ Fr n0 _ ∧ s₁.heap = h0
                  rw [e0]
                  exact ⟨by rw [show fC c = (0 : Int32) from ((if_neg hc3_1).trans ((if_neg hc9_2).trans ((if_neg hc15_3).trans ((if_pos hc21_4).trans ((if_neg hc33_5).trans ((if_pos hc39_7).trans ((if_pos hc45_8).trans rfl)))))))], N0, rfl⟩
              · refine Go.st (fun t_ k_ => XS.icmpNo X0.here hx rfl (hb hby d_prog_156_method_2_45) rfl (flt hc45_8).1 k_) ?_
                show Go pg.tables ev below (s₁.setTop (mkF mi 48 #[.val (.int c)] [])) P
                refine Go.st (fun t_ k_ => XS.iloadN X0.here hx rfl (hb hby d_prog_156_method_2_48) rfl k_) ?_
                show Go pg.tables ev below (s₁.setTop (mkF mi 49 #[.val (.int c)] [(.int c)])) P
                refine Go.st (X0.ldcInt hx hown (mvT hZ (hw _ (List.mem_of_getElem? (i := 24) rfl))) (g := (mkF mi 49 #[.val (.int c)] [(.int c)])) rfl (hb hby d_prog_156_method_2_49)) ?_
                show Go pg.tables ev below (s₁.setTop (mkF mi 51 #[.val (.int c)] [(.int (1114111 : Int32)), (.int c)])) P
                have dm2 : ∀ t_, Steps pg.tables ev below (s₁.setTop (mkF mi 59 #[.val (.int c)] [(.int (if (1114111 : Int32) < c then (0 : Int32) else (1 : Int32)))])) t_ → Steps pg.tables ev below (s₁.setTop (mkF mi 51 #[.val (.int c)] [(.int (1114111 : Int32)), (.int c)])) t_ := by
                  intro t_ k_
                  by_cases hd : (1114111 : Int32) < c
                  · refine XS.icmpYes X0.here hx rfl (pc0 := 51) (pc' := 58) rfl (hb hby d_prog_156_method_2_51) rfl (tlt hd).2.2.1 (by decide) (by decide) ?_
                    show Steps pg.tables ev below (s₁.setTop (mkF mi 58 #[.val (.int c)] [])) t_
                    refine XS.iconst X0.here hx rfl (hb hby d_prog_156_method_2_58) ?_
                    show Steps pg.tables ev below (s₁.setTop (mkF mi 59 #[.val (.int c)] [(.int (0 : Int32))])) t_
                    exact own_cst (if_pos hd) k_
                  · refine XS.icmpNo X0.here hx rfl (hb hby d_prog_156_method_2_51) rfl (flt hd).2.2.1 ?_
                    show Steps pg.tables ev below (s₁.setTop (mkF mi 54 #[.val (.int c)] [])) t_
                    refine XS.iconst X0.here hx rfl (hb hby d_prog_156_method_2_54) ?_
                    show Steps pg.tables ev below (s₁.setTop (mkF mi 55 #[.val (.int c)] [(.int (1 : Int32))])) t_
                    refine XS.goto X0.here hx rfl (pc0 := 55) (pc' := 59) rfl (hb hby d_prog_156_method_2_55) (by decide) (by decide) ?_
                    show Steps pg.tables ev below (s₁.setTop (mkF mi 59 #[.val (.int c)] [(.int (1 : Int32))])) t_
                    exact own_cst (if_neg hd) k_
                refine Go.st dm2 ?_
                show Go pg.tables ev below (s₁.setTop (mkF mi 59 #[.val (.int c)] [(.int (if (1114111 : Int32) < c then (0 : Int32) else (1 : Int32)))])) P
                obtain ⟨fs, hr, hrun, hended, hW, hsame⟩ := X0.leave (v := some (.int (if (1114111 : Int32) < c then (0 : Int32) else (1 : Int32)))) (fun h => by rw [Bd.returns] at h; cases h) (BodyLoose.notSynchronized Bd)
                refine ⟨_, _, ?_, hP _ _ ⟨hrun, hended, _, _, rfl, ?_, ⟨_, rfl⟩, hW, hsame.mono (by decide) (by decide)⟩⟩
                · exact own_retN X0 hx (t := .boolean) Bd.returns (by simp) (own_nb rfl rfl) (hb hby d_prog_156_method_2_59) hr
                · show (some (.int (if (1114111 : Int32) < c then (0 : Int32) else (1 : Int32))) : Option Value) = some (.int (fC c)) ∧ Fr n0 _ ∧ s₁.heap = h0
                  rw [e0]
                  exact ⟨by rw [show fC c = (if (1114111 : Int32) < c then (0 : Int32) else (1 : Int32)) from ((if_neg hc3_1).trans ((if_neg hc9_2).trans ((if_neg hc15_3).trans ((if_pos hc21_4).trans ((if_neg hc33_5).trans ((if_pos hc39_7).trans ((if_neg hc45_8).trans rfl)))))))], N0, rfl⟩
            · refine Go.st (fun t_ k_ => XS.icmpYes X0.here hx rfl (pc0 := 39) (pc' := 54) rfl (hb hby d_prog_156_method_2_39) rfl (flt hc39_7).2.2.2 (by decide) (by decide) k_) ?_
              show Go pg.tables ev below (s₁.setTop (mkF mi 54 #[.val (.int c)] [])) P
              refine Go.st (fun t_ k_ => XS.iconst X0.here hx rfl (hb hby d_prog_156_method_2_54) k_) ?_
              show Go pg.tables ev below (s₁.setTop (mkF mi 55 #[.val (.int c)] [(.int (1 : Int32))])) P
              refine Go.st (fun t_ k_ => XS.goto X0.here hx rfl (pc0 := 55) (pc' := 59) rfl (hb hby d_prog_156_method_2_55) (by decide) (by decide) k_) ?_
              show Go pg.tables ev below (s₁.setTop (mkF mi 59 #[.val (.int c)] [(.int (1 : Int32))])) P
              obtain ⟨fs, hr, hrun, hended, hW, hsame⟩ := X0.leave (v := some (.int (1 : Int32))) (fun h => by rw [Bd.returns] at h; cases h) (BodyLoose.notSynchronized Bd)
              refine ⟨_, _, ?_, hP _ _ ⟨hrun, hended, _, _, rfl, ?_, ⟨_, rfl⟩, hW, hsame.mono (by decide) (by decide)⟩⟩
              · exact retN X0 hx (t := .boolean) Bd.returns (by simp) (hb hby d_prog_156_method_2_59) hr
              · show (some (.int (1 : Int32)) : Option Value) = some (.int (fC c)) ∧ Fr n0 _ ∧ s₁.heap = h0
                rw [e0]
                exact ⟨by rw [show fC c = (1 : Int32) from ((if_neg hc3_1).trans ((if_neg hc9_2).trans ((if_neg hc15_3).trans ((if_pos hc21_4).trans ((if_neg hc33_5).trans ((if_neg hc39_7).trans rfl))))))], N0, rfl⟩
        · refine Go.st (fun t_ k_ => XS.icmpNo X0.here hx rfl (hb hby d_prog_156_method_2_21) rfl (flt hc21_4).1 k_) ?_
          show Go pg.tables ev below (s₁.setTop (mkF mi 24 #[.val (.int c)] [])) P
          refine Go.st (fun t_ k_ => XS.iloadN X0.here hx rfl (hb hby d_prog_156_method_2_24) rfl k_) ?_
          show Go pg.tables ev below (s₁.setTop (mkF mi 25 #[.val (.int c)] [(.int c)])) P
          refine Go.st (X0.ldcInt hx hown (mvT hZ (hw _ (List.mem_of_getElem? (i := 20) rfl))) (g := (mkF mi 25 #[.val (.int c)] [(.int c)])) rfl (hb hby d_prog_156_method_2_25)) ?_
          show Go pg.tables ev below (s₁.setTop (mkF mi 27 #[.val (.int c)] [(.int (55295 : Int32)), (.int c)])) P
          by_cases hc27_9 : (55295 : Int32) < c
          · refine Go.st (fun t_ k_ => XS.icmpNo X0.here hx rfl (hb hby d_prog_156_method_2_27) rfl (tlt hc27_9).2.2.2 k_) ?_
            show Go pg.tables ev below (s₁.setTop (mkF mi 30 #[.val (.int c)] [])) P
            refine Go.st (fun t_ k_ => XS.iloadN X0.here hx rfl (hb hby d_prog_156_method_2_30) rfl k_) ?_
            show Go pg.tables ev below (s₁.setTop (mkF mi 31 #[.val (.int c)] [(.int c)])) P
            refine Go.st (X0.ldcInt hx hown (mvT hZ (hw _ (List.mem_of_getElem? (i := 14) rfl))) (g := (mkF mi 31 #[.val (.int c)] [(.int c)])) rfl (hb hby d_prog_156_method_2_31)) ?_
            show Go pg.tables ev below (s₁.setTop (mkF mi 33 #[.val (.int c)] [(.int (57344 : Int32)), (.int c)])) P
            by_cases hc33_10 : c < (57344 : Int32)
            · refine Go.st (fun t_ k_ => XS.icmpYes X0.here hx rfl (pc0 := 33) (pc' := 42) rfl (hb hby d_prog_156_method_2_33) rfl (tlt hc33_10).1 (by decide) (by decide) k_) ?_
              show Go pg.tables ev below (s₁.setTop (mkF mi 42 #[.val (.int c)] [])) P
              refine Go.st (fun t_ k_ => XS.iloadN X0.here hx rfl (hb hby d_prog_156_method_2_42) rfl k_) ?_
              show Go pg.tables ev below (s₁.setTop (mkF mi 43 #[.val (.int c)] [(.int c)])) P
              refine Go.st (X0.ldcInt hx hown (mvT hZ (hw _ (List.mem_of_getElem? (i := 15) rfl))) (g := (mkF mi 43 #[.val (.int c)] [(.int c)])) rfl (hb hby d_prog_156_method_2_43)) ?_
              show Go pg.tables ev below (s₁.setTop (mkF mi 45 #[.val (.int c)] [(.int (65536 : Int32)), (.int c)])) P
              by_cases hc45_11 : c < (65536 : Int32)
              · refine Go.st (fun t_ k_ => XS.icmpYes X0.here hx rfl (pc0 := 45) (pc' := 58) rfl (hb hby d_prog_156_method_2_45) rfl (tlt hc45_11).1 (by decide) (by decide) k_) ?_
                show Go pg.tables ev below (s₁.setTop (mkF mi 58 #[.val (.int c)] [])) P
                refine Go.st (fun t_ k_ => XS.iconst X0.here hx rfl (hb hby d_prog_156_method_2_58) k_) ?_
                show Go pg.tables ev below (s₁.setTop (mkF mi 59 #[.val (.int c)] [(.int (0 : Int32))])) P
                obtain ⟨fs, hr, hrun, hended, hW, hsame⟩ := X0.leave (v := some (.int (0 : Int32))) (fun h => by rw [Bd.returns] at h; cases h) (BodyLoose.notSynchronized Bd)
                refine ⟨_, _, ?_, hP _ _ ⟨hrun, hended, _, _, rfl, ?_, ⟨_, rfl⟩, hW, hsame.mono (by decide) (by decide)⟩⟩
                · exact retN X0 hx (t := .boolean) Bd.returns (by simp) (hb hby d_prog_156_method_2_59) hr
                · show (some (.int (0 : Int32)) : Option Value) = some (.int (fC c)) ∧ Fr n0 _ ∧ s₁.heap = h0
                  rw [e0]
                  exact ⟨by rw [show fC c = (0 : Int32) from ((if_neg hc3_1).trans ((if_neg hc9_2).trans ((if_neg hc15_3).trans ((if_neg hc21_4).trans ((if_pos hc27_9).trans ((if_pos hc33_10).trans ((if_pos hc45_11).trans rfl)))))))], N0, rfl⟩
              · refine Go.st (fun t_ k_ => XS.icmpNo X0.here hx rfl (hb hby d_prog_156_method_2_45) rfl (flt hc45_11).1 k_) ?_
                show Go pg.tables ev below (s₁.setTop (mkF mi 48 #[.val (.int c)] [])) P
                refine Go.st (fun t_ k_ => XS.iloadN X0.here hx rfl (hb hby d_prog_156_method_2_48) rfl k_) ?_
                show Go pg.tables ev below (s₁.setTop (mkF mi 49 #[.val (.int c)] [(.int c)])) P
                refine Go.st (X0.ldcInt hx hown (mvT hZ (hw _ (List.mem_of_getElem? (i := 24) rfl))) (g := (mkF mi 49 #[.val (.int c)] [(.int c)])) rfl (hb hby d_prog_156_method_2_49)) ?_
                show Go pg.tables ev below (s₁.setTop (mkF mi 51 #[.val (.int c)] [(.int (1114111 : Int32)), (.int c)])) P
                have dm3 : ∀ t_, Steps pg.tables ev below (s₁.setTop (mkF mi 59 #[.val (.int c)] [(.int (if (1114111 : Int32) < c then (0 : Int32) else (1 : Int32)))])) t_ → Steps pg.tables ev below (s₁.setTop (mkF mi 51 #[.val (.int c)] [(.int (1114111 : Int32)), (.int c)])) t_ := by
                  intro t_ k_
                  by_cases hd : (1114111 : Int32) < c
                  · refine XS.icmpYes X0.here hx rfl (pc0 := 51) (pc' := 58) rfl (hb hby d_prog_156_method_2_51) rfl (tlt hd).2.2.1 (by decide) (by decide) ?_
                    show Steps pg.tables ev below (s₁.setTop (mkF mi 58 #[.val (.int c)] [])) t_
                    refine XS.iconst X0.here hx rfl (hb hby d_prog_156_method_2_58) ?_
                    show Steps pg.tables ev below (s₁.setTop (mkF mi 59 #[.val (.int c)] [(.int (0 : Int32))])) t_
                    exact own_cst (if_pos hd) k_
                  · refine XS.icmpNo X0.here hx rfl (hb hby d_prog_156_method_2_51) rfl (flt hd).2.2.1 ?_
                    show Steps pg.tables ev below (s₁.setTop (mkF mi 54 #[.val (.int c)] [])) t_
                    refine XS.iconst X0.here hx rfl (hb hby d_prog_156_method_2_54) ?_
                    show Steps pg.tables ev below (s₁.setTop (mkF mi 55 #[.val (.int c)] [(.int (1 : Int32))])) t_
                    refine XS.goto X0.here hx rfl (pc0 := 55) (pc' := 59) rfl (hb hby d_prog_156_method_2_55) (by decide) (by decide) ?_
                    show Steps pg.tables ev below (s₁.setTop (mkF mi 59 #[.val (.int c)] [(.int (1 : Int32))])) t_
                    exact own_cst (if_neg hd) k_
                refine Go.st dm3 ?_
                show Go pg.tables ev below (s₁.setTop (mkF mi 59 #[.val (.int c)] [(.int (if (1114111 : Int32) < c then (0 : Int32) else (1 : Int32)))])) P
                obtain ⟨fs, hr, hrun, hended, hW, hsame⟩ := X0.leave (v := some (.int (if (1114111 : Int32) < c then (0 : Int32) else (1 : Int32)))) (fun h => by rw [Bd.returns] at h; cases h) (BodyLoose.notSynchronized Bd)
                refine ⟨_, _, ?_, hP _ _ ⟨hrun, hended, _, _, rfl, ?_, ⟨_, rfl⟩, hW, hsame.mono (by decide) (by decide)⟩⟩
                · exact own_retN X0 hx (t := .boolean) Bd.returns (by simp) (own_nb rfl rfl) (hb hby d_prog_156_method_2_59) hr
                · show (some (.int (if (1114111 : Int32) < c then (0 : Int32) else (1 : Int32))) : Option Value) = some (.int (fC c)) ∧ Fr n0 _ ∧ s₁.heap = h0
                  rw [e0]
                  exact ⟨by rw [show fC c = (if (1114111 : Int32) < c then (0 : Int32) else (1 : Int32)) from ((if_neg hc3_1).trans ((if_neg hc9_2).trans ((if_neg hc15_3).trans ((if_neg hc21_4).trans ((if_pos hc27_9).trans ((if_pos hc33_10).trans ((if_neg hc45_11).trans rfl)))))))], N0, rfl⟩
            · refine Go.st (fun t_ k_ => XS.icmpNo X0.here hx rfl (hb hby d_prog_156_method_2_33) rfl (flt hc33_10).1 k_) ?_
              show Go pg.tables ev below (s₁.setTop (mkF mi 36 #[.val (.int c)] [])) P
              refine Go.st (fun t_ k_ => XS.iloadN X0.here hx rfl (hb hby d_prog_156_method_2_36) rfl k_) ?_
              show Go pg.tables ev below (s₁.setTop (mkF mi 37 #[.val (.int c)] [(.int c)])) P
              refine Go.st (X0.ldcInt hx hown (mvT hZ (hw _ (List.mem_of_getElem? (i := 23) rfl))) (g := (mkF mi 37 #[.val (.int c)] [(.int c)])) rfl (hb hby d_prog_156_method_2_37)) ?_
              show Go pg.tables ev below (s₁.setTop (mkF mi 39 #[.val (.int c)] [(.int (65533 : Int32)), (.int c)])) P
              by_cases hc39_12 : (65533 : Int32) < c
              · refine Go.st (fun t_ k_ => XS.icmpNo X0.here hx rfl (hb hby d_prog_156_method_2_39) rfl (tlt hc39_12).2.2.2 k_) ?_
                show Go pg.tables ev below (s₁.setTop (mkF mi 42 #[.val (.int c)] [])) P
                refine Go.st (fun t_ k_ => XS.iloadN X0.here hx rfl (hb hby d_prog_156_method_2_42) rfl k_) ?_
                show Go pg.tables ev below (s₁.setTop (mkF mi 43 #[.val (.int c)] [(.int c)])) P
                refine Go.st (X0.ldcInt hx hown (mvT hZ (hw _ (List.mem_of_getElem? (i := 15) rfl))) (g := (mkF mi 43 #[.val (.int c)] [(.int c)])) rfl (hb hby d_prog_156_method_2_43)) ?_
                show Go pg.tables ev below (s₁.setTop (mkF mi 45 #[.val (.int c)] [(.int (65536 : Int32)), (.int c)])) P
                by_cases hc45_13 : c < (65536 : Int32)
                · refine Go.st (fun t_ k_ => XS.icmpYes X0.here hx rfl (pc0 := 45) (pc' := 58) rfl (hb hby d_prog_156_method_2_45) rfl (tlt hc45_13).1 (by decide) (by decide) k_) ?_
                  show Go pg.tables ev below (s₁.setTop (mkF mi 58 #[.val (.int c)] [])) P
                  refine Go.st (fun t_ k_ => XS.iconst X0.here hx rfl (hb hby d_prog_156_method_2_58) k_) ?_
                  show Go pg.tables ev below (s₁.setTop (mkF mi 59 #[.val (.int c)] [(.int (0 : Int32))])) P
                  obtain ⟨fs, hr, hrun, hended, hW, hsame⟩ := X0.leave (v := some (.int (0 : Int32))) (fun h => by rw [Bd.returns] at h; cases h) (BodyLoose.notSynchronized Bd)
                  refine ⟨_, _, ?_, hP _ _ ⟨hrun, hended, _, _, rfl, ?_, ⟨_, rfl⟩, hW, hsame.mono (by decide) (by decide)⟩⟩
                  · exact retN X0 hx (t := .boolean) Bd.returns (by simp) (hb hby d_prog_156_method_2_59) hr
                  · show (some (.int (0 : Int32)) : Option Value) = some (.int (fC c)) ∧ Fr n0 _ ∧ s₁.heap = h0
                    rw [e0]
                    exact ⟨by rw [show fC c = (0 : Int32) from ((if_neg hc3_1).trans ((if_neg hc9_2).trans ((if_neg hc15_3).trans ((if_neg hc21_4).trans ((if_pos hc27_9).trans ((if_neg hc33_10).trans ((if_pos hc39_12).trans ((if_pos hc45_13).trans rfl))))))))], N0, rfl⟩
                · refine Go.st (fun t_ k_ => XS.icmpNo X0.here hx rfl (hb hby d_prog_156_method_2_45) rfl (flt hc45_13).1 k_) ?_
                  show Go pg.tables ev below (s₁.setTop (mkF mi 48 #[.val (.int c)] [])) P
                  refine Go.st (fun t_ k_ => XS.iloadN X0.here hx rfl (hb hby d_prog_156_method_2_48) rfl k_) ?_
                  show Go pg.tables ev below (s₁.setTop (mkF mi 49 #[.val (.int c)] [(.int c)])) P
                  refine Go.st (X0.ldcInt hx hown (mvT hZ (hw _ (List.mem_of_getElem? (i := 24) rfl))) (g := (mkF mi 49 #[.val (.int c)] [(.int c)])) rfl (hb hby d_prog_156_method_2_49)) ?_
                  show Go pg.tables ev below (s₁.setTop (mkF mi 51 #[.val (.int c)] [(.int (1114111 : Int32)), (.int c)])) P
                  have dm4 : ∀ t_, Steps pg.tables ev below (s₁.setTop (mkF mi 59 #[.val (.int c)] [(.int (if (1114111 : Int32) < c then (0 : Int32) else (1 : Int32)))])) t_ → Steps pg.tables ev below (s₁.setTop (mkF mi 51 #[.val (.int c)] [(.int (1114111 : Int32)), (.int c)])) t_ := by
                    intro t_ k_
                    by_cases hd : (1114111 : Int32) < c
                    · refine XS.icmpYes X0.here hx rfl (pc0 := 51) (pc' := 58) rfl (hb hby d_prog_156_method_2_51) rfl (tlt hd).2.2.1 (by decide) (by decide) ?_
                      show Steps pg.tables ev below (s₁.setTop (mkF mi 58 #[.val (.int c)] [])) t_
                      refine XS.iconst X0.here hx rfl (hb hby d_prog_156_method_2_58) ?_
                      show Steps pg.tables ev below (s₁.setTop (mkF mi 59 #[.val (.int c)] [(.int (0 : Int32))])) t_
                      exact own_cst (if_pos hd) k_
                    · refine XS.icmpNo X0.here hx rfl (hb hby d_prog_156_method_2_51) rfl (flt hd).2.2.1 ?_
                      show Steps pg.tables ev below (s₁.setTop (mkF mi 54 #[.val (.int c)] [])) t_
                      refine XS.iconst X0.here hx rfl (hb hby d_prog_156_method_2_54) ?_
                      show Steps pg.tables ev below (s₁.setTop (mkF mi 55 #[.val (.int c)] [(.int (1 : Int32))])) t_
                      refine XS.goto X0.here hx rfl (pc0 := 55) (pc' := 59) rfl (hb hby d_prog_156_method_2_55) (by decide) (by decide) ?_
                      show Steps pg.tables ev below (s₁.setTop (mkF mi 59 #[.val (.int c)] [(.int (1 : Int32))])) t_
                      exact own_cst (if_neg hd) k_
                  refine Go.st dm4 ?_
                  show Go pg.tables ev below (s₁.setTop (mkF mi 59 #[.val (.int c)] [(.int (if (1114111 : Int32) < c then (0 : Int32) else (1 : Int32)))])) P
                  obtain ⟨fs, hr, hrun, hended, hW, hsame⟩ := X0.leave (v := some (.int (if (1114111 : Int32) < c then (0 : Int32) else (1 : Int32)))) (fun h => by rw [Bd.returns] at h; cases h) (BodyLoose.notSynchronized Bd)
                  refine ⟨_, _, ?_, hP _ _ ⟨hrun, hended, _, _, rfl, ?_, ⟨_, rfl⟩, hW, hsame.mono (by decide) (by decide)⟩⟩
                  · exact own_retN X0 hx (t := .boolean) Bd.returns (by simp) (own_nb rfl rfl) (hb hby d_prog_156_method_2_59) hr
                  · show (some (.int (if (1114111 : Int32) < c then (0 : Int32) else (1 : Int32))) : Option Value) = some (.int (fC c)) ∧ Fr n0 _ ∧ s₁.heap = h0
                    rw [e0]
                    exact ⟨by rw [show fC c = (if (1114111 : Int32) < c then (0 : Int32) else (1 : Int32)) from ((if_neg hc3_1).trans ((if_neg hc9_2).trans ((if_neg hc15_3).trans ((if_neg hc21_4).trans ((if_pos hc27_9).trans ((if_neg hc33_10).trans ((if_pos hc39_12).trans ((if_neg hc45_13).trans rfl))))))))], N0, rfl⟩
              · refine Go.st (fun t_ k_ => XS.icmpYes X0.here hx rfl (pc0 := 39) (pc' := 54) rfl (hb hby d_prog_156_method_2_39) rfl (flt hc39_12).2.2.2 (by decide) (by decide) k_) ?_
                show Go pg.tables ev below (s₁.setTop (mkF mi 54 #[.val (.int c)] [])) P
                refine Go.st (fun t_ k_ => XS.iconst X0.here hx rfl (hb hby d_prog_156_method_2_54) k_) ?_
                show Go pg.tables ev below (s₁.setTop (mkF mi 55 #[.val (.int c)] [(.int (1 : Int32))])) P
                refine Go.st (fun t_ k_ => XS.goto X0.here hx rfl (pc0 := 55) (pc' := 59) rfl (hb hby d_prog_156_method_2_55) (by decide) (by decide) k_) ?_
                show Go pg.tables ev below (s₁.setTop (mkF mi 59 #[.val (.int c)] [(.int (1 : Int32))])) P
                obtain ⟨fs, hr, hrun, hended, hW, hsame⟩ := X0.leave (v := some (.int (1 : Int32))) (fun h => by rw [Bd.returns] at h; cases h) (BodyLoose.notSynchronized Bd)
                refine ⟨_, _, ?_, hP _ _ ⟨hrun, hended, _, _, rfl, ?_, ⟨_, rfl⟩, hW, hsame.mono (by decide) (by decide)⟩⟩
                · exact retN X0 hx (t := .boolean) Bd.returns (by simp) (hb hby d_prog_156_method_2_59) hr
                · show (some (.int (1 : Int32)) : Option Value) = some (.int (fC c)) ∧ Fr n0 _ ∧ s₁.heap = h0
                  rw [e0]
                  exact ⟨by rw [show fC c = (1 : Int32) from ((if_neg hc3_1).trans ((if_neg hc9_2).trans ((if_neg hc15_3).trans ((if_neg hc21_4).trans ((if_pos hc27_9).trans ((if_neg hc33_10).trans ((if_neg hc39_12).trans rfl)))))))], N0, rfl⟩
          · refine Go.st (fun t_ k_ => XS.icmpYes X0.here hx rfl (pc0 := 27) (pc' := 54) rfl (hb hby d_prog_156_method_2_27) rfl (flt hc27_9).2.2.2 (by decide) (by decide) k_) ?_
            show Go pg.tables ev below (s₁.setTop (mkF mi 54 #[.val (.int c)] [])) P
            refine Go.st (fun t_ k_ => XS.iconst X0.here hx rfl (hb hby d_prog_156_method_2_54) k_) ?_
            show Go pg.tables ev below (s₁.setTop (mkF mi 55 #[.val (.int c)] [(.int (1 : Int32))])) P
            refine Go.st (fun t_ k_ => XS.goto X0.here hx rfl (pc0 := 55) (pc' := 59) rfl (hb hby d_prog_156_method_2_55) (by decide) (by decide) k_) ?_
            show Go pg.tables ev below (s₁.setTop (mkF mi 59 #[.val (.int c)] [(.int (1 : Int32))])) P
            obtain ⟨fs, hr, hrun, hended, hW, hsame⟩ := X0.leave (v := some (.int (1 : Int32))) (fun h => by rw [Bd.returns] at h; cases h) (BodyLoose.notSynchronized Bd)
            refine ⟨_, _, ?_, hP _ _ ⟨hrun, hended, _, _, rfl, ?_, ⟨_, rfl⟩, hW, hsame.mono (by decide) (by decide)⟩⟩
            · exact retN X0 hx (t := .boolean) Bd.returns (by simp) (hb hby d_prog_156_method_2_59) hr
            · show (some (.int (1 : Int32)) : Option Value) = some (.int (fC c)) ∧ Fr n0 _ ∧ s₁.heap = h0
              rw [e0]
              exact ⟨by rw [show fC c = (1 : Int32) from ((if_neg hc3_1).trans ((if_neg hc9_2).trans ((if_neg hc15_3).trans ((if_neg hc21_4).trans ((if_neg hc27_9).trans rfl)))))], N0, rfl⟩
theorem d_method_3_0 : decode method_3_code 0 = .ok (.iload_n 0, 1) := by decide +kernel
theorem d_method_3_1 : decode method_3_code 1 = .ok (.ifCond .lt 9, 3) := by decide +kernel
theorem d_method_3_10 : decode method_3_code 10 = .ok (.iconst 0, 1) := by decide +kernel
theorem d_method_3_11 : decode method_3_code 11 = .ok (.ireturn, 1) := by decide +kernel
theorem d_method_3_4 : decode method_3_code 4 = .ok (.iload_n 0, 1) := by decide +kernel
theorem d_method_3_5 : decode method_3_code 5 = .ok (.ldc 11, 2) := by decide +kernel
theorem d_method_3_7 : decode method_3_code 7 = .ok (.if_icmp .le 5, 3) := by decide +kernel
theorem d_method_3_12 : decode method_3_code 12 = .ok (.iload_n 0, 1) := by decide +kernel
theorem d_method_3_13 : decode method_3_code 13 = .ok (.bipush 32, 2) := by decide +kernel
theorem d_method_3_15 : decode method_3_code 15 = .ok (.if_icmp .ge 27, 3) := by decide +kernel
theorem d_method_3_18 : decode method_3_code 18 = .ok (.iload_n 0, 1) := by decide +kernel
theorem d_method_3_19 : decode method_3_code 19 = .ok (.bipush 9, 2) := by decide +kernel
theorem d_method_3_21 : decode method_3_code 21 = .ok (.if_icmp .eq 15, 3) := by decide +kernel
theorem d_method_3_36 : decode method_3_code 36 = .ok (.iconst 1, 1) := by decide +kernel
theorem d_method_3_37 : decode method_3_code 37 = .ok (.goto 4, 3) := by decide +kernel
theorem d_method_3_41 : decode method_3_code 41 = .ok (.ireturn, 1) := by decide +kernel
theorem d_method_3_24 : decode method_3_code 24 = .ok (.iload_n 0, 1) := by decide +kernel
theorem d_method_3_25 : decode method_3_code 25 = .ok (.bipush 10, 2) := by decide +kernel
theorem d_method_3_27 : decode method_3_code 27 = .ok (.if_icmp .eq 9, 3) := by decide +kernel
theorem d_method_3_30 : decode method_3_code 30 = .ok (.iload_n 0, 1) := by decide +kernel
theorem d_method_3_31 : decode method_3_code 31 = .ok (.bipush 13, 2) := by decide +kernel
theorem d_method_3_33 : decode method_3_code 33 = .ok (.if_icmp .ne 7, 3) := by decide +kernel
theorem d_method_3_40 : decode method_3_code 40 = .ok (.iconst 0, 1) := by decide +kernel
theorem d_method_3_42 : decode method_3_code 42 = .ok (.iload_n 0, 1) := by decide +kernel
theorem d_method_3_43 : decode method_3_code 43 = .ok (.ldc 29, 2) := by decide +kernel
theorem d_method_3_45 : decode method_3_code 45 = .ok (.if_icmp .lt 11, 3) := by decide +kernel
theorem d_method_3_56 : decode method_3_code 56 = .ok (.iload_n 0, 1) := by decide +kernel
theorem d_method_3_57 : decode method_3_code 57 = .ok (.ldc 30, 2) := by decide +kernel
theorem d_method_3_59 : decode method_3_code 59 = .ok (.if_icmp .eq 9, 3) := by decide +kernel
theorem d_method_3_68 : decode method_3_code 68 = .ok (.iconst 0, 1) := by decide +kernel
theorem d_method_3_69 : decode method_3_code 69 = .ok (.ireturn, 1) := by decide +kernel
theorem d_method_3_62 : decode method_3_code 62 = .ok (.iload_n 0, 1) := by decide +kernel
theorem d_method_3_63 : decode method_3_code 63 = .ok (.ldc 13, 2) := by decide +kernel
theorem d_method_3_65 : decode method_3_code 65 = .ok (.if_icmp .ne 5, 3) := by decide +kernel
theorem d_method_3_70 : decode method_3_code 70 = .ok (.iconst 1, 1) := by decide +kernel
theorem d_method_3_71 : decode method_3_code 71 = .ok (.ireturn, 1) := by decide +kernel
theorem d_method_3_48 : decode method_3_code 48 = .ok (.iload_n 0, 1) := by decide +kernel
theorem d_method_3_49 : decode method_3_code 49 = .ok (.ldc 12, 2) := by decide +kernel
theorem d_method_3_51 : decode method_3_code 51 = .ok (.if_icmp .gt 5, 3) := by decide +kernel
theorem d_method_3_54 : decode method_3_code 54 = .ok (.iconst 0, 1) := by decide +kernel
theorem d_method_3_55 : decode method_3_code 55 = .ok (.ireturn, 1) := by decide +kernel
theorem pn_1 : plainName "com/example/hedge/hedge/xml/XmlNamesIsCharPinLaw" = true := by first | (simp [plainName, overriddenIn]; done) | decide +kernel
theorem ef_rmR (mi : MethodId) (c : Int32) : entryFrame mi #[(.int c)] 1 = mkF mi 0 #[.val (.int c)] [] := by first | (simp [entryFrame, mkF, argsToLocals, Value.category]; done) | rfl
def fR (c : Int32) : Int32 := (if c < (0 : Int32) then (0 : Int32) else (if (1114111 : Int32) < c then (0 : Int32) else (if c < (32 : Int32) then (if c = (9 : Int32) then (1 : Int32) else (if c = (10 : Int32) then (1 : Int32) else (if c = (13 : Int32) then (1 : Int32) else (0 : Int32)))) else (if c < (55296 : Int32) then (if c = (65534 : Int32) then (0 : Int32) else (if c = (65535 : Int32) then (0 : Int32) else (1 : Int32))) else (if (57343 : Int32) < c then (if c = (65534 : Int32) then (0 : Int32) else (if c = (65535 : Int32) then (0 : Int32) else (1 : Int32))) else (0 : Int32))))))
def Q_rmR (Z : State) (c : Int32) (h0 : Heap) (n0 : Nat) (vv_ : Option Value) (hh_ : Heap) (LL_ : List Loc) : Prop := vv_ = some (.int (fR c)) ∧ Fr n0 LL_ ∧ hh_ = h0
set_option maxRecDepth 65536 in
set_option maxHeartbeats 40000000 in
theorem rmR (l : Launch) (Z : State) (a0 : Array Value) (hw : ∀ d ∈ tables_1, d.before a0 Z = true) (ws : List Jvm.Cond) (c : Int32) (h0 : Heap) (n0 : Nat) (Z0 : n0 ≤ h0.size) :
    MetFree l (⟨"com/example/hedge/hedge/xml/XmlNamesIsCharPinLaw", "ref", "(I)Z"⟩ : MethodName) (head1 (Jvm.Cond.code (⟨"com/example/hedge/hedge/xml/XmlNamesIsCharPinLaw", "ref", "(I)Z"⟩ : MethodName) method_3_code 1 (some .boolean) :: ws) ({ frames := 0, cells := 0, slots := 0, locals := 0 } : Room)) (fun aa_ U => aa_ = #[(.int c)] ∧ Z.Warmed39 U.vm ∧ U.heap = h0) (fun _ _ _ _ _ => True) (fun _ U oo_ UV_ => ∃ vv_ LL_, oo_ = .returned vv_ ∧ Q_rmR Z c h0 n0 vv_ UV_.heap LL_ ∧ FrameEnd U oo_ UV_ LL_ ({ frames := 0, cells := 0, slots := 0, locals := 0 } : Room).cells ({ frames := 0, cells := 0, slots := 0, locals := 0 } : Room).slots) := by
  refine MetFree.of_bodySF (plainFor_of_name pn_1) hisR ?_
  intro pg ev si mi args below meth ci s₁ Bd hml0 hP0 hK
  obtain ⟨rfl, hZ, hh⟩ := hP0
  have hx := Bd.exec
  have hby := Bd.bytes
  have hml : ci.maxLocals = 1 := hml0
  have hown : si.vm.findClass "com/example/hedge/hedge/xml/XmlNamesIsCharPinLaw" = some mi.cls := findClass_of_methodNamed Bd.named
  have hnm := (name_of_methodNamed Bd.named Bd.method).1
  have X0 : Stand pg l ev ({ frames := 0, cells := 0, slots := 0, locals := 0 } : Room) si mi #[(.int c)] below meth ci s₁ [] 0 0 := Stand.of_body Bd
  have e0 : s₁.heap = h0 := by rw [← hh, Bd.state]; rfl
  have N0 := Fr.nil n0
  refine Go.start (fun P hP => ?_)
  refine Go.st (fun t_ k_ => castTop (ef_rmR mi c) k_) (A := s₁.setTop (mkF mi 0 #[.val (.int c)] [])) ?_
  show Go pg.tables ev below (s₁.setTop (mkF mi 0 #[.val (.int c)] [])) P
  refine Go.st (fun t_ k_ => XS.iloadN X0.here hx rfl (hb hby d_method_3_0) rfl k_) ?_
  show Go pg.tables ev below (s₁.setTop (mkF mi 1 #[.val (.int c)] [(.int c)])) P
  by_cases hc1_1 : c < (0 : Int32)
  · refine Go.st (fun t_ k_ => XS.ifYes X0.here hx rfl (pc0 := 1) (pc' := 10) rfl (hb hby d_method_3_1) rfl ((if0 _ _).trans (tlt hc1_1).1) (by decide) (by decide) k_) ?_
    show Go pg.tables ev below (s₁.setTop (mkF mi 10 #[.val (.int c)] [])) P
    refine Go.st (fun t_ k_ => XS.iconst X0.here hx rfl (hb hby d_method_3_10) k_) ?_
    show Go pg.tables ev below (s₁.setTop (mkF mi 11 #[.val (.int c)] [(.int (0 : Int32))])) P
    obtain ⟨fs, hr, hrun, hended, hW, hsame⟩ := X0.leave (v := some (.int (0 : Int32))) (fun h => by rw [Bd.returns] at h; cases h) (BodyLoose.notSynchronized Bd)
    refine ⟨_, _, ?_, hP _ _ ⟨hrun, hended, _, _, rfl, ?_, ⟨_, rfl⟩, hW, hsame.mono (by decide) (by decide)⟩⟩
    · exact retN X0 hx (t := .boolean) Bd.returns (by simp) (hb hby d_method_3_11) hr
    · show (some (.int (0 : Int32)) : Option Value) = some (.int (fR c)) ∧ Fr n0 _ ∧ s₁.heap = h0
      rw [e0]
      exact ⟨by rw [show fR c = (0 : Int32) from ((if_pos hc1_1).trans rfl)], N0, rfl⟩
  · refine Go.st (fun t_ k_ => XS.ifNo X0.here hx rfl (hb hby d_method_3_1) rfl ((if0 _ _).trans (flt hc1_1).1) k_) ?_
    show Go pg.tables ev below (s₁.setTop (mkF mi 4 #[.val (.int c)] [])) P
    refine Go.st (fun t_ k_ => XS.iloadN X0.here hx rfl (hb hby d_method_3_4) rfl k_) ?_
    show Go pg.tables ev below (s₁.setTop (mkF mi 5 #[.val (.int c)] [(.int c)])) P
    refine Go.st (X0.ldcInt hx hown (mvT hZ (hw _ (List.mem_of_getElem? (i := 5) rfl))) (g := (mkF mi 5 #[.val (.int c)] [(.int c)])) rfl (hb hby d_method_3_5)) ?_
    show Go pg.tables ev below (s₁.setTop (mkF mi 7 #[.val (.int c)] [(.int (1114111 : Int32)), (.int c)])) P
    by_cases hc7_2 : (1114111 : Int32) < c
    · refine Go.st (fun t_ k_ => XS.icmpNo X0.here hx rfl (hb hby d_method_3_7) rfl (tlt hc7_2).2.2.2 k_) ?_
      show Go pg.tables ev below (s₁.setTop (mkF mi 10 #[.val (.int c)] [])) P
      refine Go.st (fun t_ k_ => XS.iconst X0.here hx rfl (hb hby d_method_3_10) k_) ?_
      show Go pg.tables ev below (s₁.setTop (mkF mi 11 #[.val (.int c)] [(.int (0 : Int32))])) P
      obtain ⟨fs, hr, hrun, hended, hW, hsame⟩ := X0.leave (v := some (.int (0 : Int32))) (fun h => by rw [Bd.returns] at h; cases h) (BodyLoose.notSynchronized Bd)
      refine ⟨_, _, ?_, hP _ _ ⟨hrun, hended, _, _, rfl, ?_, ⟨_, rfl⟩, hW, hsame.mono (by decide) (by decide)⟩⟩
      · exact retN X0 hx (t := .boolean) Bd.returns (by simp) (hb hby d_method_3_11) hr
      · show (some (.int (0 : Int32)) : Option Value) = some (.int (fR c)) ∧ Fr n0 _ ∧ s₁.heap = h0
        rw [e0]
        exact ⟨by rw [show fR c = (0 : Int32) from ((if_neg hc1_1).trans ((if_pos hc7_2).trans rfl))], N0, rfl⟩
    · refine Go.st (fun t_ k_ => XS.icmpYes X0.here hx rfl (pc0 := 7) (pc' := 12) rfl (hb hby d_method_3_7) rfl (flt hc7_2).2.2.2 (by decide) (by decide) k_) ?_
      show Go pg.tables ev below (s₁.setTop (mkF mi 12 #[.val (.int c)] [])) P
      refine Go.st (fun t_ k_ => XS.iloadN X0.here hx rfl (hb hby d_method_3_12) rfl k_) ?_
      show Go pg.tables ev below (s₁.setTop (mkF mi 13 #[.val (.int c)] [(.int c)])) P
      refine Go.st (fun t_ k_ => XS.bipush X0.here hx rfl (hb hby d_method_3_13) k_) ?_
      show Go pg.tables ev below (s₁.setTop (mkF mi 15 #[.val (.int c)] [(.int (32 : Int32)), (.int c)])) P
      by_cases hc15_3 : c < (32 : Int32)
      · refine Go.st (fun t_ k_ => XS.icmpNo X0.here hx rfl (hb hby d_method_3_15) rfl (tlt hc15_3).2.1 k_) ?_
        show Go pg.tables ev below (s₁.setTop (mkF mi 18 #[.val (.int c)] [])) P
        refine Go.st (fun t_ k_ => XS.iloadN X0.here hx rfl (hb hby d_method_3_18) rfl k_) ?_
        show Go pg.tables ev below (s₁.setTop (mkF mi 19 #[.val (.int c)] [(.int c)])) P
        refine Go.st (fun t_ k_ => XS.bipush X0.here hx rfl (hb hby d_method_3_19) k_) ?_
        show Go pg.tables ev below (s₁.setTop (mkF mi 21 #[.val (.int c)] [(.int (9 : Int32)), (.int c)])) P
        by_cases hc21_4 : c = (9 : Int32)
        · refine Go.st (fun t_ k_ => XS.icmpYes X0.here hx rfl (pc0 := 21) (pc' := 36) rfl (hb hby d_method_3_21) rfl (teq hc21_4).1 (by decide) (by decide) k_) ?_
          show Go pg.tables ev below (s₁.setTop (mkF mi 36 #[.val (.int c)] [])) P
          refine Go.st (fun t_ k_ => XS.iconst X0.here hx rfl (hb hby d_method_3_36) k_) ?_
          show Go pg.tables ev below (s₁.setTop (mkF mi 37 #[.val (.int c)] [(.int (1 : Int32))])) P
          refine Go.st (fun t_ k_ => XS.goto X0.here hx rfl (pc0 := 37) (pc' := 41) rfl (hb hby d_method_3_37) (by decide) (by decide) k_) ?_
          show Go pg.tables ev below (s₁.setTop (mkF mi 41 #[.val (.int c)] [(.int (1 : Int32))])) P
          obtain ⟨fs, hr, hrun, hended, hW, hsame⟩ := X0.leave (v := some (.int (1 : Int32))) (fun h => by rw [Bd.returns] at h; cases h) (BodyLoose.notSynchronized Bd)
          refine ⟨_, _, ?_, hP _ _ ⟨hrun, hended, _, _, rfl, ?_, ⟨_, rfl⟩, hW, hsame.mono (by decide) (by decide)⟩⟩
          · exact retN X0 hx (t := .boolean) Bd.returns (by simp) (hb hby d_method_3_41) hr
          · show (some (.int (1 : Int32)) : Option Value) = some (.int (fR c)) ∧ Fr n0 _ ∧ s₁.heap = h0
            rw [e0]
            exact ⟨by rw [show fR c = (1 : Int32) from ((if_neg hc1_1).trans ((if_neg hc7_2).trans ((if_pos hc15_3).trans ((if_pos hc21_4).trans rfl))))], N0, rfl⟩
        · refine Go.st (fun t_ k_ => XS.icmpNo X0.here hx rfl (hb hby d_method_3_21) rfl (feq hc21_4).1 k_) ?_
          show Go pg.tables ev below (s₁.setTop (mkF mi 24 #[.val (.int c)] [])) P
          refine Go.st (fun t_ k_ => XS.iloadN X0.here hx rfl (hb hby d_method_3_24) rfl k_) ?_
          show Go pg.tables ev below (s₁.setTop (mkF mi 25 #[.val (.int c)] [(.int c)])) P
          refine Go.st (fun t_ k_ => XS.bipush X0.here hx rfl (hb hby d_method_3_25) k_) ?_
          show Go pg.tables ev below (s₁.setTop (mkF mi 27 #[.val (.int c)] [(.int (10 : Int32)), (.int c)])) P
          by_cases hc27_5 : c = (10 : Int32)
          · refine Go.st (fun t_ k_ => XS.icmpYes X0.here hx rfl (pc0 := 27) (pc' := 36) rfl (hb hby d_method_3_27) rfl (teq hc27_5).1 (by decide) (by decide) k_) ?_
            show Go pg.tables ev below (s₁.setTop (mkF mi 36 #[.val (.int c)] [])) P
            refine Go.st (fun t_ k_ => XS.iconst X0.here hx rfl (hb hby d_method_3_36) k_) ?_
            show Go pg.tables ev below (s₁.setTop (mkF mi 37 #[.val (.int c)] [(.int (1 : Int32))])) P
            refine Go.st (fun t_ k_ => XS.goto X0.here hx rfl (pc0 := 37) (pc' := 41) rfl (hb hby d_method_3_37) (by decide) (by decide) k_) ?_
            show Go pg.tables ev below (s₁.setTop (mkF mi 41 #[.val (.int c)] [(.int (1 : Int32))])) P
            obtain ⟨fs, hr, hrun, hended, hW, hsame⟩ := X0.leave (v := some (.int (1 : Int32))) (fun h => by rw [Bd.returns] at h; cases h) (BodyLoose.notSynchronized Bd)
            refine ⟨_, _, ?_, hP _ _ ⟨hrun, hended, _, _, rfl, ?_, ⟨_, rfl⟩, hW, hsame.mono (by decide) (by decide)⟩⟩
            · exact retN X0 hx (t := .boolean) Bd.returns (by simp) (hb hby d_method_3_41) hr
            · show (some (.int (1 : Int32)) : Option Value) = some (.int (fR c)) ∧ Fr n0 _ ∧ s₁.heap = h0
              rw [e0]
              exact ⟨by rw [show fR c = (1 : Int32) from ((if_neg hc1_1).trans ((if_neg hc7_2).trans ((if_pos hc15_3).trans ((if_neg hc21_4).trans ((if_pos hc27_5).trans rfl)))))], N0, rfl⟩
          · refine Go.st (fun t_ k_ => XS.icmpNo X0.here hx rfl (hb hby d_method_3_27) rfl (feq hc27_5).1 k_) ?_
            show Go pg.tables ev below (s₁.setTop (mkF mi 30 #[.val (.int c)] [])) P
            refine Go.st (fun t_ k_ => XS.iloadN X0.here hx rfl (hb hby d_method_3_30) rfl k_) ?_
            show Go pg.tables ev below (s₁.setTop (mkF mi 31 #[.val (.int c)] [(.int c)])) P
            refine Go.st (fun t_ k_ => XS.bipush X0.here hx rfl (hb hby d_method_3_31) k_) ?_
            show Go pg.tables ev below (s₁.setTop (mkF mi 33 #[.val (.int c)] [(.int (13 : Int32)), (.int c)])) P
            have dm1 : ∀ t_, Steps pg.tables ev below (s₁.setTop (mkF mi 41 #[.val (.int c)] [(.int (if c = (13 : Int32) then (1 : Int32) else (0 : Int32)))])) t_ → Steps pg.tables ev below (s₁.setTop (mkF mi 33 #[.val (.int c)] [(.int (13 : Int32)), (.int c)])) t_ := by
              intro t_ k_
              by_cases hd : c = (13 : Int32)
              · refine XS.icmpNo X0.here hx rfl (hb hby d_method_3_33) rfl (teq hd).2 ?_
                show Steps pg.tables ev below (s₁.setTop (mkF mi 36 #[.val (.int c)] [])) t_
                refine XS.iconst X0.here hx rfl (hb hby d_method_3_36) ?_
                show Steps pg.tables ev below (s₁.setTop (mkF mi 37 #[.val (.int c)] [(.int (1 : Int32))])) t_
                refine XS.goto X0.here hx rfl (pc0 := 37) (pc' := 41) rfl (hb hby d_method_3_37) (by decide) (by decide) ?_
                show Steps pg.tables ev below (s₁.setTop (mkF mi 41 #[.val (.int c)] [(.int (1 : Int32))])) t_
                exact own_cst (if_pos hd) k_
              · refine XS.icmpYes X0.here hx rfl (pc0 := 33) (pc' := 40) rfl (hb hby d_method_3_33) rfl (feq hd).2 (by decide) (by decide) ?_
                show Steps pg.tables ev below (s₁.setTop (mkF mi 40 #[.val (.int c)] [])) t_
                refine XS.iconst X0.here hx rfl (hb hby d_method_3_40) ?_
                show Steps pg.tables ev below (s₁.setTop (mkF mi 41 #[.val (.int c)] [(.int (0 : Int32))])) t_
                exact own_cst (if_neg hd) k_
            refine Go.st dm1 ?_
            show Go pg.tables ev below (s₁.setTop (mkF mi 41 #[.val (.int c)] [(.int (if c = (13 : Int32) then (1 : Int32) else (0 : Int32)))])) P
            obtain ⟨fs, hr, hrun, hended, hW, hsame⟩ := X0.leave (v := some (.int (if c = (13 : Int32) then (1 : Int32) else (0 : Int32)))) (fun h => by rw [Bd.returns] at h; cases h) (BodyLoose.notSynchronized Bd)
            refine ⟨_, _, ?_, hP _ _ ⟨hrun, hended, _, _, rfl, ?_, ⟨_, rfl⟩, hW, hsame.mono (by decide) (by decide)⟩⟩
            · exact own_retN X0 hx (t := .boolean) Bd.returns (by simp) (own_nb rfl rfl) (hb hby d_method_3_41) hr
            · show (some (.int (if c = (13 : Int32) then (1 : Int32) else (0 : Int32))) : Option Value) = some (.int (fR c)) ∧ Fr n0 _ ∧ s₁.heap = h0
              rw [e0]
              exact ⟨by rw [show fR c = (if c = (13 : Int32) then (1 : Int32) else (0 : Int32)) from ((if_neg hc1_1).trans ((if_neg hc7_2).trans ((if_pos hc15_3).trans ((if_neg hc21_4).trans ((if_neg hc27_5).trans rfl)))))], N0, rfl⟩
      · refine Go.st (fun t_ k_ => XS.icmpYes X0.here hx rfl (pc0 := 15) (pc' := 42) rfl (hb hby d_method_3_15) rfl (flt hc15_3).2.1 (by decide) (by decide) k_) ?_
        show Go pg.tables ev below (s₁.setTop (mkF mi 42 #[.val (.int c)] [])) P
        refine Go.st (fun t_ k_ => XS.iloadN X0.here hx rfl (hb hby d_method_3_42) rfl k_) ?_
        show Go pg.tables ev below (s₁.setTop (mkF mi 43 #[.val (.int c)] [(.int c)])) P
        refine Go.st (X0.ldcInt hx hown (mvT hZ (hw _ (List.mem_of_getElem? (i := 21) rfl))) (g := (mkF mi 43 #[.val (.int c)] [(.int c)])) rfl (hb hby d_method_3_43)) ?_
        show Go pg.tables ev below (s₁.setTop (mkF mi 45 #[.val (.int c)] [(.int (55296 : Int32)), (.int c)])) P
        by_cases hc45_6 : c < (55296 : Int32)
        · refine Go.st (fun t_ k_ => XS.icmpYes X0.here hx rfl (pc0 := 45) (pc' := 56) rfl (hb hby d_method_3_45) rfl (tlt hc45_6).1 (by decide) (by decide) k_) ?_
          show Go pg.tables ev below (s₁.setTop (mkF mi 56 #[.val (.int c)] [])) P
          refine Go.st (fun t_ k_ => XS.iloadN X0.here hx rfl (hb hby d_method_3_56) rfl k_) ?_
          show Go pg.tables ev below (s₁.setTop (mkF mi 57 #[.val (.int c)] [(.int c)])) P
          refine Go.st (X0.ldcInt hx hown (mvT hZ (hw _ (List.mem_of_getElem? (i := 22) rfl))) (g := (mkF mi 57 #[.val (.int c)] [(.int c)])) rfl (hb hby d_method_3_57)) ?_
          show Go pg.tables ev below (s₁.setTop (mkF mi 59 #[.val (.int c)] [(.int (65534 : Int32)), (.int c)])) P
          by_cases hc59_7 : c = (65534 : Int32)
          · refine Go.st (fun t_ k_ => XS.icmpYes X0.here hx rfl (pc0 := 59) (pc' := 68) rfl (hb hby d_method_3_59) rfl (teq hc59_7).1 (by decide) (by decide) k_) ?_
            show Go pg.tables ev below (s₁.setTop (mkF mi 68 #[.val (.int c)] [])) P
            refine Go.st (fun t_ k_ => XS.iconst X0.here hx rfl (hb hby d_method_3_68) k_) ?_
            show Go pg.tables ev below (s₁.setTop (mkF mi 69 #[.val (.int c)] [(.int (0 : Int32))])) P
            obtain ⟨fs, hr, hrun, hended, hW, hsame⟩ := X0.leave (v := some (.int (0 : Int32))) (fun h => by rw [Bd.returns] at h; cases h) (BodyLoose.notSynchronized Bd)
            refine ⟨_, _, ?_, hP _ _ ⟨hrun, hended, _, _, rfl, ?_, ⟨_, rfl⟩, hW, hsame.mono (by decide) (by decide)⟩⟩
            · exact retN X0 hx (t := .boolean) Bd.returns (by simp) (hb hby d_method_3_69) hr
            · show (some (.int (0 : Int32)) : Option Value) = some (.int (fR c)) ∧ Fr n0 _ ∧ s₁.heap = h0
              rw [e0]
              exact ⟨by rw [show fR c = (0 : Int32) from ((if_neg hc1_1).trans ((if_neg hc7_2).trans ((if_neg hc15_3).trans ((if_pos hc45_6).trans ((if_pos hc59_7).trans rfl)))))], N0, rfl⟩
          · refine Go.st (fun t_ k_ => XS.icmpNo X0.here hx rfl (hb hby d_method_3_59) rfl (feq hc59_7).1 k_) ?_
            show Go pg.tables ev below (s₁.setTop (mkF mi 62 #[.val (.int c)] [])) P
            refine Go.st (fun t_ k_ => XS.iloadN X0.here hx rfl (hb hby d_method_3_62) rfl k_) ?_
            show Go pg.tables ev below (s₁.setTop (mkF mi 63 #[.val (.int c)] [(.int c)])) P
            refine Go.st (X0.ldcInt hx hown (mvT hZ (hw _ (List.mem_of_getElem? (i := 7) rfl))) (g := (mkF mi 63 #[.val (.int c)] [(.int c)])) rfl (hb hby d_method_3_63)) ?_
            show Go pg.tables ev below (s₁.setTop (mkF mi 65 #[.val (.int c)] [(.int (65535 : Int32)), (.int c)])) P
            by_cases hc65_8 : c = (65535 : Int32)
            · refine Go.st (fun t_ k_ => XS.icmpNo X0.here hx rfl (hb hby d_method_3_65) rfl (teq hc65_8).2 k_) ?_
              show Go pg.tables ev below (s₁.setTop (mkF mi 68 #[.val (.int c)] [])) P
              refine Go.st (fun t_ k_ => XS.iconst X0.here hx rfl (hb hby d_method_3_68) k_) ?_
              show Go pg.tables ev below (s₁.setTop (mkF mi 69 #[.val (.int c)] [(.int (0 : Int32))])) P
              obtain ⟨fs, hr, hrun, hended, hW, hsame⟩ := X0.leave (v := some (.int (0 : Int32))) (fun h => by rw [Bd.returns] at h; cases h) (BodyLoose.notSynchronized Bd)
              refine ⟨_, _, ?_, hP _ _ ⟨hrun, hended, _, _, rfl, ?_, ⟨_, rfl⟩, hW, hsame.mono (by decide) (by decide)⟩⟩
              · exact retN X0 hx (t := .boolean) Bd.returns (by simp) (hb hby d_method_3_69) hr
              · show (some (.int (0 : Int32)) : Option Value) = some (.int (fR c)) ∧ Fr n0 _ ∧ s₁.heap = h0
                rw [e0]
                exact ⟨by rw [show fR c = (0 : Int32) from ((if_neg hc1_1).trans ((if_neg hc7_2).trans ((if_neg hc15_3).trans ((if_pos hc45_6).trans ((if_neg hc59_7).trans ((if_pos hc65_8).trans rfl))))))], N0, rfl⟩
            · refine Go.st (fun t_ k_ => XS.icmpYes X0.here hx rfl (pc0 := 65) (pc' := 70) rfl (hb hby d_method_3_65) rfl (feq hc65_8).2 (by decide) (by decide) k_) ?_
              show Go pg.tables ev below (s₁.setTop (mkF mi 70 #[.val (.int c)] [])) P
              refine Go.st (fun t_ k_ => XS.iconst X0.here hx rfl (hb hby d_method_3_70) k_) ?_
              show Go pg.tables ev below (s₁.setTop (mkF mi 71 #[.val (.int c)] [(.int (1 : Int32))])) P
              obtain ⟨fs, hr, hrun, hended, hW, hsame⟩ := X0.leave (v := some (.int (1 : Int32))) (fun h => by rw [Bd.returns] at h; cases h) (BodyLoose.notSynchronized Bd)
              refine ⟨_, _, ?_, hP _ _ ⟨hrun, hended, _, _, rfl, ?_, ⟨_, rfl⟩, hW, hsame.mono (by decide) (by decide)⟩⟩
              · exact retN X0 hx (t := .boolean) Bd.returns (by simp) (hb hby d_method_3_71) hr
              · show (some (.int (1 : Int32)) : Option Value) = some (.int (fR c)) ∧ Fr n0 _ ∧ s₁.heap = h0
                rw [e0]
                exact ⟨by rw [show fR c = (1 : Int32) from ((if_neg hc1_1).trans ((if_neg hc7_2).trans ((if_neg hc15_3).trans ((if_pos hc45_6).trans ((if_neg hc59_7).trans ((if_neg hc65_8).trans rfl))))))], N0, rfl⟩
        · refine Go.st (fun t_ k_ => XS.icmpNo X0.here hx rfl (hb hby d_method_3_45) rfl (flt hc45_6).1 k_) ?_
          show Go pg.tables ev below (s₁.setTop (mkF mi 48 #[.val (.int c)] [])) P
          refine Go.st (fun t_ k_ => XS.iloadN X0.here hx rfl (hb hby d_method_3_48) rfl k_) ?_
          show Go pg.tables ev below (s₁.setTop (mkF mi 49 #[.val (.int c)] [(.int c)])) P
          refine Go.st (X0.ldcInt hx hown (mvT hZ (hw _ (List.mem_of_getElem? (i := 6) rfl))) (g := (mkF mi 49 #[.val (.int c)] [(.int c)])) rfl (hb hby d_method_3_49)) ?_
          show Go pg.tables ev below (s₁.setTop (mkF mi 51 #[.val (.int c)] [(.int (57343 : Int32)), (.int c)])) P
          by_cases hc51_9 : (57343 : Int32) < c
          · refine Go.st (fun t_ k_ => XS.icmpYes X0.here hx rfl (pc0 := 51) (pc' := 56) rfl (hb hby d_method_3_51) rfl (tlt hc51_9).2.2.1 (by decide) (by decide) k_) ?_
            show Go pg.tables ev below (s₁.setTop (mkF mi 56 #[.val (.int c)] [])) P
            refine Go.st (fun t_ k_ => XS.iloadN X0.here hx rfl (hb hby d_method_3_56) rfl k_) ?_
            show Go pg.tables ev below (s₁.setTop (mkF mi 57 #[.val (.int c)] [(.int c)])) P
            refine Go.st (X0.ldcInt hx hown (mvT hZ (hw _ (List.mem_of_getElem? (i := 22) rfl))) (g := (mkF mi 57 #[.val (.int c)] [(.int c)])) rfl (hb hby d_method_3_57)) ?_
            show Go pg.tables ev below (s₁.setTop (mkF mi 59 #[.val (.int c)] [(.int (65534 : Int32)), (.int c)])) P
            by_cases hc59_10 : c = (65534 : Int32)
            · refine Go.st (fun t_ k_ => XS.icmpYes X0.here hx rfl (pc0 := 59) (pc' := 68) rfl (hb hby d_method_3_59) rfl (teq hc59_10).1 (by decide) (by decide) k_) ?_
              show Go pg.tables ev below (s₁.setTop (mkF mi 68 #[.val (.int c)] [])) P
              refine Go.st (fun t_ k_ => XS.iconst X0.here hx rfl (hb hby d_method_3_68) k_) ?_
              show Go pg.tables ev below (s₁.setTop (mkF mi 69 #[.val (.int c)] [(.int (0 : Int32))])) P
              obtain ⟨fs, hr, hrun, hended, hW, hsame⟩ := X0.leave (v := some (.int (0 : Int32))) (fun h => by rw [Bd.returns] at h; cases h) (BodyLoose.notSynchronized Bd)
              refine ⟨_, _, ?_, hP _ _ ⟨hrun, hended, _, _, rfl, ?_, ⟨_, rfl⟩, hW, hsame.mono (by decide) (by decide)⟩⟩
              · exact retN X0 hx (t := .boolean) Bd.returns (by simp) (hb hby d_method_3_69) hr
              · show (some (.int (0 : Int32)) : Option Value) = some (.int (fR c)) ∧ Fr n0 _ ∧ s₁.heap = h0
                rw [e0]
                exact ⟨by rw [show fR c = (0 : Int32) from ((if_neg hc1_1).trans ((if_neg hc7_2).trans ((if_neg hc15_3).trans ((if_neg hc45_6).trans ((if_pos hc51_9).trans ((if_pos hc59_10).trans rfl))))))], N0, rfl⟩
            · refine Go.st (fun t_ k_ => XS.icmpNo X0.here hx rfl (hb hby d_method_3_59) rfl (feq hc59_10).1 k_) ?_
              show Go pg.tables ev below (s₁.setTop (mkF mi 62 #[.val (.int c)] [])) P
              refine Go.st (fun t_ k_ => XS.iloadN X0.here hx rfl (hb hby d_method_3_62) rfl k_) ?_
              show Go pg.tables ev below (s₁.setTop (mkF mi 63 #[.val (.int c)] [(.int c)])) P
              refine Go.st (X0.ldcInt hx hown (mvT hZ (hw _ (List.mem_of_getElem? (i := 7) rfl))) (g := (mkF mi 63 #[.val (.int c)] [(.int c)])) rfl (hb hby d_method_3_63)) ?_
              show Go pg.tables ev below (s₁.setTop (mkF mi 65 #[.val (.int c)] [(.int (65535 : Int32)), (.int c)])) P
              by_cases hc65_11 : c = (65535 : Int32)
              · refine Go.st (fun t_ k_ => XS.icmpNo X0.here hx rfl (hb hby d_method_3_65) rfl (teq hc65_11).2 k_) ?_
                show Go pg.tables ev below (s₁.setTop (mkF mi 68 #[.val (.int c)] [])) P
                refine Go.st (fun t_ k_ => XS.iconst X0.here hx rfl (hb hby d_method_3_68) k_) ?_
                show Go pg.tables ev below (s₁.setTop (mkF mi 69 #[.val (.int c)] [(.int (0 : Int32))])) P
                obtain ⟨fs, hr, hrun, hended, hW, hsame⟩ := X0.leave (v := some (.int (0 : Int32))) (fun h => by rw [Bd.returns] at h; cases h) (BodyLoose.notSynchronized Bd)
                refine ⟨_, _, ?_, hP _ _ ⟨hrun, hended, _, _, rfl, ?_, ⟨_, rfl⟩, hW, hsame.mono (by decide) (by decide)⟩⟩
                · exact retN X0 hx (t := .boolean) Bd.returns (by simp) (hb hby d_method_3_69) hr
                · show (some (.int (0 : Int32)) : Option Value) = some (.int (fR c)) ∧ Fr n0 _ ∧ s₁.heap = h0
                  rw [e0]
                  exact ⟨by rw [show fR c = (0 : Int32) from ((if_neg hc1_1).trans ((if_neg hc7_2).trans ((if_neg hc15_3).trans ((if_neg hc45_6).trans ((if_pos hc51_9).trans ((if_neg hc59_10).trans ((if_pos hc65_11).trans rfl)))))))], N0, rfl⟩
              · refine Go.st (fun t_ k_ => XS.icmpYes X0.here hx rfl (pc0 := 65) (pc' := 70) rfl (hb hby d_method_3_65) rfl (feq hc65_11).2 (by decide) (by decide) k_) ?_
                show Go pg.tables ev below (s₁.setTop (mkF mi 70 #[.val (.int c)] [])) P
                refine Go.st (fun t_ k_ => XS.iconst X0.here hx rfl (hb hby d_method_3_70) k_) ?_
                show Go pg.tables ev below (s₁.setTop (mkF mi 71 #[.val (.int c)] [(.int (1 : Int32))])) P
                obtain ⟨fs, hr, hrun, hended, hW, hsame⟩ := X0.leave (v := some (.int (1 : Int32))) (fun h => by rw [Bd.returns] at h; cases h) (BodyLoose.notSynchronized Bd)
                refine ⟨_, _, ?_, hP _ _ ⟨hrun, hended, _, _, rfl, ?_, ⟨_, rfl⟩, hW, hsame.mono (by decide) (by decide)⟩⟩
                · exact retN X0 hx (t := .boolean) Bd.returns (by simp) (hb hby d_method_3_71) hr
                · show (some (.int (1 : Int32)) : Option Value) = some (.int (fR c)) ∧ Fr n0 _ ∧ s₁.heap = h0
                  rw [e0]
                  exact ⟨by rw [show fR c = (1 : Int32) from ((if_neg hc1_1).trans ((if_neg hc7_2).trans ((if_neg hc15_3).trans ((if_neg hc45_6).trans ((if_pos hc51_9).trans ((if_neg hc59_10).trans ((if_neg hc65_11).trans rfl)))))))], N0, rfl⟩
          · refine Go.st (fun t_ k_ => XS.icmpNo X0.here hx rfl (hb hby d_method_3_51) rfl (flt hc51_9).2.2.1 k_) ?_
            show Go pg.tables ev below (s₁.setTop (mkF mi 54 #[.val (.int c)] [])) P
            refine Go.st (fun t_ k_ => XS.iconst X0.here hx rfl (hb hby d_method_3_54) k_) ?_
            show Go pg.tables ev below (s₁.setTop (mkF mi 55 #[.val (.int c)] [(.int (0 : Int32))])) P
            obtain ⟨fs, hr, hrun, hended, hW, hsame⟩ := X0.leave (v := some (.int (0 : Int32))) (fun h => by rw [Bd.returns] at h; cases h) (BodyLoose.notSynchronized Bd)
            refine ⟨_, _, ?_, hP _ _ ⟨hrun, hended, _, _, rfl, ?_, ⟨_, rfl⟩, hW, hsame.mono (by decide) (by decide)⟩⟩
            · exact retN X0 hx (t := .boolean) Bd.returns (by simp) (hb hby d_method_3_55) hr
            · show (some (.int (0 : Int32)) : Option Value) = some (.int (fR c)) ∧ Fr n0 _ ∧ s₁.heap = h0
              rw [e0]
              exact ⟨by rw [show fR c = (0 : Int32) from ((if_neg hc1_1).trans ((if_neg hc7_2).trans ((if_neg hc15_3).trans ((if_neg hc45_6).trans ((if_neg hc51_9).trans rfl)))))], N0, rfl⟩
set_option maxHeartbeats 4000000 in
theorem own_law (c : Int32) : fC c = fR c := by
  have l0 : (0 : Int32).toInt = 0 := rfl
  have l9 : (9 : Int32).toInt = 9 := rfl
  have l10 : (10 : Int32).toInt = 10 := rfl
  have l13 : (13 : Int32).toInt = 13 := rfl
  have l32 : (32 : Int32).toInt = 32 := rfl
  have l55295 : (55295 : Int32).toInt = 55295 := rfl
  have l57344 : (57344 : Int32).toInt = 57344 := rfl
  have l65533 : (65533 : Int32).toInt = 65533 := rfl
  have l65536 : (65536 : Int32).toInt = 65536 := rfl
  have l1114111 : (1114111 : Int32).toInt = 1114111 := rfl
  have l55296 : (55296 : Int32).toInt = 55296 := rfl
  have l57343 : (57343 : Int32).toInt = 57343 := rfl
  have l65534 : (65534 : Int32).toInt = 65534 := rfl
  have l65535 : (65535 : Int32).toInt = 65535 := rfl
  unfold fC fR
  simp only [Int32.lt_iff_toInt_lt, ← Int32.toInt_inj, l0, l9, l10, l13, l32, l55295, l57344, l65533, l65536, l1114111, l55296, l57343, l65534, l65535]
  repeat' split
  all_goals first | rfl | (exfalso; omega)
theorem own_in (k : Int32) : ¬ (k &&& (15 : Int32)) < 0 ∧ (k &&& (15 : Int32)) < (16 : Int32) := by
  have e := c_mask k 15 4 (by decide) (by decide)
  have l0 : (0 : Int32).toInt = 0 := rfl
  have l1 : (16 : Int32).toInt = 16 := rfl
  simp only [Int32.lt_iff_toInt_lt]; omega
theorem own_fit {v : Value} (h : fits .int v = true) : ∃ z, v = .int z := by cases v <;> simp [fits] at h ⊢
theorem pd_0 : parseMethodDescriptor "(I)Z" = some ⟨[.int], some .boolean⟩ := by decide +kernel
theorem ef_rm0 (mi : MethodId) (c0 : Int32) (k : Int32) : entryFrame mi #[(.int c0), (.int k)] maxLocals = mkF mi 0 #[.val (.int c0), .val (.int k), .unset, .unset, .unset, .unset] [] := by first | (simp [entryFrame, mkF, argsToLocals, Value.category, maxLocals]; done) | rfl
def Q_rm0 (Z : State) (c0 : Int32) (k : Int32) (h0 : Heap) (n0 : Nat) (vv_ : Option Value) (hh_ : Heap) (LL_ : List Loc) : Prop := vv_ = some (.int 1) ∧ Fr n0 LL_
set_option maxRecDepth 65536 in
set_option maxHeartbeats 40000000 in
theorem rm0 (l : Launch) (Z : State) (a0 : Array Value) (hw : ∀ d ∈ tables_1, d.before a0 Z = true) (ws : List Jvm.Cond) (c0 : Int32) (k : Int32) (h0 : Heap) (n0 : Nat) (Z0 : n0 ≤ h0.size) :
    MetFree l x (head1 (Jvm.Cond.code x code maxLocals ret :: ws) room_1) (fun aa_ U => aa_ = #[(.int c0), (.int k)] ∧ Z.Warmed39 U.vm ∧ U.heap = h0) (fun _ _ _ _ _ => True) (fun _ U oo_ UV_ => ∃ vv_ LL_, oo_ = .returned vv_ ∧ Q_rm0 Z c0 k h0 n0 vv_ UV_.heap LL_ ∧ FrameEnd U oo_ UV_ LL_ room_1.cells room_1.slots) := by
  refine MetFree.of_bodySF (plainFor_of_name pn_1) hisR ?_
  intro pg ev si mi args below meth ci s₁ Bd hml0 hP0 hK
  obtain ⟨rfl, hZ, hh⟩ := hP0
  have hx := Bd.exec
  have hby := Bd.bytes
  have hml : ci.maxLocals = 6 := hml0
  have hown : si.vm.findClass "com/example/hedge/hedge/xml/XmlNamesIsCharPinLaw" = some mi.cls := findClass_of_methodNamed Bd.named
  have hnm := (name_of_methodNamed Bd.named Bd.method).1
  have X0 : Stand pg l ev room_1 si mi #[(.int c0), (.int k)] below meth ci s₁ [] 0 0 := Stand.of_body Bd
  have e0 : s₁.heap = h0 := by rw [← hh, Bd.state]; rfl
  have N0 := Fr.nil n0
  refine Go.start (fun P hP => ?_)
  refine Go.st (fun t_ k_ => castTop (ef_rm0 mi c0 k) k_) (A := s₁.setTop (mkF mi 0 #[.val (.int c0), .val (.int k), .unset, .unset, .unset, .unset] [])) ?_
  show Go pg.tables ev below (s₁.setTop (mkF mi 0 #[.val (.int c0), .val (.int k), .unset, .unset, .unset, .unset] [])) P
  refine Go.st (fun t_ k_ => XS.bipush X0.here hx rfl (hb hby at_0) k_) ?_
  show Go pg.tables ev below (s₁.setTop (mkF mi 2 #[.val (.int c0), .val (.int k), .unset, .unset, .unset, .unset] [(.int (16 : Int32))])) P
  obtain ⟨T1, h1, k1, X1, e1, E1, A1, st1⟩ := newP X0 hx hZ (hw _ (List.mem_of_getElem? (i := 0) rfl)) e0 (g := (mkF mi 2 #[.val (.int c0), .val (.int k), .unset, .unset, .unset, .unset] [(.int (16 : Int32))])) rfl (hb hby at_2) rfl (by decide) (cap := 16) (by decide) (by decide) (by decide) (by decide)
  obtain ⟨b1, g1⟩ : ∃ z, z = h0.size := ⟨_, rfl⟩
  rw [← g1] at A1 st1
  have Zs2 : n0 ≤ h1.size := Nat.le_trans Z0 E1.1
  have g_b1 : n0 ≤ b1 := Nat.le_trans Z0 (Nat.le_of_eq g1.symm)
  have V1 : Arv Z h1 b1 k1 .int (16 : Int32) [(.int (0 : Int32)), (.int (0 : Int32)), (.int (0 : Int32)), (.int (0 : Int32)), (.int (0 : Int32)), (.int (0 : Int32)), (.int (0 : Int32)), (.int (0 : Int32)), (.int (0 : Int32)), (.int (0 : Int32)), (.int (0 : Int32)), (.int (0 : Int32)), (.int (0 : Int32)), (.int (0 : Int32)), (.int (0 : Int32)), (.int (0 : Int32))] (.int (0 : Int32)) := (Arv.new A1 (by decide)).pad (pad_rep [] (.int (0 : Int32)) 16)
  refine Go.st st1 ?_
  show Go pg.tables ev below (T1.setTop (mkF mi 4 #[.val (.int c0), .val (.int k), .unset, .unset, .unset, .unset] [(.ref b1)])) P
  refine Go.st (fun t_ k_ => XS.dup X1.here hx rfl (hb hby at_4) rfl rfl k_) ?_
  show Go pg.tables ev below (T1.setTop (mkF mi 5 #[.val (.int c0), .val (.int k), .unset, .unset, .unset, .unset] [(.ref b1), (.ref b1)])) P
  refine Go.st (fun t_ k_ => XS.iconst X1.here hx rfl (hb hby at_5) k_) ?_
  show Go pg.tables ev below (T1.setTop (mkF mi 6 #[.val (.int c0), .val (.int k), .unset, .unset, .unset, .unset] [(.int (0 : Int32)), (.ref b1), (.ref b1)])) P
  refine Go.st (fun t_ k_ => XS.bipush X1.here hx rfl (hb hby at_6) k_) ?_
  show Go pg.tables ev below (T1.setTop (mkF mi 8 #[.val (.int c0), .val (.int k), .unset, .unset, .unset, .unset] [(.int (9 : Int32)), (.int (0 : Int32)), (.ref b1), (.ref b1)])) P
  have ov3 := V1
  obtain ⟨cl3, Ar3, q3, S3, M3, H3, G3⟩ := ov3
  have hin3 : ¬ ((0 : Int32) < 0 ∨ cl3.slots.size ≤ ((0 : Int32)).toNatClampNeg) := inb_of S3 ⟨by decide, by decide⟩
  obtain ⟨T4, h4, X4, e4, W4, st4⟩ := stI X1 hx hZ e1 Ar3 (j := (0 : Int32)) hin3 (g := (mkF mi 8 #[.val (.int c0), .val (.int k), .unset, .unset, .unset, .unset] [(.int (9 : Int32)), (.int (0 : Int32)), (.ref b1), (.ref b1)])) rfl rfl (hb hby at_8)
  have Zs5 : n0 ≤ h4.size := Nat.le_trans Zs2 (Keep.of_wr W4).1
  have N5 := Fr.snoc X4 N0 g_b1
  have V4 : Arv Z h4 b1 k1 .int (16 : Int32) [(.int (9 : Int32)), (.int (0 : Int32)), (.int (0 : Int32)), (.int (0 : Int32)), (.int (0 : Int32)), (.int (0 : Int32)), (.int (0 : Int32)), (.int (0 : Int32)), (.int (0 : Int32)), (.int (0 : Int32)), (.int (0 : Int32)), (.int (0 : Int32)), (.int (0 : Int32)), (.int (0 : Int32)), (.int (0 : Int32)), (.int (0 : Int32))] (.int (0 : Int32)) := Arv.set Ar3 q3 S3 M3 H3 G3 rfl W4 0 rfl (Nat.le_of_ble_eq_true rfl)
  refine Go.st st4 ?_
  show Go pg.tables ev below (T4.setTop (mkF mi 9 #[.val (.int c0), .val (.int k), .unset, .unset, .unset, .unset] [(.ref b1)])) P
  refine Go.st (fun t_ k_ => XS.dup X4.here hx rfl (hb hby at_9) rfl rfl k_) ?_
  show Go pg.tables ev below (T4.setTop (mkF mi 10 #[.val (.int c0), .val (.int k), .unset, .unset, .unset, .unset] [(.ref b1), (.ref b1)])) P
  refine Go.st (fun t_ k_ => XS.iconst X4.here hx rfl (hb hby at_10) k_) ?_
  show Go pg.tables ev below (T4.setTop (mkF mi 11 #[.val (.int c0), .val (.int k), .unset, .unset, .unset, .unset] [(.int (1 : Int32)), (.ref b1), (.ref b1)])) P
  refine Go.st (fun t_ k_ => XS.bipush X4.here hx rfl (hb hby at_11) k_) ?_
  show Go pg.tables ev below (T4.setTop (mkF mi 13 #[.val (.int c0), .val (.int k), .unset, .unset, .unset, .unset] [(.int (10 : Int32)), (.int (1 : Int32)), (.ref b1), (.ref b1)])) P
  have ov6 := V4
  obtain ⟨cl6, Ar6, q6, S6, M6, H6, G6⟩ := ov6
  have hin6 : ¬ ((1 : Int32) < 0 ∨ cl6.slots.size ≤ ((1 : Int32)).toNatClampNeg) := inb_of S6 ⟨by decide, by decide⟩
  obtain ⟨T7, h7, X7, e7, W7, st7⟩ := stI X4 hx hZ e4 Ar6 (j := (1 : Int32)) hin6 (g := (mkF mi 13 #[.val (.int c0), .val (.int k), .unset, .unset, .unset, .unset] [(.int (10 : Int32)), (.int (1 : Int32)), (.ref b1), (.ref b1)])) rfl rfl (hb hby at_13)
  have Zs8 : n0 ≤ h7.size := Nat.le_trans Zs5 (Keep.of_wr W7).1
  have N8 := Fr.snoc X7 N5 g_b1
  have V7 : Arv Z h7 b1 k1 .int (16 : Int32) [(.int (9 : Int32)), (.int (10 : Int32)), (.int (0 : Int32)), (.int (0 : Int32)), (.int (0 : Int32)), (.int (0 : Int32)), (.int (0 : Int32)), (.int (0 : Int32)), (.int (0 : Int32)), (.int (0 : Int32)), (.int (0 : Int32)), (.int (0 : Int32)), (.int (0 : Int32)), (.int (0 : Int32)), (.int (0 : Int32)), (.int (0 : Int32))] (.int (0 : Int32)) := Arv.set Ar6 q6 S6 M6 H6 G6 rfl W7 1 rfl (Nat.le_of_ble_eq_true rfl)
  refine Go.st st7 ?_
  show Go pg.tables ev below (T7.setTop (mkF mi 14 #[.val (.int c0), .val (.int k), .unset, .unset, .unset, .unset] [(.ref b1)])) P
  refine Go.st (fun t_ k_ => XS.dup X7.here hx rfl (hb hby at_14) rfl rfl k_) ?_
  show Go pg.tables ev below (T7.setTop (mkF mi 15 #[.val (.int c0), .val (.int k), .unset, .unset, .unset, .unset] [(.ref b1), (.ref b1)])) P
  refine Go.st (fun t_ k_ => XS.iconst X7.here hx rfl (hb hby at_15) k_) ?_
  show Go pg.tables ev below (T7.setTop (mkF mi 16 #[.val (.int c0), .val (.int k), .unset, .unset, .unset, .unset] [(.int (2 : Int32)), (.ref b1), (.ref b1)])) P
  refine Go.st (fun t_ k_ => XS.bipush X7.here hx rfl (hb hby at_16) k_) ?_
  show Go pg.tables ev below (T7.setTop (mkF mi 18 #[.val (.int c0), .val (.int k), .unset, .unset, .unset, .unset] [(.int (13 : Int32)), (.int (2 : Int32)), (.ref b1), (.ref b1)])) P
  have ov9 := V7
  obtain ⟨cl9, Ar9, q9, S9, M9, H9, G9⟩ := ov9
  have hin9 : ¬ ((2 : Int32) < 0 ∨ cl9.slots.size ≤ ((2 : Int32)).toNatClampNeg) := inb_of S9 ⟨by decide, by decide⟩
  obtain ⟨T10, h10, X10, e10, W10, st10⟩ := stI X7 hx hZ e7 Ar9 (j := (2 : Int32)) hin9 (g := (mkF mi 18 #[.val (.int c0), .val (.int k), .unset, .unset, .unset, .unset] [(.int (13 : Int32)), (.int (2 : Int32)), (.ref b1), (.ref b1)])) rfl rfl (hb hby at_18)
  have Zs11 : n0 ≤ h10.size := Nat.le_trans Zs8 (Keep.of_wr W10).1
  have N11 := Fr.snoc X10 N8 g_b1
  have V10 : Arv Z h10 b1 k1 .int (16 : Int32) [(.int (9 : Int32)), (.int (10 : Int32)), (.int (13 : Int32)), (.int (0 : Int32)), (.int (0 : Int32)), (.int (0 : Int32)), (.int (0 : Int32)), (.int (0 : Int32)), (.int (0 : Int32)), (.int (0 : Int32)), (.int (0 : Int32)), (.int (0 : Int32)), (.int (0 : Int32)), (.int (0 : Int32)), (.int (0 : Int32)), (.int (0 : Int32))] (.int (0 : Int32)) := Arv.set Ar9 q9 S9 M9 H9 G9 rfl W10 2 rfl (Nat.le_of_ble_eq_true rfl)
  refine Go.st st10 ?_
  show Go pg.tables ev below (T10.setTop (mkF mi 19 #[.val (.int c0), .val (.int k), .unset, .unset, .unset, .unset] [(.ref b1)])) P
  refine Go.st (fun t_ k_ => XS.dup X10.here hx rfl (hb hby at_19) rfl rfl k_) ?_
  show Go pg.tables ev below (T10.setTop (mkF mi 20 #[.val (.int c0), .val (.int k), .unset, .unset, .unset, .unset] [(.ref b1), (.ref b1)])) P
  refine Go.st (fun t_ k_ => XS.iconst X10.here hx rfl (hb hby at_20) k_) ?_
  show Go pg.tables ev below (T10.setTop (mkF mi 21 #[.val (.int c0), .val (.int k), .unset, .unset, .unset, .unset] [(.int (3 : Int32)), (.ref b1), (.ref b1)])) P
  refine Go.st (fun t_ k_ => XS.bipush X10.here hx rfl (hb hby at_21) k_) ?_
  show Go pg.tables ev below (T10.setTop (mkF mi 23 #[.val (.int c0), .val (.int k), .unset, .unset, .unset, .unset] [(.int (32 : Int32)), (.int (3 : Int32)), (.ref b1), (.ref b1)])) P
  have ov12 := V10
  obtain ⟨cl12, Ar12, q12, S12, M12, H12, G12⟩ := ov12
  have hin12 : ¬ ((3 : Int32) < 0 ∨ cl12.slots.size ≤ ((3 : Int32)).toNatClampNeg) := inb_of S12 ⟨by decide, by decide⟩
  obtain ⟨T13, h13, X13, e13, W13, st13⟩ := stI X10 hx hZ e10 Ar12 (j := (3 : Int32)) hin12 (g := (mkF mi 23 #[.val (.int c0), .val (.int k), .unset, .unset, .unset, .unset] [(.int (32 : Int32)), (.int (3 : Int32)), (.ref b1), (.ref b1)])) rfl rfl (hb hby at_23)
  have Zs14 : n0 ≤ h13.size := Nat.le_trans Zs11 (Keep.of_wr W13).1
  have N14 := Fr.snoc X13 N11 g_b1
  have V13 : Arv Z h13 b1 k1 .int (16 : Int32) [(.int (9 : Int32)), (.int (10 : Int32)), (.int (13 : Int32)), (.int (32 : Int32)), (.int (0 : Int32)), (.int (0 : Int32)), (.int (0 : Int32)), (.int (0 : Int32)), (.int (0 : Int32)), (.int (0 : Int32)), (.int (0 : Int32)), (.int (0 : Int32)), (.int (0 : Int32)), (.int (0 : Int32)), (.int (0 : Int32)), (.int (0 : Int32))] (.int (0 : Int32)) := Arv.set Ar12 q12 S12 M12 H12 G12 rfl W13 3 rfl (Nat.le_of_ble_eq_true rfl)
  refine Go.st st13 ?_
  show Go pg.tables ev below (T13.setTop (mkF mi 24 #[.val (.int c0), .val (.int k), .unset, .unset, .unset, .unset] [(.ref b1)])) P
  refine Go.st (fun t_ k_ => XS.dup X13.here hx rfl (hb hby at_24) rfl rfl k_) ?_
  show Go pg.tables ev below (T13.setTop (mkF mi 25 #[.val (.int c0), .val (.int k), .unset, .unset, .unset, .unset] [(.ref b1), (.ref b1)])) P
  refine Go.st (fun t_ k_ => XS.iconst X13.here hx rfl (hb hby at_25) k_) ?_
  show Go pg.tables ev below (T13.setTop (mkF mi 26 #[.val (.int c0), .val (.int k), .unset, .unset, .unset, .unset] [(.int (4 : Int32)), (.ref b1), (.ref b1)])) P
  refine Go.st (X13.ldcInt hx hown (mvT hZ (hw _ (List.mem_of_getElem? (i := 1) rfl))) (g := (mkF mi 26 #[.val (.int c0), .val (.int k), .unset, .unset, .unset, .unset] [(.int (4 : Int32)), (.ref b1), (.ref b1)])) rfl (hb hby at_26)) ?_
  show Go pg.tables ev below (T13.setTop (mkF mi 28 #[.val (.int c0), .val (.int k), .unset, .unset, .unset, .unset] [(.int (55295 : Int32)), (.int (4 : Int32)), (.ref b1), (.ref b1)])) P
  have ov15 := V13
  obtain ⟨cl15, Ar15, q15, S15, M15, H15, G15⟩ := ov15
  have hin15 : ¬ ((4 : Int32) < 0 ∨ cl15.slots.size ≤ ((4 : Int32)).toNatClampNeg) := inb_of S15 ⟨by decide, by decide⟩
  obtain ⟨T16, h16, X16, e16, W16, st16⟩ := stI X13 hx hZ e13 Ar15 (j := (4 : Int32)) hin15 (g := (mkF mi 28 #[.val (.int c0), .val (.int k), .unset, .unset, .unset, .unset] [(.int (55295 : Int32)), (.int (4 : Int32)), (.ref b1), (.ref b1)])) rfl rfl (hb hby at_28)
  have Zs17 : n0 ≤ h16.size := Nat.le_trans Zs14 (Keep.of_wr W16).1
  have N17 := Fr.snoc X16 N14 g_b1
  have V16 : Arv Z h16 b1 k1 .int (16 : Int32) [(.int (9 : Int32)), (.int (10 : Int32)), (.int (13 : Int32)), (.int (32 : Int32)), (.int (55295 : Int32)), (.int (0 : Int32)), (.int (0 : Int32)), (.int (0 : Int32)), (.int (0 : Int32)), (.int (0 : Int32)), (.int (0 : Int32)), (.int (0 : Int32)), (.int (0 : Int32)), (.int (0 : Int32)), (.int (0 : Int32)), (.int (0 : Int32))] (.int (0 : Int32)) := Arv.set Ar15 q15 S15 M15 H15 G15 rfl W16 4 rfl (Nat.le_of_ble_eq_true rfl)
  refine Go.st st16 ?_
  show Go pg.tables ev below (T16.setTop (mkF mi 29 #[.val (.int c0), .val (.int k), .unset, .unset, .unset, .unset] [(.ref b1)])) P
  refine Go.st (fun t_ k_ => XS.dup X16.here hx rfl (hb hby at_29) rfl rfl k_) ?_
  show Go pg.tables ev below (T16.setTop (mkF mi 30 #[.val (.int c0), .val (.int k), .unset, .unset, .unset, .unset] [(.ref b1), (.ref b1)])) P
  refine Go.st (fun t_ k_ => XS.iconst X16.here hx rfl (hb hby at_30) k_) ?_
  show Go pg.tables ev below (T16.setTop (mkF mi 31 #[.val (.int c0), .val (.int k), .unset, .unset, .unset, .unset] [(.int (5 : Int32)), (.ref b1), (.ref b1)])) P
  refine Go.st (X16.ldcInt hx hown (mvT hZ (hw _ (List.mem_of_getElem? (i := 2) rfl))) (g := (mkF mi 31 #[.val (.int c0), .val (.int k), .unset, .unset, .unset, .unset] [(.int (5 : Int32)), (.ref b1), (.ref b1)])) rfl (hb hby at_31)) ?_
  show Go pg.tables ev below (T16.setTop (mkF mi 33 #[.val (.int c0), .val (.int k), .unset, .unset, .unset, .unset] [(.int (57344 : Int32)), (.int (5 : Int32)), (.ref b1), (.ref b1)])) P
  have ov18 := V16
  obtain ⟨cl18, Ar18, q18, S18, M18, H18, G18⟩ := ov18
  have hin18 : ¬ ((5 : Int32) < 0 ∨ cl18.slots.size ≤ ((5 : Int32)).toNatClampNeg) := inb_of S18 ⟨by decide, by decide⟩
  obtain ⟨T19, h19, X19, e19, W19, st19⟩ := stI X16 hx hZ e16 Ar18 (j := (5 : Int32)) hin18 (g := (mkF mi 33 #[.val (.int c0), .val (.int k), .unset, .unset, .unset, .unset] [(.int (57344 : Int32)), (.int (5 : Int32)), (.ref b1), (.ref b1)])) rfl rfl (hb hby at_33)
  have Zs20 : n0 ≤ h19.size := Nat.le_trans Zs17 (Keep.of_wr W19).1
  have N20 := Fr.snoc X19 N17 g_b1
  have V19 : Arv Z h19 b1 k1 .int (16 : Int32) [(.int (9 : Int32)), (.int (10 : Int32)), (.int (13 : Int32)), (.int (32 : Int32)), (.int (55295 : Int32)), (.int (57344 : Int32)), (.int (0 : Int32)), (.int (0 : Int32)), (.int (0 : Int32)), (.int (0 : Int32)), (.int (0 : Int32)), (.int (0 : Int32)), (.int (0 : Int32)), (.int (0 : Int32)), (.int (0 : Int32)), (.int (0 : Int32))] (.int (0 : Int32)) := Arv.set Ar18 q18 S18 M18 H18 G18 rfl W19 5 rfl (Nat.le_of_ble_eq_true rfl)
  refine Go.st st19 ?_
  show Go pg.tables ev below (T19.setTop (mkF mi 34 #[.val (.int c0), .val (.int k), .unset, .unset, .unset, .unset] [(.ref b1)])) P
  refine Go.st (fun t_ k_ => XS.dup X19.here hx rfl (hb hby at_34) rfl rfl k_) ?_
  show Go pg.tables ev below (T19.setTop (mkF mi 35 #[.val (.int c0), .val (.int k), .unset, .unset, .unset, .unset] [(.ref b1), (.ref b1)])) P
  refine Go.st (fun t_ k_ => XS.bipush X19.here hx rfl (hb hby at_35) k_) ?_
  show Go pg.tables ev below (T19.setTop (mkF mi 37 #[.val (.int c0), .val (.int k), .unset, .unset, .unset, .unset] [(.int (6 : Int32)), (.ref b1), (.ref b1)])) P
  refine Go.st (X19.ldcInt hx hown (mvT hZ (hw _ (List.mem_of_getElem? (i := 3) rfl))) (g := (mkF mi 37 #[.val (.int c0), .val (.int k), .unset, .unset, .unset, .unset] [(.int (6 : Int32)), (.ref b1), (.ref b1)])) rfl (hb hby at_37)) ?_
  show Go pg.tables ev below (T19.setTop (mkF mi 39 #[.val (.int c0), .val (.int k), .unset, .unset, .unset, .unset] [(.int (65533 : Int32)), (.int (6 : Int32)), (.ref b1), (.ref b1)])) P
  have ov21 := V19
  obtain ⟨cl21, Ar21, q21, S21, M21, H21, G21⟩ := ov21
  have hin21 : ¬ ((6 : Int32) < 0 ∨ cl21.slots.size ≤ ((6 : Int32)).toNatClampNeg) := inb_of S21 ⟨by decide, by decide⟩
  obtain ⟨T22, h22, X22, e22, W22, st22⟩ := stI X19 hx hZ e19 Ar21 (j := (6 : Int32)) hin21 (g := (mkF mi 39 #[.val (.int c0), .val (.int k), .unset, .unset, .unset, .unset] [(.int (65533 : Int32)), (.int (6 : Int32)), (.ref b1), (.ref b1)])) rfl rfl (hb hby at_39)
  have Zs23 : n0 ≤ h22.size := Nat.le_trans Zs20 (Keep.of_wr W22).1
  have N23 := Fr.snoc X22 N20 g_b1
  have V22 : Arv Z h22 b1 k1 .int (16 : Int32) [(.int (9 : Int32)), (.int (10 : Int32)), (.int (13 : Int32)), (.int (32 : Int32)), (.int (55295 : Int32)), (.int (57344 : Int32)), (.int (65533 : Int32)), (.int (0 : Int32)), (.int (0 : Int32)), (.int (0 : Int32)), (.int (0 : Int32)), (.int (0 : Int32)), (.int (0 : Int32)), (.int (0 : Int32)), (.int (0 : Int32)), (.int (0 : Int32))] (.int (0 : Int32)) := Arv.set Ar21 q21 S21 M21 H21 G21 rfl W22 6 rfl (Nat.le_of_ble_eq_true rfl)
  refine Go.st st22 ?_
  show Go pg.tables ev below (T22.setTop (mkF mi 40 #[.val (.int c0), .val (.int k), .unset, .unset, .unset, .unset] [(.ref b1)])) P
  refine Go.st (fun t_ k_ => XS.dup X22.here hx rfl (hb hby at_40) rfl rfl k_) ?_
  show Go pg.tables ev below (T22.setTop (mkF mi 41 #[.val (.int c0), .val (.int k), .unset, .unset, .unset, .unset] [(.ref b1), (.ref b1)])) P
  refine Go.st (fun t_ k_ => XS.bipush X22.here hx rfl (hb hby at_41) k_) ?_
  show Go pg.tables ev below (T22.setTop (mkF mi 43 #[.val (.int c0), .val (.int k), .unset, .unset, .unset, .unset] [(.int (7 : Int32)), (.ref b1), (.ref b1)])) P
  refine Go.st (X22.ldcInt hx hown (mvT hZ (hw _ (List.mem_of_getElem? (i := 4) rfl))) (g := (mkF mi 43 #[.val (.int c0), .val (.int k), .unset, .unset, .unset, .unset] [(.int (7 : Int32)), (.ref b1), (.ref b1)])) rfl (hb hby at_43)) ?_
  show Go pg.tables ev below (T22.setTop (mkF mi 45 #[.val (.int c0), .val (.int k), .unset, .unset, .unset, .unset] [(.int (65536 : Int32)), (.int (7 : Int32)), (.ref b1), (.ref b1)])) P
  have ov24 := V22
  obtain ⟨cl24, Ar24, q24, S24, M24, H24, G24⟩ := ov24
  have hin24 : ¬ ((7 : Int32) < 0 ∨ cl24.slots.size ≤ ((7 : Int32)).toNatClampNeg) := inb_of S24 ⟨by decide, by decide⟩
  obtain ⟨T25, h25, X25, e25, W25, st25⟩ := stI X22 hx hZ e22 Ar24 (j := (7 : Int32)) hin24 (g := (mkF mi 45 #[.val (.int c0), .val (.int k), .unset, .unset, .unset, .unset] [(.int (65536 : Int32)), (.int (7 : Int32)), (.ref b1), (.ref b1)])) rfl rfl (hb hby at_45)
  have Zs26 : n0 ≤ h25.size := Nat.le_trans Zs23 (Keep.of_wr W25).1
  have N26 := Fr.snoc X25 N23 g_b1
  have V25 : Arv Z h25 b1 k1 .int (16 : Int32) [(.int (9 : Int32)), (.int (10 : Int32)), (.int (13 : Int32)), (.int (32 : Int32)), (.int (55295 : Int32)), (.int (57344 : Int32)), (.int (65533 : Int32)), (.int (65536 : Int32)), (.int (0 : Int32)), (.int (0 : Int32)), (.int (0 : Int32)), (.int (0 : Int32)), (.int (0 : Int32)), (.int (0 : Int32)), (.int (0 : Int32)), (.int (0 : Int32))] (.int (0 : Int32)) := Arv.set Ar24 q24 S24 M24 H24 G24 rfl W25 7 rfl (Nat.le_of_ble_eq_true rfl)
  refine Go.st st25 ?_
  show Go pg.tables ev below (T25.setTop (mkF mi 46 #[.val (.int c0), .val (.int k), .unset, .unset, .unset, .unset] [(.ref b1)])) P
  refine Go.st (fun t_ k_ => XS.dup X25.here hx rfl (hb hby at_46) rfl rfl k_) ?_
  show Go pg.tables ev below (T25.setTop (mkF mi 47 #[.val (.int c0), .val (.int k), .unset, .unset, .unset, .unset] [(.ref b1), (.ref b1)])) P
  refine Go.st (fun t_ k_ => XS.bipush X25.here hx rfl (hb hby at_47) k_) ?_
  show Go pg.tables ev below (T25.setTop (mkF mi 49 #[.val (.int c0), .val (.int k), .unset, .unset, .unset, .unset] [(.int (8 : Int32)), (.ref b1), (.ref b1)])) P
  refine Go.st (X25.ldcInt hx hown (mvT hZ (hw _ (List.mem_of_getElem? (i := 5) rfl))) (g := (mkF mi 49 #[.val (.int c0), .val (.int k), .unset, .unset, .unset, .unset] [(.int (8 : Int32)), (.ref b1), (.ref b1)])) rfl (hb hby at_49)) ?_
  show Go pg.tables ev below (T25.setTop (mkF mi 51 #[.val (.int c0), .val (.int k), .unset, .unset, .unset, .unset] [(.int (1114111 : Int32)), (.int (8 : Int32)), (.ref b1), (.ref b1)])) P
  have ov27 := V25
  obtain ⟨cl27, Ar27, q27, S27, M27, H27, G27⟩ := ov27
  have hin27 : ¬ ((8 : Int32) < 0 ∨ cl27.slots.size ≤ ((8 : Int32)).toNatClampNeg) := inb_of S27 ⟨by decide, by decide⟩
  obtain ⟨T28, h28, X28, e28, W28, st28⟩ := stI X25 hx hZ e25 Ar27 (j := (8 : Int32)) hin27 (g := (mkF mi 51 #[.val (.int c0), .val (.int k), .unset, .unset, .unset, .unset] [(.int (1114111 : Int32)), (.int (8 : Int32)), (.ref b1), (.ref b1)])) rfl rfl (hb hby at_51)
  have Zs29 : n0 ≤ h28.size := Nat.le_trans Zs26 (Keep.of_wr W28).1
  have N29 := Fr.snoc X28 N26 g_b1
  have V28 : Arv Z h28 b1 k1 .int (16 : Int32) [(.int (9 : Int32)), (.int (10 : Int32)), (.int (13 : Int32)), (.int (32 : Int32)), (.int (55295 : Int32)), (.int (57344 : Int32)), (.int (65533 : Int32)), (.int (65536 : Int32)), (.int (1114111 : Int32)), (.int (0 : Int32)), (.int (0 : Int32)), (.int (0 : Int32)), (.int (0 : Int32)), (.int (0 : Int32)), (.int (0 : Int32)), (.int (0 : Int32))] (.int (0 : Int32)) := Arv.set Ar27 q27 S27 M27 H27 G27 rfl W28 8 rfl (Nat.le_of_ble_eq_true rfl)
  refine Go.st st28 ?_
  show Go pg.tables ev below (T28.setTop (mkF mi 52 #[.val (.int c0), .val (.int k), .unset, .unset, .unset, .unset] [(.ref b1)])) P
  refine Go.st (fun t_ k_ => XS.dup X28.here hx rfl (hb hby at_52) rfl rfl k_) ?_
  show Go pg.tables ev below (T28.setTop (mkF mi 53 #[.val (.int c0), .val (.int k), .unset, .unset, .unset, .unset] [(.ref b1), (.ref b1)])) P
  refine Go.st (fun t_ k_ => XS.bipush X28.here hx rfl (hb hby at_53) k_) ?_
  show Go pg.tables ev below (T28.setTop (mkF mi 55 #[.val (.int c0), .val (.int k), .unset, .unset, .unset, .unset] [(.int (9 : Int32)), (.ref b1), (.ref b1)])) P
  refine Go.st (fun t_ k_ => XS.iconst X28.here hx rfl (hb hby at_55) k_) ?_
  show Go pg.tables ev below (T28.setTop (mkF mi 56 #[.val (.int c0), .val (.int k), .unset, .unset, .unset, .unset] [(.int (0 : Int32)), (.int (9 : Int32)), (.ref b1), (.ref b1)])) P
  have ov30 := V28
  obtain ⟨cl30, Ar30, q30, S30, M30, H30, G30⟩ := ov30
  have hin30 : ¬ ((9 : Int32) < 0 ∨ cl30.slots.size ≤ ((9 : Int32)).toNatClampNeg) := inb_of S30 ⟨by decide, by decide⟩
  obtain ⟨T31, h31, X31, e31, W31, st31⟩ := stI X28 hx hZ e28 Ar30 (j := (9 : Int32)) hin30 (g := (mkF mi 56 #[.val (.int c0), .val (.int k), .unset, .unset, .unset, .unset] [(.int (0 : Int32)), (.int (9 : Int32)), (.ref b1), (.ref b1)])) rfl rfl (hb hby at_56)
  have Zs32 : n0 ≤ h31.size := Nat.le_trans Zs29 (Keep.of_wr W31).1
  have N32 := Fr.snoc X31 N29 g_b1
  have V31 : Arv Z h31 b1 k1 .int (16 : Int32) [(.int (9 : Int32)), (.int (10 : Int32)), (.int (13 : Int32)), (.int (32 : Int32)), (.int (55295 : Int32)), (.int (57344 : Int32)), (.int (65533 : Int32)), (.int (65536 : Int32)), (.int (1114111 : Int32)), (.int (0 : Int32)), (.int (0 : Int32)), (.int (0 : Int32)), (.int (0 : Int32)), (.int (0 : Int32)), (.int (0 : Int32)), (.int (0 : Int32))] (.int (0 : Int32)) := Arv.set Ar30 q30 S30 M30 H30 G30 rfl W31 9 rfl (Nat.le_of_ble_eq_true rfl)
  refine Go.st st31 ?_
  show Go pg.tables ev below (T31.setTop (mkF mi 57 #[.val (.int c0), .val (.int k), .unset, .unset, .unset, .unset] [(.ref b1)])) P
  refine Go.st (fun t_ k_ => XS.dup X31.here hx rfl (hb hby at_57) rfl rfl k_) ?_
  show Go pg.tables ev below (T31.setTop (mkF mi 58 #[.val (.int c0), .val (.int k), .unset, .unset, .unset, .unset] [(.ref b1), (.ref b1)])) P
  refine Go.st (fun t_ k_ => XS.bipush X31.here hx rfl (hb hby at_58) k_) ?_
  show Go pg.tables ev below (T31.setTop (mkF mi 60 #[.val (.int c0), .val (.int k), .unset, .unset, .unset, .unset] [(.int (10 : Int32)), (.ref b1), (.ref b1)])) P
  refine Go.st (fun t_ k_ => XS.bipush X31.here hx rfl (hb hby at_60) k_) ?_
  show Go pg.tables ev below (T31.setTop (mkF mi 62 #[.val (.int c0), .val (.int k), .unset, .unset, .unset, .unset] [(.int (11 : Int32)), (.int (10 : Int32)), (.ref b1), (.ref b1)])) P
  have ov33 := V31
  obtain ⟨cl33, Ar33, q33, S33, M33, H33, G33⟩ := ov33
  have hin33 : ¬ ((10 : Int32) < 0 ∨ cl33.slots.size ≤ ((10 : Int32)).toNatClampNeg) := inb_of S33 ⟨by decide, by decide⟩
  obtain ⟨T34, h34, X34, e34, W34, st34⟩ := stI X31 hx hZ e31 Ar33 (j := (10 : Int32)) hin33 (g := (mkF mi 62 #[.val (.int c0), .val (.int k), .unset, .unset, .unset, .unset] [(.int (11 : Int32)), (.int (10 : Int32)), (.ref b1), (.ref b1)])) rfl rfl (hb hby at_62)
  have Zs35 : n0 ≤ h34.size := Nat.le_trans Zs32 (Keep.of_wr W34).1
  have N35 := Fr.snoc X34 N32 g_b1
  have V34 : Arv Z h34 b1 k1 .int (16 : Int32) [(.int (9 : Int32)), (.int (10 : Int32)), (.int (13 : Int32)), (.int (32 : Int32)), (.int (55295 : Int32)), (.int (57344 : Int32)), (.int (65533 : Int32)), (.int (65536 : Int32)), (.int (1114111 : Int32)), (.int (0 : Int32)), (.int (11 : Int32)), (.int (0 : Int32)), (.int (0 : Int32)), (.int (0 : Int32)), (.int (0 : Int32)), (.int (0 : Int32))] (.int (0 : Int32)) := Arv.set Ar33 q33 S33 M33 H33 G33 rfl W34 10 rfl (Nat.le_of_ble_eq_true rfl)
  refine Go.st st34 ?_
  show Go pg.tables ev below (T34.setTop (mkF mi 63 #[.val (.int c0), .val (.int k), .unset, .unset, .unset, .unset] [(.ref b1)])) P
  refine Go.st (fun t_ k_ => XS.dup X34.here hx rfl (hb hby at_63) rfl rfl k_) ?_
  show Go pg.tables ev below (T34.setTop (mkF mi 64 #[.val (.int c0), .val (.int k), .unset, .unset, .unset, .unset] [(.ref b1), (.ref b1)])) P
  refine Go.st (fun t_ k_ => XS.bipush X34.here hx rfl (hb hby at_64) k_) ?_
  show Go pg.tables ev below (T34.setTop (mkF mi 66 #[.val (.int c0), .val (.int k), .unset, .unset, .unset, .unset] [(.int (11 : Int32)), (.ref b1), (.ref b1)])) P
  refine Go.st (fun t_ k_ => XS.bipush X34.here hx rfl (hb hby at_66) k_) ?_
  show Go pg.tables ev below (T34.setTop (mkF mi 68 #[.val (.int c0), .val (.int k), .unset, .unset, .unset, .unset] [(.int (12 : Int32)), (.int (11 : Int32)), (.ref b1), (.ref b1)])) P
  have ov36 := V34
  obtain ⟨cl36, Ar36, q36, S36, M36, H36, G36⟩ := ov36
  have hin36 : ¬ ((11 : Int32) < 0 ∨ cl36.slots.size ≤ ((11 : Int32)).toNatClampNeg) := inb_of S36 ⟨by decide, by decide⟩
  obtain ⟨T37, h37, X37, e37, W37, st37⟩ := stI X34 hx hZ e34 Ar36 (j := (11 : Int32)) hin36 (g := (mkF mi 68 #[.val (.int c0), .val (.int k), .unset, .unset, .unset, .unset] [(.int (12 : Int32)), (.int (11 : Int32)), (.ref b1), (.ref b1)])) rfl rfl (hb hby at_68)
  have Zs38 : n0 ≤ h37.size := Nat.le_trans Zs35 (Keep.of_wr W37).1
  have N38 := Fr.snoc X37 N35 g_b1
  have V37 : Arv Z h37 b1 k1 .int (16 : Int32) [(.int (9 : Int32)), (.int (10 : Int32)), (.int (13 : Int32)), (.int (32 : Int32)), (.int (55295 : Int32)), (.int (57344 : Int32)), (.int (65533 : Int32)), (.int (65536 : Int32)), (.int (1114111 : Int32)), (.int (0 : Int32)), (.int (11 : Int32)), (.int (12 : Int32)), (.int (0 : Int32)), (.int (0 : Int32)), (.int (0 : Int32)), (.int (0 : Int32))] (.int (0 : Int32)) := Arv.set Ar36 q36 S36 M36 H36 G36 rfl W37 11 rfl (Nat.le_of_ble_eq_true rfl)
  refine Go.st st37 ?_
  show Go pg.tables ev below (T37.setTop (mkF mi 69 #[.val (.int c0), .val (.int k), .unset, .unset, .unset, .unset] [(.ref b1)])) P
  refine Go.st (fun t_ k_ => XS.dup X37.here hx rfl (hb hby at_69) rfl rfl k_) ?_
  show Go pg.tables ev below (T37.setTop (mkF mi 70 #[.val (.int c0), .val (.int k), .unset, .unset, .unset, .unset] [(.ref b1), (.ref b1)])) P
  refine Go.st (fun t_ k_ => XS.bipush X37.here hx rfl (hb hby at_70) k_) ?_
  show Go pg.tables ev below (T37.setTop (mkF mi 72 #[.val (.int c0), .val (.int k), .unset, .unset, .unset, .unset] [(.int (12 : Int32)), (.ref b1), (.ref b1)])) P
  refine Go.st (X37.ldcInt hx hown (mvT hZ (hw _ (List.mem_of_getElem? (i := 6) rfl))) (g := (mkF mi 72 #[.val (.int c0), .val (.int k), .unset, .unset, .unset, .unset] [(.int (12 : Int32)), (.ref b1), (.ref b1)])) rfl (hb hby at_72)) ?_
  show Go pg.tables ev below (T37.setTop (mkF mi 74 #[.val (.int c0), .val (.int k), .unset, .unset, .unset, .unset] [(.int (57343 : Int32)), (.int (12 : Int32)), (.ref b1), (.ref b1)])) P
  have ov39 := V37
  obtain ⟨cl39, Ar39, q39, S39, M39, H39, G39⟩ := ov39
  have hin39 : ¬ ((12 : Int32) < 0 ∨ cl39.slots.size ≤ ((12 : Int32)).toNatClampNeg) := inb_of S39 ⟨by decide, by decide⟩
  obtain ⟨T40, h40, X40, e40, W40, st40⟩ := stI X37 hx hZ e37 Ar39 (j := (12 : Int32)) hin39 (g := (mkF mi 74 #[.val (.int c0), .val (.int k), .unset, .unset, .unset, .unset] [(.int (57343 : Int32)), (.int (12 : Int32)), (.ref b1), (.ref b1)])) rfl rfl (hb hby at_74)
  have Zs41 : n0 ≤ h40.size := Nat.le_trans Zs38 (Keep.of_wr W40).1
  have N41 := Fr.snoc X40 N38 g_b1
  have V40 : Arv Z h40 b1 k1 .int (16 : Int32) [(.int (9 : Int32)), (.int (10 : Int32)), (.int (13 : Int32)), (.int (32 : Int32)), (.int (55295 : Int32)), (.int (57344 : Int32)), (.int (65533 : Int32)), (.int (65536 : Int32)), (.int (1114111 : Int32)), (.int (0 : Int32)), (.int (11 : Int32)), (.int (12 : Int32)), (.int (57343 : Int32)), (.int (0 : Int32)), (.int (0 : Int32)), (.int (0 : Int32))] (.int (0 : Int32)) := Arv.set Ar39 q39 S39 M39 H39 G39 rfl W40 12 rfl (Nat.le_of_ble_eq_true rfl)
  refine Go.st st40 ?_
  show Go pg.tables ev below (T40.setTop (mkF mi 75 #[.val (.int c0), .val (.int k), .unset, .unset, .unset, .unset] [(.ref b1)])) P
  refine Go.st (fun t_ k_ => XS.dup X40.here hx rfl (hb hby at_75) rfl rfl k_) ?_
  show Go pg.tables ev below (T40.setTop (mkF mi 76 #[.val (.int c0), .val (.int k), .unset, .unset, .unset, .unset] [(.ref b1), (.ref b1)])) P
  refine Go.st (fun t_ k_ => XS.bipush X40.here hx rfl (hb hby at_76) k_) ?_
  show Go pg.tables ev below (T40.setTop (mkF mi 78 #[.val (.int c0), .val (.int k), .unset, .unset, .unset, .unset] [(.int (13 : Int32)), (.ref b1), (.ref b1)])) P
  refine Go.st (X40.ldcInt hx hown (mvT hZ (hw _ (List.mem_of_getElem? (i := 7) rfl))) (g := (mkF mi 78 #[.val (.int c0), .val (.int k), .unset, .unset, .unset, .unset] [(.int (13 : Int32)), (.ref b1), (.ref b1)])) rfl (hb hby at_78)) ?_
  show Go pg.tables ev below (T40.setTop (mkF mi 80 #[.val (.int c0), .val (.int k), .unset, .unset, .unset, .unset] [(.int (65535 : Int32)), (.int (13 : Int32)), (.ref b1), (.ref b1)])) P
  have ov42 := V40
  obtain ⟨cl42, Ar42, q42, S42, M42, H42, G42⟩ := ov42
  have hin42 : ¬ ((13 : Int32) < 0 ∨ cl42.slots.size ≤ ((13 : Int32)).toNatClampNeg) := inb_of S42 ⟨by decide, by decide⟩
  obtain ⟨T43, h43, X43, e43, W43, st43⟩ := stI X40 hx hZ e40 Ar42 (j := (13 : Int32)) hin42 (g := (mkF mi 80 #[.val (.int c0), .val (.int k), .unset, .unset, .unset, .unset] [(.int (65535 : Int32)), (.int (13 : Int32)), (.ref b1), (.ref b1)])) rfl rfl (hb hby at_80)
  have Zs44 : n0 ≤ h43.size := Nat.le_trans Zs41 (Keep.of_wr W43).1
  have N44 := Fr.snoc X43 N41 g_b1
  have V43 : Arv Z h43 b1 k1 .int (16 : Int32) [(.int (9 : Int32)), (.int (10 : Int32)), (.int (13 : Int32)), (.int (32 : Int32)), (.int (55295 : Int32)), (.int (57344 : Int32)), (.int (65533 : Int32)), (.int (65536 : Int32)), (.int (1114111 : Int32)), (.int (0 : Int32)), (.int (11 : Int32)), (.int (12 : Int32)), (.int (57343 : Int32)), (.int (65535 : Int32)), (.int (0 : Int32)), (.int (0 : Int32))] (.int (0 : Int32)) := Arv.set Ar42 q42 S42 M42 H42 G42 rfl W43 13 rfl (Nat.le_of_ble_eq_true rfl)
  refine Go.st st43 ?_
  show Go pg.tables ev below (T43.setTop (mkF mi 81 #[.val (.int c0), .val (.int k), .unset, .unset, .unset, .unset] [(.ref b1)])) P
  refine Go.st (fun t_ k_ => XS.dup X43.here hx rfl (hb hby at_81) rfl rfl k_) ?_
  show Go pg.tables ev below (T43.setTop (mkF mi 82 #[.val (.int c0), .val (.int k), .unset, .unset, .unset, .unset] [(.ref b1), (.ref b1)])) P
  refine Go.st (fun t_ k_ => XS.bipush X43.here hx rfl (hb hby at_82) k_) ?_
  show Go pg.tables ev below (T43.setTop (mkF mi 84 #[.val (.int c0), .val (.int k), .unset, .unset, .unset, .unset] [(.int (14 : Int32)), (.ref b1), (.ref b1)])) P
  refine Go.st (X43.ldcInt hx hown (mvT hZ (hw _ (List.mem_of_getElem? (i := 8) rfl))) (g := (mkF mi 84 #[.val (.int c0), .val (.int k), .unset, .unset, .unset, .unset] [(.int (14 : Int32)), (.ref b1), (.ref b1)])) rfl (hb hby at_84)) ?_
  show Go pg.tables ev below (T43.setTop (mkF mi 86 #[.val (.int c0), .val (.int k), .unset, .unset, .unset, .unset] [(.int (-2147483648 : Int32)), (.int (14 : Int32)), (.ref b1), (.ref b1)])) P
  have ov45 := V43
  obtain ⟨cl45, Ar45, q45, S45, M45, H45, G45⟩ := ov45
  have hin45 : ¬ ((14 : Int32) < 0 ∨ cl45.slots.size ≤ ((14 : Int32)).toNatClampNeg) := inb_of S45 ⟨by decide, by decide⟩
  obtain ⟨T46, h46, X46, e46, W46, st46⟩ := stI X43 hx hZ e43 Ar45 (j := (14 : Int32)) hin45 (g := (mkF mi 86 #[.val (.int c0), .val (.int k), .unset, .unset, .unset, .unset] [(.int (-2147483648 : Int32)), (.int (14 : Int32)), (.ref b1), (.ref b1)])) rfl rfl (hb hby at_86)
  have Zs47 : n0 ≤ h46.size := Nat.le_trans Zs44 (Keep.of_wr W46).1
  have N47 := Fr.snoc X46 N44 g_b1
  have V46 : Arv Z h46 b1 k1 .int (16 : Int32) [(.int (9 : Int32)), (.int (10 : Int32)), (.int (13 : Int32)), (.int (32 : Int32)), (.int (55295 : Int32)), (.int (57344 : Int32)), (.int (65533 : Int32)), (.int (65536 : Int32)), (.int (1114111 : Int32)), (.int (0 : Int32)), (.int (11 : Int32)), (.int (12 : Int32)), (.int (57343 : Int32)), (.int (65535 : Int32)), (.int (-2147483648 : Int32)), (.int (0 : Int32))] (.int (0 : Int32)) := Arv.set Ar45 q45 S45 M45 H45 G45 rfl W46 14 rfl (Nat.le_of_ble_eq_true rfl)
  refine Go.st st46 ?_
  show Go pg.tables ev below (T46.setTop (mkF mi 87 #[.val (.int c0), .val (.int k), .unset, .unset, .unset, .unset] [(.ref b1)])) P
  refine Go.st (fun t_ k_ => XS.dup X46.here hx rfl (hb hby at_87) rfl rfl k_) ?_
  show Go pg.tables ev below (T46.setTop (mkF mi 88 #[.val (.int c0), .val (.int k), .unset, .unset, .unset, .unset] [(.ref b1), (.ref b1)])) P
  refine Go.st (fun t_ k_ => XS.bipush X46.here hx rfl (hb hby at_88) k_) ?_
  show Go pg.tables ev below (T46.setTop (mkF mi 90 #[.val (.int c0), .val (.int k), .unset, .unset, .unset, .unset] [(.int (15 : Int32)), (.ref b1), (.ref b1)])) P
  refine Go.st (X46.ldcInt hx hown (mvT hZ (hw _ (List.mem_of_getElem? (i := 9) rfl))) (g := (mkF mi 90 #[.val (.int c0), .val (.int k), .unset, .unset, .unset, .unset] [(.int (15 : Int32)), (.ref b1), (.ref b1)])) rfl (hb hby at_90)) ?_
  show Go pg.tables ev below (T46.setTop (mkF mi 92 #[.val (.int c0), .val (.int k), .unset, .unset, .unset, .unset] [(.int (2147483647 : Int32)), (.int (15 : Int32)), (.ref b1), (.ref b1)])) P
  have ov48 := V46
  obtain ⟨cl48, Ar48, q48, S48, M48, H48, G48⟩ := ov48
  have hin48 : ¬ ((15 : Int32) < 0 ∨ cl48.slots.size ≤ ((15 : Int32)).toNatClampNeg) := inb_of S48 ⟨by decide, by decide⟩
  obtain ⟨T49, h49, X49, e49, W49, st49⟩ := stI X46 hx hZ e46 Ar48 (j := (15 : Int32)) hin48 (g := (mkF mi 92 #[.val (.int c0), .val (.int k), .unset, .unset, .unset, .unset] [(.int (2147483647 : Int32)), (.int (15 : Int32)), (.ref b1), (.ref b1)])) rfl rfl (hb hby at_92)
  have Zs50 : n0 ≤ h49.size := Nat.le_trans Zs47 (Keep.of_wr W49).1
  have N50 := Fr.snoc X49 N47 g_b1
  have V49 : Arv Z h49 b1 k1 .int (16 : Int32) [(.int (9 : Int32)), (.int (10 : Int32)), (.int (13 : Int32)), (.int (32 : Int32)), (.int (55295 : Int32)), (.int (57344 : Int32)), (.int (65533 : Int32)), (.int (65536 : Int32)), (.int (1114111 : Int32)), (.int (0 : Int32)), (.int (11 : Int32)), (.int (12 : Int32)), (.int (57343 : Int32)), (.int (65535 : Int32)), (.int (-2147483648 : Int32)), (.int (2147483647 : Int32))] (.int (0 : Int32)) := Arv.set Ar48 q48 S48 M48 H48 G48 rfl W49 15 rfl (Nat.le_of_ble_eq_true rfl)
  refine Go.st st49 ?_
  show Go pg.tables ev below (T49.setTop (mkF mi 93 #[.val (.int c0), .val (.int k), .unset, .unset, .unset, .unset] [(.ref b1)])) P
  refine Go.st (fun t_ k_ => XS.astoreN X49.here hx rfl (hb hby at_93) rfl rfl (l' := #[.val (.int c0), .val (.int k), .val (.ref b1), .unset, .unset, .unset]) rfl k_) ?_
  show Go pg.tables ev below (T49.setTop (mkF mi 94 #[.val (.int c0), .val (.int k), .val (.ref b1), .unset, .unset, .unset] [])) P
  refine Go.st (fun t_ k_ => XS.aloadN X49.here hx rfl (hb hby at_94) rfl rfl k_) ?_
  show Go pg.tables ev below (T49.setTop (mkF mi 95 #[.val (.int c0), .val (.int k), .val (.ref b1), .unset, .unset, .unset] [(.ref b1)])) P
  refine Go.st (fun t_ k_ => XS.iloadN X49.here hx rfl (hb hby at_95) rfl k_) ?_
  show Go pg.tables ev below (T49.setTop (mkF mi 96 #[.val (.int c0), .val (.int k), .val (.ref b1), .unset, .unset, .unset] [(.int k), (.ref b1)])) P
  refine Go.st (fun t_ k_ => XS.bipush X49.here hx rfl (hb hby at_96) k_) ?_
  show Go pg.tables ev below (T49.setTop (mkF mi 98 #[.val (.int c0), .val (.int k), .val (.ref b1), .unset, .unset, .unset] [(.int (15 : Int32)), (.int k), (.ref b1)])) P
  refine Go.st (fun t_ k_ => XS.iand X49.here hx rfl (hb hby at_98) rfl k_) ?_
  show Go pg.tables ev below (T49.setTop (mkF mi 99 #[.val (.int c0), .val (.int k), .val (.ref b1), .unset, .unset, .unset] [(.int (k &&& (15 : Int32))), (.ref b1)])) P
  have ov51 := V49
  obtain ⟨cl51, Ar51, q51, S51, M51, H51, G51⟩ := ov51
  have hin51 : ¬ ((k &&& (15 : Int32)) < 0 ∨ cl51.slots.size ≤ ((k &&& (15 : Int32))).toNatClampNeg) := inb_of S51 (own_in k)
  obtain ⟨z51, hz51⟩ := own_fit (G51 _ (Nat.lt_of_not_le fun q => hin51 (Or.inr q)))
  have hat51 : cl51.slots[((k &&& (15 : Int32))).toNatClampNeg]? = some (.int z51) := Has.at H51 hin51 hz51
  refine Go.st (X49.iaload hx (j := (k &&& (15 : Int32))) (v := (.int z51)) (by rw [e49]; exact Ar51.1) (State.isArrayOf_alike hZ.alike Ar51.2.1) Ar51.2.2 hin51 hat51 (g := (mkF mi 99 #[.val (.int c0), .val (.int k), .val (.ref b1), .unset, .unset, .unset] [(.int (k &&& (15 : Int32))), (.ref b1)])) rfl rfl (hb hby at_99)) ?_
  show Go pg.tables ev below (T49.setTop (mkF mi 100 #[.val (.int c0), .val (.int k), .val (.ref b1), .unset, .unset, .unset] [(.int z51)])) P
  refine Go.st (fun t_ k_ => XS.iloadN X49.here hx rfl (hb hby at_100) rfl k_) ?_
  show Go pg.tables ev below (T49.setTop (mkF mi 101 #[.val (.int c0), .val (.int k), .val (.ref b1), .unset, .unset, .unset] [(.int k), (.int z51)])) P
  refine Go.st (fun t_ k_ => XS.iconst X49.here hx rfl (hb hby at_101) k_) ?_
  show Go pg.tables ev below (T49.setTop (mkF mi 102 #[.val (.int c0), .val (.int k), .val (.ref b1), .unset, .unset, .unset] [(.int (4 : Int32)), (.int k), (.int z51)])) P
  refine Go.st (fun t_ k_ => XS.iushr X49.here hx rfl (hb hby at_102) rfl k_) ?_
  show Go pg.tables ev below (T49.setTop (mkF mi 103 #[.val (.int c0), .val (.int k), .val (.ref b1), .unset, .unset, .unset] [(.int ((k.toUInt32 >>> ((4 : Int32) &&& 31).toUInt32).toInt32)), (.int z51)])) P
  refine Go.st (fun t_ k_ => XS.iconst X49.here hx rfl (hb hby at_103) k_) ?_
  show Go pg.tables ev below (T49.setTop (mkF mi 104 #[.val (.int c0), .val (.int k), .val (.ref b1), .unset, .unset, .unset] [(.int (3 : Int32)), (.int ((k.toUInt32 >>> ((4 : Int32) &&& 31).toUInt32).toInt32)), (.int z51)])) P
  refine Go.st (fun t_ k_ => XS.iand X49.here hx rfl (hb hby at_104) rfl k_) ?_
  show Go pg.tables ev below (T49.setTop (mkF mi 105 #[.val (.int c0), .val (.int k), .val (.ref b1), .unset, .unset, .unset] [(.int (((k.toUInt32 >>> ((4 : Int32) &&& 31).toUInt32).toInt32) &&& (3 : Int32))), (.int z51)])) P
  refine Go.st (fun t_ k_ => XS.iconst X49.here hx rfl (hb hby at_105) k_) ?_
  show Go pg.tables ev below (T49.setTop (mkF mi 106 #[.val (.int c0), .val (.int k), .val (.ref b1), .unset, .unset, .unset] [(.int (1 : Int32)), (.int (((k.toUInt32 >>> ((4 : Int32) &&& 31).toUInt32).toInt32) &&& (3 : Int32))), (.int z51)])) P
  refine Go.st (fun t_ k_ => XS.isub X49.here hx rfl (hb hby at_106) rfl k_) ?_
  show Go pg.tables ev below (T49.setTop (mkF mi 107 #[.val (.int c0), .val (.int k), .val (.ref b1), .unset, .unset, .unset] [(.int ((((k.toUInt32 >>> ((4 : Int32) &&& 31).toUInt32).toInt32) &&& (3 : Int32)) - (1 : Int32))), (.int z51)])) P
  refine Go.st (fun t_ k_ => XS.iadd X49.here hx rfl (hb hby at_107) rfl k_) ?_
  show Go pg.tables ev below (T49.setTop (mkF mi 108 #[.val (.int c0), .val (.int k), .val (.ref b1), .unset, .unset, .unset] [(.int (z51 + ((((k.toUInt32 >>> ((4 : Int32) &&& 31).toUInt32).toInt32) &&& (3 : Int32)) - (1 : Int32))))])) P
  refine Go.st (fun t_ k_ => XS.istoreN X49.here hx rfl (hb hby at_108) rfl (l' := #[.val (.int c0), .val (.int k), .val (.ref b1), .val (.int (z51 + ((((k.toUInt32 >>> ((4 : Int32) &&& 31).toUInt32).toInt32) &&& (3 : Int32)) - (1 : Int32)))), .unset, .unset]) rfl k_) ?_
  show Go pg.tables ev below (T49.setTop (mkF mi 109 #[.val (.int c0), .val (.int k), .val (.ref b1), .val (.int (z51 + ((((k.toUInt32 >>> ((4 : Int32) &&& 31).toUInt32).toInt32) &&& (3 : Int32)) - (1 : Int32)))), .unset, .unset] [])) P
  refine Go.st (fun t_ k_ => XS.iloadN X49.here hx rfl (hb hby at_109) rfl k_) ?_
  show Go pg.tables ev below (T49.setTop (mkF mi 110 #[.val (.int c0), .val (.int k), .val (.ref b1), .val (.int (z51 + ((((k.toUInt32 >>> ((4 : Int32) &&& 31).toUInt32).toInt32) &&& (3 : Int32)) - (1 : Int32)))), .unset, .unset] [(.int c0)])) P
  obtain ⟨_, _, ⟨T52, L52, k52, n52⟩, -, X52, ⟨Lc52, hQ52, l52, y52, z52⟩, st52⟩ := Jvm.LawKit.callS X49 hx (y := (⟨"com/example/hedge/hedge/xml/XmlNames", "isChar", "(I)Z"⟩ : MethodName)) hown (mvT hZ (hw _ (List.mem_of_getElem? (i := 10) rfl))) (mvT hZ (hw _ (List.mem_of_getElem? (i := 11) rfl))) (mvT hZ (hw _ (List.mem_of_getElem? (i := 12) rfl))) (mvT hZ (hw _ (List.mem_of_getElem? (i := 13) rfl))) (by decide) (backOf (W := 0) (rmC l Z a0 hw [] c0 h49 n0 Zs50) hZ (hw _ (List.mem_of_getElem? (i := 13) rfl)) (hw _ (List.mem_of_getElem? (i := 12) rfl)) (by decide) (by decide)) (g := (mkF mi 110 #[.val (.int c0), .val (.int k), .val (.ref b1), .val (.int (z51 + ((((k.toUInt32 >>> ((4 : Int32) &&& 31).toUInt32).toInt32) &&& (3 : Int32)) - (1 : Int32)))), .unset, .unset] [(.int c0)])) rfl (by rw [hml]; rfl) (argsL := [(.int c0)]) (rest := []) (lenOf pd_0 rfl) rfl (by show 2 * 0 + _ ≤ _; exact Nat.le_of_eq rfl) (hb hby at_110) (fun _ _ => ⟨rfl, e49, (by decide : 1 + 0 ≤ _), (by decide : 16 + 0 ≤ _)⟩)
  dsimp only [Pt.U, Pt.locs, Pt.cells, Pt.slots] at X52 l52 y52 z52 st52 hQ52
  subst l52 y52 z52
  obtain ⟨rfl, N52q, e52⟩ := hQ52
  have N52 := Fr.app N50 N52q
  refine Go.st st52 ?_
  show Go pg.tables ev below (T52.setTop (mkF mi 113 #[.val (.int c0), .val (.int k), .val (.ref b1), .val (.int (z51 + ((((k.toUInt32 >>> ((4 : Int32) &&& 31).toUInt32).toInt32) &&& (3 : Int32)) - (1 : Int32)))), .unset, .unset] [(.int (fC c0))])) P
  refine Go.st (fun t_ k_ => XS.iloadN X52.here hx rfl (hb hby at_113) rfl k_) ?_
  show Go pg.tables ev below (T52.setTop (mkF mi 114 #[.val (.int c0), .val (.int k), .val (.ref b1), .val (.int (z51 + ((((k.toUInt32 >>> ((4 : Int32) &&& 31).toUInt32).toInt32) &&& (3 : Int32)) - (1 : Int32)))), .unset, .unset] [(.int c0), (.int (fC c0))])) P
  obtain ⟨_, _, ⟨T53, L53, k53, n53⟩, -, X53, ⟨Lc53, hQ53, l53, y53, z53⟩, st53⟩ := Jvm.LawKit.callS X52 hx (y := (⟨"com/example/hedge/hedge/xml/XmlNamesIsCharPinLaw", "ref", "(I)Z"⟩ : MethodName)) hown (mvT hZ (hw _ (List.mem_of_getElem? (i := 16) rfl))) (mvT hZ (hw _ (List.mem_of_getElem? (i := 17) rfl))) (mvT hZ (hw _ (List.mem_of_getElem? (i := 18) rfl))) (mvT hZ (hw _ (List.mem_of_getElem? (i := 19) rfl))) (by decide) (backOf (W := 1) (rmR l Z a0 hw [] c0 h49 n0 Zs50) hZ (hw _ (List.mem_of_getElem? (i := 19) rfl)) (hw _ (List.mem_of_getElem? (i := 18) rfl)) (by decide) (by decide)) (g := (mkF mi 114 #[.val (.int c0), .val (.int k), .val (.ref b1), .val (.int (z51 + ((((k.toUInt32 >>> ((4 : Int32) &&& 31).toUInt32).toInt32) &&& (3 : Int32)) - (1 : Int32)))), .unset, .unset] [(.int c0), (.int (fC c0))])) rfl (by rw [hml]; rfl) (argsL := [(.int c0)]) (rest := [(.int (fC c0))]) (lenOf pd_0 rfl) rfl (by show 2 * 0 + _ ≤ _; exact Nat.le_of_eq rfl) (hb hby at_114) (fun _ _ => ⟨rfl, e52, (by decide : 1 + 0 ≤ _), (by decide : 16 + 0 ≤ _)⟩)
  dsimp only [Pt.U, Pt.locs, Pt.cells, Pt.slots] at X53 l53 y53 z53 st53 hQ53
  subst l53 y53 z53
  obtain ⟨rfl, N53q, e53⟩ := hQ53
  have N53 := Fr.app N52 N53q
  refine Go.st st53 ?_
  show Go pg.tables ev below (T53.setTop (mkF mi 117 #[.val (.int c0), .val (.int k), .val (.ref b1), .val (.int (z51 + ((((k.toUInt32 >>> ((4 : Int32) &&& 31).toUInt32).toInt32) &&& (3 : Int32)) - (1 : Int32)))), .unset, .unset] [(.int (fR c0)), (.int (fC c0))])) P
  refine Go.st (fun t_ k_ => XS.icmpNo X53.here hx rfl (hb hby at_117) rfl (teq (own_law _)).2 k_) ?_
  show Go pg.tables ev below (T53.setTop (mkF mi 120 #[.val (.int c0), .val (.int k), .val (.ref b1), .val (.int (z51 + ((((k.toUInt32 >>> ((4 : Int32) &&& 31).toUInt32).toInt32) &&& (3 : Int32)) - (1 : Int32)))), .unset, .unset] [])) P
  refine Go.st (fun t_ k_ => XS.iconst X53.here hx rfl (hb hby at_120) k_) ?_
  show Go pg.tables ev below (T53.setTop (mkF mi 121 #[.val (.int c0), .val (.int k), .val (.ref b1), .val (.int (z51 + ((((k.toUInt32 >>> ((4 : Int32) &&& 31).toUInt32).toInt32) &&& (3 : Int32)) - (1 : Int32)))), .unset, .unset] [(.int (1 : Int32))])) P
  refine Go.st (fun t_ k_ => XS.goto X53.here hx rfl (pc0 := 121) (pc' := 125) rfl (hb hby at_121) (by decide) (by decide) k_) ?_
  show Go pg.tables ev below (T53.setTop (mkF mi 125 #[.val (.int c0), .val (.int k), .val (.ref b1), .val (.int (z51 + ((((k.toUInt32 >>> ((4 : Int32) &&& 31).toUInt32).toInt32) &&& (3 : Int32)) - (1 : Int32)))), .unset, .unset] [(.int (1 : Int32))])) P
  refine Go.st (fun t_ k_ => XS.istore X53.here hx rfl (hb hby at_125) rfl (l' := #[.val (.int c0), .val (.int k), .val (.ref b1), .val (.int (z51 + ((((k.toUInt32 >>> ((4 : Int32) &&& 31).toUInt32).toInt32) &&& (3 : Int32)) - (1 : Int32)))), .val (.int (1 : Int32)), .unset]) rfl k_) ?_
  show Go pg.tables ev below (T53.setTop (mkF mi 127 #[.val (.int c0), .val (.int k), .val (.ref b1), .val (.int (z51 + ((((k.toUInt32 >>> ((4 : Int32) &&& 31).toUInt32).toInt32) &&& (3 : Int32)) - (1 : Int32)))), .val (.int (1 : Int32)), .unset] [])) P
  refine Go.st (fun t_ k_ => XS.iloadN X53.here hx rfl (hb hby at_127) rfl k_) ?_
  show Go pg.tables ev below (T53.setTop (mkF mi 128 #[.val (.int c0), .val (.int k), .val (.ref b1), .val (.int (z51 + ((((k.toUInt32 >>> ((4 : Int32) &&& 31).toUInt32).toInt32) &&& (3 : Int32)) - (1 : Int32)))), .val (.int (1 : Int32)), .unset] [(.int (z51 + ((((k.toUInt32 >>> ((4 : Int32) &&& 31).toUInt32).toInt32) &&& (3 : Int32)) - (1 : Int32))))])) P
  obtain ⟨_, _, ⟨T54, L54, k54, n54⟩, -, X54, ⟨Lc54, hQ54, l54, y54, z54⟩, st54⟩ := Jvm.LawKit.callS X53 hx (y := (⟨"com/example/hedge/hedge/xml/XmlNames", "isChar", "(I)Z"⟩ : MethodName)) hown (mvT hZ (hw _ (List.mem_of_getElem? (i := 10) rfl))) (mvT hZ (hw _ (List.mem_of_getElem? (i := 11) rfl))) (mvT hZ (hw _ (List.mem_of_getElem? (i := 12) rfl))) (mvT hZ (hw _ (List.mem_of_getElem? (i := 13) rfl))) (by decide) (backOf (W := 0) (rmC l Z a0 hw [] (z51 + ((((k.toUInt32 >>> ((4 : Int32) &&& 31).toUInt32).toInt32) &&& (3 : Int32)) - (1 : Int32))) h49 n0 Zs50) hZ (hw _ (List.mem_of_getElem? (i := 13) rfl)) (hw _ (List.mem_of_getElem? (i := 12) rfl)) (by decide) (by decide)) (g := (mkF mi 128 #[.val (.int c0), .val (.int k), .val (.ref b1), .val (.int (z51 + ((((k.toUInt32 >>> ((4 : Int32) &&& 31).toUInt32).toInt32) &&& (3 : Int32)) - (1 : Int32)))), .val (.int (1 : Int32)), .unset] [(.int (z51 + ((((k.toUInt32 >>> ((4 : Int32) &&& 31).toUInt32).toInt32) &&& (3 : Int32)) - (1 : Int32))))])) rfl (by rw [hml]; rfl) (argsL := [(.int (z51 + ((((k.toUInt32 >>> ((4 : Int32) &&& 31).toUInt32).toInt32) &&& (3 : Int32)) - (1 : Int32))))]) (rest := []) (lenOf pd_0 rfl) rfl (by show 2 * 0 + _ ≤ _; exact Nat.le_of_eq rfl) (hb hby at_128) (fun _ _ => ⟨rfl, e53, (by decide : 1 + 0 ≤ _), (by decide : 16 + 0 ≤ _)⟩)
  dsimp only [Pt.U, Pt.locs, Pt.cells, Pt.slots] at X54 l54 y54 z54 st54 hQ54
  subst l54 y54 z54
  obtain ⟨rfl, N54q, e54⟩ := hQ54
  have N54 := Fr.app N53 N54q
  refine Go.st st54 ?_
  show Go pg.tables ev below (T54.setTop (mkF mi 131 #[.val (.int c0), .val (.int k), .val (.ref b1), .val (.int (z51 + ((((k.toUInt32 >>> ((4 : Int32) &&& 31).toUInt32).toInt32) &&& (3 : Int32)) - (1 : Int32)))), .val (.int (1 : Int32)), .unset] [(.int (fC (z51 + ((((k.toUInt32 >>> ((4 : Int32) &&& 31).toUInt32).toInt32) &&& (3 : Int32)) - (1 : Int32)))))])) P
  refine Go.st (fun t_ k_ => XS.iloadN X54.here hx rfl (hb hby at_131) rfl k_) ?_
  show Go pg.tables ev below (T54.setTop (mkF mi 132 #[.val (.int c0), .val (.int k), .val (.ref b1), .val (.int (z51 + ((((k.toUInt32 >>> ((4 : Int32) &&& 31).toUInt32).toInt32) &&& (3 : Int32)) - (1 : Int32)))), .val (.int (1 : Int32)), .unset] [(.int (z51 + ((((k.toUInt32 >>> ((4 : Int32) &&& 31).toUInt32).toInt32) &&& (3 : Int32)) - (1 : Int32)))), (.int (fC (z51 + ((((k.toUInt32 >>> ((4 : Int32) &&& 31).toUInt32).toInt32) &&& (3 : Int32)) - (1 : Int32)))))])) P
  obtain ⟨_, _, ⟨T55, L55, k55, n55⟩, -, X55, ⟨Lc55, hQ55, l55, y55, z55⟩, st55⟩ := Jvm.LawKit.callS X54 hx (y := (⟨"com/example/hedge/hedge/xml/XmlNamesIsCharPinLaw", "ref", "(I)Z"⟩ : MethodName)) hown (mvT hZ (hw _ (List.mem_of_getElem? (i := 16) rfl))) (mvT hZ (hw _ (List.mem_of_getElem? (i := 17) rfl))) (mvT hZ (hw _ (List.mem_of_getElem? (i := 18) rfl))) (mvT hZ (hw _ (List.mem_of_getElem? (i := 19) rfl))) (by decide) (backOf (W := 1) (rmR l Z a0 hw [] (z51 + ((((k.toUInt32 >>> ((4 : Int32) &&& 31).toUInt32).toInt32) &&& (3 : Int32)) - (1 : Int32))) h49 n0 Zs50) hZ (hw _ (List.mem_of_getElem? (i := 19) rfl)) (hw _ (List.mem_of_getElem? (i := 18) rfl)) (by decide) (by decide)) (g := (mkF mi 132 #[.val (.int c0), .val (.int k), .val (.ref b1), .val (.int (z51 + ((((k.toUInt32 >>> ((4 : Int32) &&& 31).toUInt32).toInt32) &&& (3 : Int32)) - (1 : Int32)))), .val (.int (1 : Int32)), .unset] [(.int (z51 + ((((k.toUInt32 >>> ((4 : Int32) &&& 31).toUInt32).toInt32) &&& (3 : Int32)) - (1 : Int32)))), (.int (fC (z51 + ((((k.toUInt32 >>> ((4 : Int32) &&& 31).toUInt32).toInt32) &&& (3 : Int32)) - (1 : Int32)))))])) rfl (by rw [hml]; rfl) (argsL := [(.int (z51 + ((((k.toUInt32 >>> ((4 : Int32) &&& 31).toUInt32).toInt32) &&& (3 : Int32)) - (1 : Int32))))]) (rest := [(.int (fC (z51 + ((((k.toUInt32 >>> ((4 : Int32) &&& 31).toUInt32).toInt32) &&& (3 : Int32)) - (1 : Int32)))))]) (lenOf pd_0 rfl) rfl (by show 2 * 0 + _ ≤ _; exact Nat.le_of_eq rfl) (hb hby at_132) (fun _ _ => ⟨rfl, e54, (by decide : 1 + 0 ≤ _), (by decide : 16 + 0 ≤ _)⟩)
  dsimp only [Pt.U, Pt.locs, Pt.cells, Pt.slots] at X55 l55 y55 z55 st55 hQ55
  subst l55 y55 z55
  obtain ⟨rfl, N55q, e55⟩ := hQ55
  have N55 := Fr.app N54 N55q
  refine Go.st st55 ?_
  show Go pg.tables ev below (T55.setTop (mkF mi 135 #[.val (.int c0), .val (.int k), .val (.ref b1), .val (.int (z51 + ((((k.toUInt32 >>> ((4 : Int32) &&& 31).toUInt32).toInt32) &&& (3 : Int32)) - (1 : Int32)))), .val (.int (1 : Int32)), .unset] [(.int (fR (z51 + ((((k.toUInt32 >>> ((4 : Int32) &&& 31).toUInt32).toInt32) &&& (3 : Int32)) - (1 : Int32))))), (.int (fC (z51 + ((((k.toUInt32 >>> ((4 : Int32) &&& 31).toUInt32).toInt32) &&& (3 : Int32)) - (1 : Int32)))))])) P
  refine Go.st (fun t_ k_ => XS.icmpNo X55.here hx rfl (hb hby at_135) rfl (teq (own_law _)).2 k_) ?_
  show Go pg.tables ev below (T55.setTop (mkF mi 138 #[.val (.int c0), .val (.int k), .val (.ref b1), .val (.int (z51 + ((((k.toUInt32 >>> ((4 : Int32) &&& 31).toUInt32).toInt32) &&& (3 : Int32)) - (1 : Int32)))), .val (.int (1 : Int32)), .unset] [])) P
  refine Go.st (fun t_ k_ => XS.iconst X55.here hx rfl (hb hby at_138) k_) ?_
  show Go pg.tables ev below (T55.setTop (mkF mi 139 #[.val (.int c0), .val (.int k), .val (.ref b1), .val (.int (z51 + ((((k.toUInt32 >>> ((4 : Int32) &&& 31).toUInt32).toInt32) &&& (3 : Int32)) - (1 : Int32)))), .val (.int (1 : Int32)), .unset] [(.int (1 : Int32))])) P
  refine Go.st (fun t_ k_ => XS.goto X55.here hx rfl (pc0 := 139) (pc' := 143) rfl (hb hby at_139) (by decide) (by decide) k_) ?_
  show Go pg.tables ev below (T55.setTop (mkF mi 143 #[.val (.int c0), .val (.int k), .val (.ref b1), .val (.int (z51 + ((((k.toUInt32 >>> ((4 : Int32) &&& 31).toUInt32).toInt32) &&& (3 : Int32)) - (1 : Int32)))), .val (.int (1 : Int32)), .unset] [(.int (1 : Int32))])) P
  refine Go.st (fun t_ k_ => XS.istore X55.here hx rfl (hb hby at_143) rfl (l' := #[.val (.int c0), .val (.int k), .val (.ref b1), .val (.int (z51 + ((((k.toUInt32 >>> ((4 : Int32) &&& 31).toUInt32).toInt32) &&& (3 : Int32)) - (1 : Int32)))), .val (.int (1 : Int32)), .val (.int (1 : Int32))]) rfl k_) ?_
  show Go pg.tables ev below (T55.setTop (mkF mi 145 #[.val (.int c0), .val (.int k), .val (.ref b1), .val (.int (z51 + ((((k.toUInt32 >>> ((4 : Int32) &&& 31).toUInt32).toInt32) &&& (3 : Int32)) - (1 : Int32)))), .val (.int (1 : Int32)), .val (.int (1 : Int32))] [])) P
  refine Go.st (fun t_ k_ => XS.iload X55.here hx rfl (hb hby at_145) rfl k_) ?_
  show Go pg.tables ev below (T55.setTop (mkF mi 147 #[.val (.int c0), .val (.int k), .val (.ref b1), .val (.int (z51 + ((((k.toUInt32 >>> ((4 : Int32) &&& 31).toUInt32).toInt32) &&& (3 : Int32)) - (1 : Int32)))), .val (.int (1 : Int32)), .val (.int (1 : Int32))] [(.int (1 : Int32))])) P
  refine Go.st (fun t_ k_ => XS.ifNo X55.here hx rfl (hb hby at_147) rfl ((if0 _ _).trans (feq (by decide)).1) k_) ?_
  show Go pg.tables ev below (T55.setTop (mkF mi 150 #[.val (.int c0), .val (.int k), .val (.ref b1), .val (.int (z51 + ((((k.toUInt32 >>> ((4 : Int32) &&& 31).toUInt32).toInt32) &&& (3 : Int32)) - (1 : Int32)))), .val (.int (1 : Int32)), .val (.int (1 : Int32))] [])) P
  refine Go.st (fun t_ k_ => XS.iload X55.here hx rfl (hb hby at_150) rfl k_) ?_
  show Go pg.tables ev below (T55.setTop (mkF mi 152 #[.val (.int c0), .val (.int k), .val (.ref b1), .val (.int (z51 + ((((k.toUInt32 >>> ((4 : Int32) &&& 31).toUInt32).toInt32) &&& (3 : Int32)) - (1 : Int32)))), .val (.int (1 : Int32)), .val (.int (1 : Int32))] [(.int (1 : Int32))])) P
  refine Go.st (fun t_ k_ => XS.ifNo X55.here hx rfl (hb hby at_152) rfl ((if0 _ _).trans (feq (by decide)).1) k_) ?_
  show Go pg.tables ev below (T55.setTop (mkF mi 155 #[.val (.int c0), .val (.int k), .val (.ref b1), .val (.int (z51 + ((((k.toUInt32 >>> ((4 : Int32) &&& 31).toUInt32).toInt32) &&& (3 : Int32)) - (1 : Int32)))), .val (.int (1 : Int32)), .val (.int (1 : Int32))] [])) P
  refine Go.st (fun t_ k_ => XS.iconst X55.here hx rfl (hb hby at_155) k_) ?_
  show Go pg.tables ev below (T55.setTop (mkF mi 156 #[.val (.int c0), .val (.int k), .val (.ref b1), .val (.int (z51 + ((((k.toUInt32 >>> ((4 : Int32) &&& 31).toUInt32).toInt32) &&& (3 : Int32)) - (1 : Int32)))), .val (.int (1 : Int32)), .val (.int (1 : Int32))] [(.int (1 : Int32))])) P
  refine Go.st (fun t_ k_ => XS.goto X55.here hx rfl (pc0 := 156) (pc' := 160) rfl (hb hby at_156) (by decide) (by decide) k_) ?_
  show Go pg.tables ev below (T55.setTop (mkF mi 160 #[.val (.int c0), .val (.int k), .val (.ref b1), .val (.int (z51 + ((((k.toUInt32 >>> ((4 : Int32) &&& 31).toUInt32).toInt32) &&& (3 : Int32)) - (1 : Int32)))), .val (.int (1 : Int32)), .val (.int (1 : Int32))] [(.int (1 : Int32))])) P
  obtain ⟨fs, hr, hrun, hended, hW, hsame⟩ := X55.leave (v := some (.int (1 : Int32))) (fun h => by rw [Bd.returns] at h; cases h) (BodyLoose.notSynchronized Bd)
  refine ⟨_, _, ?_, hP _ _ ⟨hrun, hended, _, _, rfl, ?_, ⟨_, rfl⟩, hW, hsame.mono (by decide) (by decide)⟩⟩
  · exact retN X55 hx (t := .boolean) Bd.returns (by simp) (hb hby at_160) hr
  · show (some (.int (1 : Int32)) : Option Value) = some (.int 1) ∧ Fr n0 _
    exact ⟨rfl, N55⟩
set_option maxRecDepth 65536 in
set_option maxHeartbeats 40000000 in
theorem comes_1 {Post : Tables → Env → Array Value → State → Outcome → State → Prop} (hpost : ∀ tb e args s v u, (limb_1_1.after args s (.returned v) u = true ∧ limb_1_2.after args s (.returned v) u = true ∧ True) → FrameEnd s (.returned v) u (Jvm.fieldLocs frame_1_writes args s ++ Jvm.arrayLocs frame_1_arrays args s ++ Jvm.staticLocs frame_1_statics s) 16 128 → Post tb e args s (.returned v) u) :
    ArmFor flags0 classFile x code maxLocals ret World_1 tables_1 room_1 Calls_1 rest_1 Pre_1 Post := by
  intro l hfl _ _ p e ha hc hk s m args below hf hA hF happ hP
  obtain ⟨hcalls, hrest, hpre⟩ := hP
  obtain ⟨-, -, -, hnamed, -, -, -, hat⟩ := (Spec.applies_iff hf).mp happ
  obtain ⟨hg, hn⟩ := and_e (Cond.before_iff.mp (show (Jvm.Cond.and given_1 narrow_1).before args s = true from hpre))
  obtain ⟨g1, g2⟩ := and_e hg
  obtain ⟨g3, g4⟩ := and_e g2
  obtain ⟨w0, w1, rfl⟩ : ∃ w0 w1 : Value, args = #[w0, w1] := by
    have hs : args.size = 2 := by simpa [Cond.value, given_1] using g1
    obtain ⟨L⟩ := args
    match L, hs with
    | [w0, w1], _ => exact ⟨w0, w1, rfl⟩
  have hw := fun d (hd : d ∈ tables_1) => atoms_spec (ws := Jvm.Cond.code x code maxLocals ret :: tables_1) hat d (List.mem_cons_of_mem _ hd)
  have hfit : Fit s := fun {y c} hc i hi => by
    obtain ⟨ha, rfl⟩ := Array.getElem?_eq_some_iff.mp hc
    have q := List.all_eq_true.mp ((Array.all_eq_true_iff_forall_mem.mp hF) _ (Array.getElem_mem ha)) i (List.mem_range.mpr hi)
    simpa [Array.getElem?_eq_getElem hi] using q
  obtain ⟨i0, ei0⟩ := is_v g3
  obtain rfl : w0 = (.int i0) := Option.some.inj ei0
  obtain ⟨i1, ei1⟩ := is_v g4
  obtain rfl : w1 = (.int i1) := Option.some.inj ei1
  obtain ⟨n, o, h1, h2, h3, _, L, rfl, ⟨rfl, N⟩, hq⟩ := rm0 l s _ hw tables_1 i0 i1  s.heap s.heap.size (Nat.le_refl _)  p e ha hc hk s m _ below hf ((Spec.applies_iff_loose hf).mp happ).1 ⟨rfl, State.Warmed39.refl s, rfl⟩ trivial
  refine ⟨n, _, h1, h2, h3, hpost _ _ _ _ _ _ ⟨Cond.after_iff.mpr rfl, Cond.after_iff.mpr (eq_i res_at (Term.int_eval (1)) rfl), trivial⟩ ⟨hq.1, hq.2.1, (hq.2.2.sift fun y hy => Or.inr (N y hy)).mono (by decide) (by decide)⟩⟩
theorem main_1_1 : Claimed_1_1 := comes_1 fun _ _ _ _ _ _ h hF => ⟨h.1, hF⟩
theorem main_1_2 : Claimed_1_2 := comes_1 fun _ _ _ _ _ _ h hF => ⟨h.2.1, hF⟩
end Jvm.Pilot.@@N@@
namespace Jvm.Pilot.@@N@@
open Jvm Jvm.ClassFile Sem Op Lib Jvm.Free Jvm.Stand Jvm.Pilot.@@N@@.Jvm.D
/-! MADE BY PROGRAM (witnessworld.py) out of the Statement's table words and the real class files: 9 classes; the members and pool entries that the words name. The judged class is class 1, her method 1. -/
namespace start1
open Jvm.ClassFile
def u (s : String) : CpInfo := .utf8 (stringToUtf16 s)
/-- a pool by its gaps: so many unusable entries, then the entry; so many at the end -/
def gap : Nat → List CpInfo → List CpInfo
  | 0, r => r
  | n + 1, r => .unusable :: gap n r
def poolList (es : List (Nat × CpInfo)) (last : Nat) : List CpInfo := es.foldr (fun e r => gap e.1 (e.2 :: r)) (gap last [])
def pool (es : List (Nat × CpInfo)) (last : Nat) : Array CpInfo := ⟨poolList es last⟩
def fileOf (pool : Array CpInfo) (this : Nat) (attrs : Array Attribute := #[]) (ms : Array MethodInfo := #[]) (fl : Nat := 33) (sup : Nat := 0) (ifs : Array Nat := #[]) (fds : Array FieldInfo := #[]) : ClassFile where
  minorVersion := 0
  majorVersion := 65
  constantPool := pool
  accessFlags := fl
  thisClass := this
  superClass := sup
  interfaces := ifs
  fields := fds
  methods := ms
  attributes := attrs
def plain (name : String) (sup : Option ClassId) : Class where
  name := name
  kind := .ordinary
  loader := none
  accessFlags := 33
  super := sup
  interfaces := #[]
  cf := none
  fields := #[]
  methods := #[]
  instanceTypes := #[]
  staticTypes := #[]
  resolved := #[]
  callSites := []
  init := .initialized
  statics := none
  mirror := none

def pool0 : Array CpInfo := pool [(5, u "<init>"), (0, u "()V"), (1, .class_ 10), (1, u "java/lang/Object")] 113

def k0m0 : Method := { name := "<init>", desc := "()V", sig := { parameters := [], returnType := none }, accessFlags := 1, code := none }
/-- java/lang/Object -/
def k0 : Class := { plain "java/lang/Object" none with
  accessFlags := 33
  interfaces := #[]
  cf := some (fileOf pool0 8 #[] #[{ accessFlags := 1, nameIndex := 5, descriptorIndex := 6, attributes := #[] }] 33 0 #[] #[])
  fields := #[]
  methods := #[k0m0]
  instanceTypes := #[]
  staticTypes := #[]
  resolved := Array.replicate 124 none
  statics := none }

def pool1 : Array CpInfo := pool [(2, .class_ 4), (1, u "java/lang/Object"), (0, u "<init>"), (0, u "()V"), (0, .integer 55295), (0, .integer 57344), (0, .integer 65533), (0, .integer 65536), (0, .integer 1114111), (0, .integer 57343), (0, .integer 65535), (2, .integer 2147483648), (0, .integer 2147483647), (0, .methodref 19 20), (0, .class_ 21), (0, .nameAndType 22 23), (0, u "com/example/hedge/hedge/xml/XmlNames"), (0, u "isChar"), (0, u "(I)Z"), (0, .methodref 25 26), (0, .class_ 27), (0, .nameAndType 28 23), (0, u "com/example/hedge/hedge/xml/XmlNamesIsCharPinLaw"), (0, u "ref"), (0, .integer 55296), (0, .integer 65534), (2, u "law"), (0, u "(II)Z")] 5

def k1m0 : Method := { name := "<init>", desc := "()V", sig := { parameters := [], returnType := none }, accessFlags := 2, code := none }
def k1c1 : Code := { maxStack := 4, maxLocals := 6, code := code, exceptionTable := #[], attributes := #[] }
def k1m1 : Method := { name := "law", desc := "(II)Z", sig := { parameters := [.int, .int], returnType := some .boolean }, accessFlags := 9, code := some k1c1 }
def k1c2 : Code := { maxStack := 2, maxLocals := 1, code := method_3_code, exceptionTable := #[], attributes := #[] }
def k1m2 : Method := { name := "ref", desc := "(I)Z", sig := { parameters := [.int], returnType := some .boolean }, accessFlags := 10, code := some k1c2 }
/-- com/example/hedge/hedge/xml/XmlNamesIsCharPinLaw -/
def k1 : Class := { plain "com/example/hedge/hedge/xml/XmlNamesIsCharPinLaw" (some 0) with
  accessFlags := 49
  interfaces := #[]
  cf := some (fileOf pool1 25 #[] #[{ accessFlags := 2, nameIndex := 5, descriptorIndex := 6, attributes := #[] }, { accessFlags := 9, nameIndex := 33, descriptorIndex := 34, attributes := #[] }, { accessFlags := 10, nameIndex := 28, descriptorIndex := 23, attributes := #[] }] 49 2 #[] #[])
  fields := #[]
  methods := #[k1m0, k1m1, k1m2]
  instanceTypes := #[]
  staticTypes := #[]
  resolved := Array.replicate 40 none
  statics := none }

def pool2 : Array CpInfo := pool [(2, .class_ 4), (1, u "java/lang/Object"), (0, u "<init>"), (0, u "()V"), (0, .integer 55295), (0, .integer 57344), (0, .integer 65533), (0, .integer 65536), (0, .integer 1114111), (27, .class_ 41), (1, u "com/example/hedge/hedge/xml/XmlNames"), (34, u "NAME_STARTS"), (0, u "[J"), (7, u "(I)Z"), (2, u "NAME_CHARS"), (24, u "isChar")] 25

def k2m0 : Method := { name := "<init>", desc := "()V", sig := { parameters := [], returnType := none }, accessFlags := 2, code := none }
def k2c1 : Code := { maxStack := 2, maxLocals := 1, code := prog_156_method_2_code, exceptionTable := #[], attributes := #[] }
def k2m1 : Method := { name := "isChar", desc := "(I)Z", sig := { parameters := [.int], returnType := some .boolean }, accessFlags := 9, code := some k2c1 }
/-- com/example/hedge/hedge/xml/XmlNames -/
def k2 : Class := { plain "com/example/hedge/hedge/xml/XmlNames" (some 0) with
  accessFlags := 49
  interfaces := #[]
  cf := some (fileOf pool2 39 #[] #[{ accessFlags := 2, nameIndex := 5, descriptorIndex := 6, attributes := #[] }, { accessFlags := 9, nameIndex := 113, descriptorIndex := 85, attributes := #[] }] 49 2 #[] #[{ accessFlags := 26, nameIndex := 76, descriptorIndex := 77, attributes := #[] }, { accessFlags := 26, nameIndex := 88, descriptorIndex := 77, attributes := #[] }])
  fields := #[{ name := "NAME_STARTS", type := (.array .long), accessFlags := 26, slot := 0, constantValue := 0 }, { name := "NAME_CHARS", type := (.array .long), accessFlags := 26, slot := 1, constantValue := 0 }]
  methods := #[k2m0, k2m1]
  instanceTypes := #[]
  staticTypes := #[(.array .long), (.array .long)]
  resolved := Array.replicate 139 none
  statics := none }

def pool3 : Array CpInfo := pool [(1, u "java/lang/Cloneable"), (0, .class_ 1), (0, u "java/lang/Object"), (0, .class_ 3)] 3

/-- java/lang/Cloneable -/
def k3 : Class := { plain "java/lang/Cloneable" (some 0) with
  accessFlags := 1537
  interfaces := #[]
  cf := some (fileOf pool3 2 #[] #[] 1537 4 #[] #[])
  fields := #[]
  methods := #[]
  instanceTypes := #[]
  staticTypes := #[]
  resolved := Array.replicate 8 none
  statics := none }

def pool4 : Array CpInfo := pool [(1, u "java/io/Serializable"), (0, .class_ 1), (0, u "java/lang/Object"), (0, .class_ 3)] 3

/-- java/io/Serializable -/
def k4 : Class := { plain "java/io/Serializable" (some 0) with
  accessFlags := 1537
  interfaces := #[]
  cf := some (fileOf pool4 2 #[] #[] 1537 4 #[] #[])
  fields := #[]
  methods := #[]
  instanceTypes := #[]
  staticTypes := #[]
  resolved := Array.replicate 8 none
  statics := none }

/-- the primitive byte -/
def k5 : Class := { plain "byte" none with kind := .primitive 'B', accessFlags := 0x411 }
/-- [B -/
def k6 : Class := { plain "[B" (some 0) with kind := .array 5 .byte, interfaces := #[3, 4], accessFlags := 1041 }

/-- the primitive int -/
def k7 : Class := { plain "int" none with kind := .primitive 'I', accessFlags := 0x411 }
/-- [I -/
def k8 : Class := { plain "[I" (some 0) with kind := .array 7 .int, interfaces := #[3, 4], accessFlags := 1041 }

def heap : Heap := #[]
def classes : Array Class := #[k0, k1, k2, k3, k4, k5, k6, k7, k8]
def interned : List (Array UInt16 × Addr) := []
def slotsUsed : Nat := 0
def theMethod : MethodId := ⟨1, 1⟩
def args0 : Array Value := #[.int 3, .int 5]
def aboutOver (below : List Frame) : State where
  vm := { classes := classes, interned := interned.toArray }
  heap := heap
  slotsUsed := slotsUsed
  threads := #[{ frames := .invoking theMethod args0 :: below }]
def below0 : List Frame := [.native { method := ⟨0, 0⟩, args := #[] }]
def about1 : State := aboutOver below0
def p0 : Program := .bare "" "" ""
def e0 : Env := launch0.env 0 0 0
theorem w_frames : about1.frames = Frame.invoking theMethod args0 :: below0 := rfl
set_option maxRecDepth 65536 in
theorem w_args : argsFit about1.vm theMethod args0 = true := by decide +kernel
set_option maxRecDepth 65536 in
theorem w_heap : heapFits about1 = true := by decide +kernel
set_option maxRecDepth 65536 in
theorem w_runnable : about1.curStatus? = some .runnable := by decide +kernel
set_option maxRecDepth 65536 in
theorem w_alone : about1.alone = true := by decide +kernel
set_option maxRecDepth 65536 in
theorem w_named : about1.methodNamed? x = some theMethod := by decide +kernel
set_option maxRecDepth 65536 in
theorem w_hears : about1.hears theMethod below0 = true := by decide +kernel
set_option maxRecDepth 65536 in
theorem w_ripe : about1.ripe theMethod args0 below0 = true := by decide +kernel
theorem w_running : about1.status = .running := rfl
set_option maxRecDepth 65536 in
theorem w_room : about1.hasRoom e0.platform room_1 = true :=
  launch0.hasRoom_least _ room_1 (by decide +kernel) (by decide +kernel) (by decide +kernel) (by decide +kernel) (by decide +kernel) (by decide +kernel)
theorem allAtoms_all (ts : List Jvm.Cond) (a : Array Jvm.Value) (st : Jvm.State) : (allAtoms ts).before a st = ts.all (fun c => c.before a st) := by
  induction ts with
  | nil => rfl
  | cons c t ih =>
    show (Jvm.Cond.and c (allAtoms t)).before a st = _
    rw [Jvm.Cond.before_and, ih, List.all_cons]
def words1 : List Jvm.Cond := Jvm.Cond.code x code maxLocals ret :: tables_1
/-- a 'code' word, met by the world's own term for the bytes: nothing is compared byte by byte -/
theorem code_word {y : MethodName} {bytes : ByteArray} {mx : Nat} {rt : Option FieldType} {a : Array Value} {s : State} {m : MethodId} {meth : Method} {c : Code} (h1 : s.methodNamed? y = some m) (h2 : s.vm.method? m = some meth) (h3 : meth.code = some c) (h4 : c.code = bytes)
    (h5 : (c.maxLocals == mx && c.exceptionTable.isEmpty && decide (c.maxStack ≤ mostOperands) && decide (meth.sig.returnType = rt) && !meth.locks && decide (parseMethodDescriptor y.desc = some meth.sig)) = true) : (Jvm.Cond.code y bytes mx rt).before a s = true := by
  simp only [Bool.and_eq_true, beq_iff_eq, Bool.not_eq_true', decide_eq_true_eq] at h5
  obtain ⟨⟨⟨⟨⟨g1, g2⟩, g3⟩, g4⟩, g5⟩, g6⟩ := h5
  simp [Cond.before, Cond.holds, Cond.value, h1, h2, h3, h4, g1, g2, g3, g4, g5, g6]
def isCode : Jvm.Cond → Bool
  | .code _ _ _ _ => true
  | _ => false
theorem all_split {L : List Jvm.Cond} {P : Jvm.Cond → Bool} (h1 : L.all (fun c => isCode c || P c) = true) (h2 : ∀ c ∈ L.filter isCode, P c = true) : L.all P = true := by
  refine List.all_eq_true.mpr fun c hc => ?_
  have h := List.all_eq_true.mp h1 c hc
  rcases Bool.eq_false_or_eq_true (isCode c) with hi | hi
  · exact h2 c (List.mem_filter.mpr ⟨hc, hi⟩)
  · simpa [hi] using h
set_option maxRecDepth 65536 in
theorem w_c0 : (Jvm.Cond.code x code maxLocals ret).before args0 about1 = true := code_word (m := ⟨1, 1⟩) (meth := k1m1) (c := k1c1) (by decide +kernel) rfl rfl rfl (by decide +kernel)
set_option maxRecDepth 65536 in
theorem w_c1 : (Jvm.Cond.code ({ cls := "com/example/hedge/hedge/xml/XmlNames", name := "isChar", desc := "(I)Z" } : Jvm.MethodName) prog_156_method_2_code (1 : Nat) (Option.some Jvm.ClassFile.FieldType.boolean)).before args0 about1 = true := code_word (m := ⟨2, 1⟩) (meth := k2m1) (c := k2c1) (by decide +kernel) rfl rfl rfl (by decide +kernel)
set_option maxRecDepth 65536 in
theorem w_c2 : (Jvm.Cond.code ({ cls := "com/example/hedge/hedge/xml/XmlNamesIsCharPinLaw", name := "ref", desc := "(I)Z" } : Jvm.MethodName) method_3_code (1 : Nat) (Option.some Jvm.ClassFile.FieldType.boolean)).before args0 about1 = true := code_word (m := ⟨1, 2⟩) (meth := k1m2) (c := k1c2) (by decide +kernel) rfl rfl rfl (by decide +kernel)
def codes1 : List Jvm.Cond := [Jvm.Cond.code x code maxLocals ret, Jvm.Cond.code ({ cls := "com/example/hedge/hedge/xml/XmlNames", name := "isChar", desc := "(I)Z" } : Jvm.MethodName) prog_156_method_2_code (1 : Nat) (Option.some Jvm.ClassFile.FieldType.boolean), Jvm.Cond.code ({ cls := "com/example/hedge/hedge/xml/XmlNamesIsCharPinLaw", name := "ref", desc := "(I)Z" } : Jvm.MethodName) method_3_code (1 : Nat) (Option.some Jvm.ClassFile.FieldType.boolean)]
set_option maxRecDepth 65536 in
theorem codes_eq : words1.filter isCode = codes1 := rfl
theorem w_codes : ∀ c ∈ words1.filter isCode, c.before args0 about1 = true := by
  rw [codes_eq]
  intro c hc
  simp only [codes1, List.mem_cons, List.not_mem_nil, or_false] at hc
  rcases hc with rfl | rfl | rfl
  · exact w_c0
  · exact w_c1
  · exact w_c2
set_option maxRecDepth 65536 in
theorem w_t1 : (words1.take 24).all (fun c => isCode c || c.before args0 about1) = true := by decide +kernel
set_option maxRecDepth 65536 in
theorem w_t2 : (words1.drop 24).all (fun c => isCode c || c.before args0 about1) = true := by decide +kernel
theorem w_tables : (allAtoms (Jvm.Cond.code x code maxLocals ret :: tables_1)).before args0 about1 = true := by
  rw [allAtoms_all]
  show words1.all (fun c => c.before args0 about1) = true
  refine all_split ?_ w_codes
  rw [← List.take_append_drop 24 words1, List.all_append, w_t1, w_t2]
  rfl
set_option maxRecDepth 65536 in
theorem w_case : (Jvm.Cond.and given_1 narrow_1).before args0 about1 = true := by decide +kernel
theorem w_applies : (headSpec (Jvm.Cond.code x code maxLocals ret :: tables_1) room_1).applies x e0.platform about1 = true :=
  (Spec.applies_iff w_frames).mpr ⟨w_running, w_runnable, w_alone, w_named, w_hears, w_ripe, w_room, w_tables⟩
theorem atStart : AtStart classFile x code maxLocals ret World_1 tables_1 room_1 Calls_1 rest_1 Pre_1 launch0 p0 e0 about1 theMethod args0 below0 :=
  ⟨lists_1, trivial, launch0.admits_env _ _ _, launch0.least_env, fairChoices_fair.cas, fairChoices_fair.clock, w_frames, w_args, w_heap, w_applies, trivial, trivial, w_case⟩
end start1
theorem witness_1 : WitnessClaimed_1 := ⟨start1.p0, start1.e0, start1.about1, start1.theMethod, start1.args0, start1.below0, start1.atStart⟩
end Jvm.Pilot.@@N@@
