import JvmDerived
import JvmDerived.Pilot.@@N@@Statement
import JvmDerived.Pilot.@@N@@Code
set_option linter.unusedVariables false
set_option linter.unusedSimpArgs false
namespace Jvm.RoadKit
open Sem ClassFile Op Lib Jvm.Stand Jvm.Free Jvm.LawKit
section New
variable {p : Program} {l : Launch} {e : Env} {R : Room} {s : State} {m : MethodId} {args : Array Value} {below : List Frame} {meth : Method} {c : Code} {T : State} {locs : List Loc} {cells slots : Nat}
theorem retI (X : Stand p l e R s m args below meth c T locs cells slots) (hx : p.tables.exec = Jvm.exec) {pc : Nat} {Ls : Array Slot} {z : Int32} {rest : List Value} (hret : meth.sig.returnType = some .int) (hd : decode c.code pc = .ok (.ireturn, 1)) {fs : List Frame}
    (hl : ∀ (f : JFrame) (acts : List Action), f.method = m → f.locked = none → f.entered = [] → (doReturn e (T.setTop f) acts (some (.int z))).1 = T.setFrames fs) : Steps p.tables e below (T.setTop (mkF m pc Ls (.int z :: rest))) (T.setFrames fs) := by
  have hm' : T.vm.method? m = some meth := X.method'
  have hn : narrow .int (.int z) = .int z := rfl
  show Steps p.tables e below (T.setTop { method := m, pc := pc, locals := Ls, stack := _ :: rest, locked := none }) _
  jvm_step X.here [X.here.top, hx, hd, hm', hret, hn]
  first | (intro acts; rw [hl _ acts rfl rfl rfl]) | rw [hl _ _ rfl rfl rfl]
  exact Steps.refl _
theorem own_nb {t : FieldType} {c : Prop} [Decidable c] {a b : Int32} (ha : nar t a = a) (hb : nar t b = b) : nar t (if c then a else b) = (if c then a else b) := by
  by_cases h : c
  · rw [if_pos h]; exact ha
  · rw [if_neg h]; exact hb
theorem own_retN (X : Stand p l e R s m args below meth c T locs cells slots) (hx : p.tables.exec = Jvm.exec) {pc : Nat} {Ls : Array Slot} {z : Int32} {t : FieldType} {rest : List Value} (hret : meth.sig.returnType = some t) (ht : t = .boolean ∨ t = .byte ∨ t = .char ∨ t = .short) (hz : nar t z = z)
    (hd : decode c.code pc = .ok (.ireturn, 1)) {fs : List Frame} (hl : ∀ (f : JFrame) (acts : List Action), f.method = m → f.locked = none → f.entered = [] → (doReturn e (T.setTop f) acts (some (.int z))).1 = T.setFrames fs) :
    Steps p.tables e below (T.setTop (mkF m pc Ls (.int z :: rest))) (T.setFrames fs) := retN X hx hret ht hd (by rw [hz]; exact hl)
end New
end Jvm.RoadKit
namespace Jvm.Pilot.@@N@@
open Jvm Jvm.ClassFile Sem Op Lib Jvm.Free Jvm.Stand Jvm.LawKit Jvm.RoadKit Bundle Jvm.Pilot.@@N@@.Jvm.D
/-- from the state A the run comes to some end that P takes -/
def Go (tb : Tables) (e : Env) (below : List Frame) (A : State) (P : State → Outcome → Prop) : Prop := ∃ t o, Steps tb e below A t ∧ P t o
theorem Go.st {tb : Tables} {e : Env} {below : List Frame} {A B : State} {P : State → Outcome → Prop} (h : ∀ t, Steps tb e below A t → Steps tb e below B t) (k : Go tb e below A P) : Go tb e below B P := by
  obtain ⟨t, o, h1, h2⟩ := k; exact ⟨t, o, h t h1, h2⟩
theorem Go.tr {tb : Tables} {e : Env} {below : List Frame} {A B : State} {P : State → Outcome → Prop} (h : Steps tb e below B A) (k : Go tb e below A P) : Go tb e below B P := by
  obtain ⟨t, o, h1, h2⟩ := k; exact ⟨t, o, h.trans h1, h2⟩
theorem Go.start {tb : Tables} {e : Env} {below : List Frame} {A : State} {P0 : State → Outcome → Prop} (h : ∀ P : State → Outcome → Prop, (∀ t o, P0 t o → P t o) → Go tb e below A P) : ∃ t o, Steps tb e below A t ∧ P0 t o := h P0 (fun _ _ q => q)
theorem own_cat {v : Value} (h : v.isRef = true) : v.category = 1 := by rcases ref_cases h with rfl | ⟨_, rfl⟩ <;> rfl
theorem own_cst {tb : Tables} {e : Env} {below : List Frame} {T : State} {m : MethodId} {J : Nat} {Ls : Array Slot} {a b : Int32} {rest : List Value} {t : State} (h : a = b) (k : Steps tb e below (T.setTop (mkF m J Ls (.int a :: rest))) t) : Steps tb e below (T.setTop (mkF m J Ls (.int b :: rest))) t := h ▸ k
theorem own_lt {x y : Int64} (h : x < y) : lcmpW x y < 0 := (lw_lt x y).mpr h
theorem own_nlt {x y : Int64} (h : ¬ x < y) : ¬ lcmpW x y < 0 := fun q => h ((lw_lt x y).mp q)
theorem own_gt {x y : Int64} (h : y < x) : 0 < lcmpW x y := (lw_gt x y).mpr h
theorem own_ngt {x y : Int64} (h : ¬ y < x) : ¬ 0 < lcmpW x y := fun q => h ((lw_gt x y).mp q)
theorem own_eq {x y : Int64} (h : x = y) : lcmpW x y = 0 := (lw_eq x y).mpr h
theorem own_neq {x y : Int64} (h : ¬ x = y) : ¬ lcmpW x y = 0 := fun q => h ((lw_eq x y).mp q)
theorem d_method_2_0 : decode method_2_code 0 = .ok (.iload_n 2, 1) := by decide +kernel
theorem d_method_2_1 : decode method_2_code 1 = .ok (.ifCond .ne 5, 3) := by decide +kernel
theorem d_method_2_4 : decode method_2_code 4 = .ok (.lload_n 0, 1) := by decide +kernel
theorem d_method_2_5 : decode method_2_code 5 = .ok (.lreturn, 1) := by decide +kernel
theorem d_method_2_6 : decode method_2_code 6 = .ok (.iload_n 2, 1) := by decide +kernel
theorem d_method_2_7 : decode method_2_code 7 = .ok (.iconst 1, 1) := by decide +kernel
theorem d_method_2_8 : decode method_2_code 8 = .ok (.if_icmp .ne 7, 3) := by decide +kernel
theorem d_method_2_11 : decode method_2_code 11 = .ok (.ldc2_w 9, 3) := by decide +kernel
theorem d_method_2_14 : decode method_2_code 14 = .ok (.lreturn, 1) := by decide +kernel
theorem d_method_2_15 : decode method_2_code 15 = .ok (.iload_n 2, 1) := by decide +kernel
theorem d_method_2_16 : decode method_2_code 16 = .ok (.iconst 2, 1) := by decide +kernel
theorem d_method_2_17 : decode method_2_code 17 = .ok (.if_icmp .ne 13, 3) := by decide +kernel
theorem d_method_2_20 : decode method_2_code 20 = .ok (.ldc2_w 11, 3) := by decide +kernel
theorem d_method_2_23 : decode method_2_code 23 = .ok (.lload_n 0, 1) := by decide +kernel
theorem d_method_2_24 : decode method_2_code 24 = .ok (.ldc2_w 13, 3) := by decide +kernel
theorem d_method_2_27 : decode method_2_code 27 = .ok (.land, 1) := by decide +kernel
theorem d_method_2_28 : decode method_2_code 28 = .ok (.lsub, 1) := by decide +kernel
theorem d_method_2_29 : decode method_2_code 29 = .ok (.lreturn, 1) := by decide +kernel
theorem d_method_2_30 : decode method_2_code 30 = .ok (.ldc2_w 9, 3) := by decide +kernel
theorem d_method_2_33 : decode method_2_code 33 = .ok (.lload_n 0, 1) := by decide +kernel
theorem d_method_2_34 : decode method_2_code 34 = .ok (.ldc2_w 13, 3) := by decide +kernel
theorem d_method_2_37 : decode method_2_code 37 = .ok (.land, 1) := by decide +kernel
theorem d_method_2_38 : decode method_2_code 38 = .ok (.ladd, 1) := by decide +kernel
theorem d_method_2_39 : decode method_2_code 39 = .ok (.lreturn, 1) := by decide +kernel
theorem pn_0 : plainName "com/example/crossbook/crossbook/clearing/PrecisionAddPinLaw" = true := by first | (simp [plainName, overriddenIn]; done) | decide +kernel
theorem ef_rmP (mi : MethodId) (v : Int64) (k : Int32) : entryFrame mi #[(.long v), (.int k)] 3 = mkF mi 0 #[.val (.long v), .second, .val (.int k)] [] := by first | (simp [entryFrame, mkF, argsToLocals, Value.category]; done) | rfl
def fP (v : Int64) (k : Int32) : Int64 := (if k = (0 : Int32) then v else (if k = (1 : Int32) then (-9223372036854775808 : Int64) else (if k = (2 : Int32) then ((9223372036854775807 : Int64) - (v &&& (255 : Int64))) else ((-9223372036854775808 : Int64) + (v &&& (255 : Int64))))))
def Q_rmP (Z : State) (v : Int64) (k : Int32) (h0 : Heap) (n0 : Nat) (vv_ : Option Value) (hh_ : Heap) (LL_ : List Loc) : Prop := vv_ = some (.long (fP v k)) ∧ Fr n0 LL_ ∧ hh_ = h0
set_option maxRecDepth 65536 in
set_option maxHeartbeats 40000000 in
theorem rmP (l : Launch) (Z : State) (a0 : Array Value) (hw : ∀ d ∈ tables_1, d.before a0 Z = true) (ws : List Jvm.Cond) (v : Int64) (k : Int32) (h0 : Heap) (n0 : Nat) (Z0 : n0 ≤ h0.size) :
    MetFree l (⟨"com/example/crossbook/crossbook/clearing/PrecisionAddPinLaw", "pick", "(JI)J"⟩ : MethodName) (head1 (Jvm.Cond.code (⟨"com/example/crossbook/crossbook/clearing/PrecisionAddPinLaw", "pick", "(JI)J"⟩ : MethodName) method_2_code 3 (some .long) :: ws) ({ frames := 0, cells := 0, slots := 0, locals := 0 } : Room)) (fun aa_ U => aa_ = #[(.long v), (.int k)] ∧ Z.Warmed39 U.vm ∧ U.heap = h0) (fun _ _ _ _ _ => True) (fun _ U oo_ UV_ => ∃ vv_ LL_, oo_ = .returned vv_ ∧ Q_rmP Z v k h0 n0 vv_ UV_.heap LL_ ∧ FrameEnd U oo_ UV_ LL_ ({ frames := 0, cells := 0, slots := 0, locals := 0 } : Room).cells ({ frames := 0, cells := 0, slots := 0, locals := 0 } : Room).slots) := by
  refine MetFree.of_bodySF (plainFor_of_name pn_0) hisR ?_
  intro pg ev si mi args below meth ci s₁ Bd hml0 hP0 hK
  obtain ⟨rfl, hZ, hh⟩ := hP0
  have hx := Bd.exec
  have hby := Bd.bytes
  have hml : ci.maxLocals = 3 := hml0
  have hown : si.vm.findClass "com/example/crossbook/crossbook/clearing/PrecisionAddPinLaw" = some mi.cls := findClass_of_methodNamed Bd.named
  have hnm := (name_of_methodNamed Bd.named Bd.method).1
  have X0 : Stand pg l ev ({ frames := 0, cells := 0, slots := 0, locals := 0 } : Room) si mi #[(.long v), (.int k)] below meth ci s₁ [] 0 0 := Stand.of_body Bd
  have e0 : s₁.heap = h0 := by rw [← hh, Bd.state]; rfl
  have N0 := Fr.nil n0
  refine Go.start (fun P hP => ?_)
  refine Go.st (fun t_ k_ => castTop (ef_rmP mi v k) k_) (A := s₁.setTop (mkF mi 0 #[.val (.long v), .second, .val (.int k)] [])) ?_
  show Go pg.tables ev below (s₁.setTop (mkF mi 0 #[.val (.long v), .second, .val (.int k)] [])) P
  refine Go.st (fun t_ k_ => XS.iloadN X0.here hx rfl (hb hby d_method_2_0) rfl k_) ?_
  show Go pg.tables ev below (s₁.setTop (mkF mi 1 #[.val (.long v), .second, .val (.int k)] [(.int k)])) P
  by_cases hc1_1 : k = (0 : Int32)
  · refine Go.st (fun t_ k_ => XS.ifNo X0.here hx rfl (hb hby d_method_2_1) rfl ((if0 _ _).trans (teq hc1_1).2) k_) ?_
    show Go pg.tables ev below (s₁.setTop (mkF mi 4 #[.val (.long v), .second, .val (.int k)] [])) P
    refine Go.st (fun t_ k_ => XS.lloadN X0.here hx rfl (hb hby d_method_2_4) rfl k_) ?_
    show Go pg.tables ev below (s₁.setTop (mkF mi 5 #[.val (.long v), .second, .val (.int k)] [(.long v)])) P
    obtain ⟨fs, hr, hrun, hended, hW, hsame⟩ := X0.leave (v := some (.long v)) (fun h => by rw [Bd.returns] at h; cases h) (BodyLoose.notSynchronized Bd)
    refine ⟨_, _, ?_, hP _ _ ⟨hrun, hended, _, _, rfl, ?_, ⟨_, rfl⟩, hW, hsame.mono (by decide) (by decide)⟩⟩
    · exact retOut X0 hx Bd.returns rfl (Or.inr (Or.inl ⟨rfl, rfl, _, rfl⟩)) (hb hby d_method_2_5) hr
    · show (some (.long v) : Option Value) = some (.long (fP v k)) ∧ Fr n0 _ ∧ s₁.heap = h0
      rw [e0]
      exact ⟨by rw [show fP v k = v from ((if_pos hc1_1).trans rfl)], N0, rfl⟩
  · refine Go.st (fun t_ k_ => XS.ifYes X0.here hx rfl (pc0 := 1) (pc' := 6) rfl (hb hby d_method_2_1) rfl ((if0 _ _).trans (feq hc1_1).2) (by decide) (by decide) k_) ?_
    show Go pg.tables ev below (s₁.setTop (mkF mi 6 #[.val (.long v), .second, .val (.int k)] [])) P
    refine Go.st (fun t_ k_ => XS.iloadN X0.here hx rfl (hb hby d_method_2_6) rfl k_) ?_
    show Go pg.tables ev below (s₁.setTop (mkF mi 7 #[.val (.long v), .second, .val (.int k)] [(.int k)])) P
    refine Go.st (fun t_ k_ => XS.iconst X0.here hx rfl (hb hby d_method_2_7) k_) ?_
    show Go pg.tables ev below (s₁.setTop (mkF mi 8 #[.val (.long v), .second, .val (.int k)] [(.int (1 : Int32)), (.int k)])) P
    by_cases hc8_2 : k = (1 : Int32)
    · refine Go.st (fun t_ k_ => XS.icmpNo X0.here hx rfl (hb hby d_method_2_8) rfl (teq hc8_2).2 k_) ?_
      show Go pg.tables ev below (s₁.setTop (mkF mi 11 #[.val (.long v), .second, .val (.int k)] [])) P
      refine Go.st (X0.ldc2Long hx hown (mvT hZ (hw _ (List.mem_of_getElem? (i := 12) rfl))) (g := (mkF mi 11 #[.val (.long v), .second, .val (.int k)] [])) rfl (hb hby d_method_2_11)) ?_
      show Go pg.tables ev below (s₁.setTop (mkF mi 14 #[.val (.long v), .second, .val (.int k)] [(.long (-9223372036854775808 : Int64))])) P
      obtain ⟨fs, hr, hrun, hended, hW, hsame⟩ := X0.leave (v := some (.long (-9223372036854775808 : Int64))) (fun h => by rw [Bd.returns] at h; cases h) (BodyLoose.notSynchronized Bd)
      refine ⟨_, _, ?_, hP _ _ ⟨hrun, hended, _, _, rfl, ?_, ⟨_, rfl⟩, hW, hsame.mono (by decide) (by decide)⟩⟩
      · exact retOut X0 hx Bd.returns rfl (Or.inr (Or.inl ⟨rfl, rfl, _, rfl⟩)) (hb hby d_method_2_14) hr
      · show (some (.long (-9223372036854775808 : Int64)) : Option Value) = some (.long (fP v k)) ∧ Fr n0 _ ∧ s₁.heap = h0
        rw [e0]
        exact ⟨by rw [show fP v k = (-9223372036854775808 : Int64) from ((if_neg hc1_1).trans ((if_pos hc8_2).trans rfl))], N0, rfl⟩
    · refine Go.st (fun t_ k_ => XS.icmpYes X0.here hx rfl (pc0 := 8) (pc' := 15) rfl (hb hby d_method_2_8) rfl (feq hc8_2).2 (by decide) (by decide) k_) ?_
      show Go pg.tables ev below (s₁.setTop (mkF mi 15 #[.val (.long v), .second, .val (.int k)] [])) P
      refine Go.st (fun t_ k_ => XS.iloadN X0.here hx rfl (hb hby d_method_2_15) rfl k_) ?_
      show Go pg.tables ev below (s₁.setTop (mkF mi 16 #[.val (.long v), .second, .val (.int k)] [(.int k)])) P
      refine Go.st (fun t_ k_ => XS.iconst X0.here hx rfl (hb hby d_method_2_16) k_) ?_
      show Go pg.tables ev below (s₁.setTop (mkF mi 17 #[.val (.long v), .second, .val (.int k)] [(.int (2 : Int32)), (.int k)])) P
      by_cases hc17_3 : k = (2 : Int32)
      · refine Go.st (fun t_ k_ => XS.icmpNo X0.here hx rfl (hb hby d_method_2_17) rfl (teq hc17_3).2 k_) ?_
        show Go pg.tables ev below (s₁.setTop (mkF mi 20 #[.val (.long v), .second, .val (.int k)] [])) P
        refine Go.st (X0.ldc2Long hx hown (mvT hZ (hw _ (List.mem_of_getElem? (i := 13) rfl))) (g := (mkF mi 20 #[.val (.long v), .second, .val (.int k)] [])) rfl (hb hby d_method_2_20)) ?_
        show Go pg.tables ev below (s₁.setTop (mkF mi 23 #[.val (.long v), .second, .val (.int k)] [(.long (9223372036854775807 : Int64))])) P
        refine Go.st (fun t_ k_ => XS.lloadN X0.here hx rfl (hb hby d_method_2_23) rfl k_) ?_
        show Go pg.tables ev below (s₁.setTop (mkF mi 24 #[.val (.long v), .second, .val (.int k)] [(.long v), (.long (9223372036854775807 : Int64))])) P
        refine Go.st (X0.ldc2Long hx hown (mvT hZ (hw _ (List.mem_of_getElem? (i := 14) rfl))) (g := (mkF mi 24 #[.val (.long v), .second, .val (.int k)] [(.long v), (.long (9223372036854775807 : Int64))])) rfl (hb hby d_method_2_24)) ?_
        show Go pg.tables ev below (s₁.setTop (mkF mi 27 #[.val (.long v), .second, .val (.int k)] [(.long (255 : Int64)), (.long v), (.long (9223372036854775807 : Int64))])) P
        refine Go.st (fun t_ k_ => XS.land X0.here hx rfl (hb hby d_method_2_27) rfl k_) ?_
        show Go pg.tables ev below (s₁.setTop (mkF mi 28 #[.val (.long v), .second, .val (.int k)] [(.long (v &&& (255 : Int64))), (.long (9223372036854775807 : Int64))])) P
        refine Go.st (fun t_ k_ => XS.lsub X0.here hx rfl (hb hby d_method_2_28) rfl k_) ?_
        show Go pg.tables ev below (s₁.setTop (mkF mi 29 #[.val (.long v), .second, .val (.int k)] [(.long ((9223372036854775807 : Int64) - (v &&& (255 : Int64))))])) P
        obtain ⟨fs, hr, hrun, hended, hW, hsame⟩ := X0.leave (v := some (.long ((9223372036854775807 : Int64) - (v &&& (255 : Int64))))) (fun h => by rw [Bd.returns] at h; cases h) (BodyLoose.notSynchronized Bd)
        refine ⟨_, _, ?_, hP _ _ ⟨hrun, hended, _, _, rfl, ?_, ⟨_, rfl⟩, hW, hsame.mono (by decide) (by decide)⟩⟩
        · exact retOut X0 hx Bd.returns rfl (Or.inr (Or.inl ⟨rfl, rfl, _, rfl⟩)) (hb hby d_method_2_29) hr
        · show (some (.long ((9223372036854775807 : Int64) - (v &&& (255 : Int64)))) : Option Value) = some (.long (fP v k)) ∧ Fr n0 _ ∧ s₁.heap = h0
          rw [e0]
          exact ⟨by rw [show fP v k = ((9223372036854775807 : Int64) - (v &&& (255 : Int64))) from ((if_neg hc1_1).trans ((if_neg hc8_2).trans ((if_pos hc17_3).trans rfl)))], N0, rfl⟩
      · refine Go.st (fun t_ k_ => XS.icmpYes X0.here hx rfl (pc0 := 17) (pc' := 30) rfl (hb hby d_method_2_17) rfl (feq hc17_3).2 (by decide) (by decide) k_) ?_
        show Go pg.tables ev below (s₁.setTop (mkF mi 30 #[.val (.long v), .second, .val (.int k)] [])) P
        refine Go.st (X0.ldc2Long hx hown (mvT hZ (hw _ (List.mem_of_getElem? (i := 12) rfl))) (g := (mkF mi 30 #[.val (.long v), .second, .val (.int k)] [])) rfl (hb hby d_method_2_30)) ?_
        show Go pg.tables ev below (s₁.setTop (mkF mi 33 #[.val (.long v), .second, .val (.int k)] [(.long (-9223372036854775808 : Int64))])) P
        refine Go.st (fun t_ k_ => XS.lloadN X0.here hx rfl (hb hby d_method_2_33) rfl k_) ?_
        show Go pg.tables ev below (s₁.setTop (mkF mi 34 #[.val (.long v), .second, .val (.int k)] [(.long v), (.long (-9223372036854775808 : Int64))])) P
        refine Go.st (X0.ldc2Long hx hown (mvT hZ (hw _ (List.mem_of_getElem? (i := 14) rfl))) (g := (mkF mi 34 #[.val (.long v), .second, .val (.int k)] [(.long v), (.long (-9223372036854775808 : Int64))])) rfl (hb hby d_method_2_34)) ?_
        show Go pg.tables ev below (s₁.setTop (mkF mi 37 #[.val (.long v), .second, .val (.int k)] [(.long (255 : Int64)), (.long v), (.long (-9223372036854775808 : Int64))])) P
        refine Go.st (fun t_ k_ => XS.land X0.here hx rfl (hb hby d_method_2_37) rfl k_) ?_
        show Go pg.tables ev below (s₁.setTop (mkF mi 38 #[.val (.long v), .second, .val (.int k)] [(.long (v &&& (255 : Int64))), (.long (-9223372036854775808 : Int64))])) P
        refine Go.st (fun t_ k_ => XS.ladd X0.here hx rfl (hb hby d_method_2_38) rfl k_) ?_
        show Go pg.tables ev below (s₁.setTop (mkF mi 39 #[.val (.long v), .second, .val (.int k)] [(.long ((-9223372036854775808 : Int64) + (v &&& (255 : Int64))))])) P
        obtain ⟨fs, hr, hrun, hended, hW, hsame⟩ := X0.leave (v := some (.long ((-9223372036854775808 : Int64) + (v &&& (255 : Int64))))) (fun h => by rw [Bd.returns] at h; cases h) (BodyLoose.notSynchronized Bd)
        refine ⟨_, _, ?_, hP _ _ ⟨hrun, hended, _, _, rfl, ?_, ⟨_, rfl⟩, hW, hsame.mono (by decide) (by decide)⟩⟩
        · exact retOut X0 hx Bd.returns rfl (Or.inr (Or.inl ⟨rfl, rfl, _, rfl⟩)) (hb hby d_method_2_39) hr
        · show (some (.long ((-9223372036854775808 : Int64) + (v &&& (255 : Int64)))) : Option Value) = some (.long (fP v k)) ∧ Fr n0 _ ∧ s₁.heap = h0
          rw [e0]
          exact ⟨by rw [show fP v k = ((-9223372036854775808 : Int64) + (v &&& (255 : Int64))) from ((if_neg hc1_1).trans ((if_neg hc8_2).trans ((if_neg hc17_3).trans rfl)))], N0, rfl⟩
theorem d_prog_88_method_5_0 : decode prog_88_method_5_code 0 = .ok (.lload_n 0, 1) := by decide +kernel
theorem d_prog_88_method_5_1 : decode prog_88_method_5_code 1 = .ok (.lload_n 2, 1) := by decide +kernel
theorem d_prog_88_method_5_2 : decode prog_88_method_5_code 2 = .ok (.ladd, 1) := by decide +kernel
theorem d_prog_88_method_5_3 : decode prog_88_method_5_code 3 = .ok (.lstore 4, 2) := by decide +kernel
theorem d_prog_88_method_5_5 : decode prog_88_method_5_code 5 = .ok (.lload_n 0, 1) := by decide +kernel
theorem d_prog_88_method_5_6 : decode prog_88_method_5_code 6 = .ok (.ldc2_w 31, 3) := by decide +kernel
theorem d_prog_88_method_5_9 : decode prog_88_method_5_code 9 = .ok (.lcmp, 1) := by decide +kernel
theorem d_prog_88_method_5_10 : decode prog_88_method_5_code 10 = .ok (.ifCond .eq 34, 3) := by decide +kernel
theorem d_prog_88_method_5_44 : decode prog_88_method_5_code 44 = .ok (.ldc2_w 31, 3) := by decide +kernel
theorem d_prog_88_method_5_47 : decode prog_88_method_5_code 47 = .ok (.lreturn, 1) := by decide +kernel
theorem d_prog_88_method_5_13 : decode prog_88_method_5_code 13 = .ok (.lload_n 2, 1) := by decide +kernel
theorem d_prog_88_method_5_14 : decode prog_88_method_5_code 14 = .ok (.ldc2_w 31, 3) := by decide +kernel
theorem d_prog_88_method_5_17 : decode prog_88_method_5_code 17 = .ok (.lcmp, 1) := by decide +kernel
theorem d_prog_88_method_5_18 : decode prog_88_method_5_code 18 = .ok (.ifCond .eq 26, 3) := by decide +kernel
theorem d_prog_88_method_5_21 : decode prog_88_method_5_code 21 = .ok (.lload_n 0, 1) := by decide +kernel
theorem d_prog_88_method_5_22 : decode prog_88_method_5_code 22 = .ok (.lload 4, 2) := by decide +kernel
theorem d_prog_88_method_5_24 : decode prog_88_method_5_code 24 = .ok (.lxor, 1) := by decide +kernel
theorem d_prog_88_method_5_25 : decode prog_88_method_5_code 25 = .ok (.lload_n 2, 1) := by decide +kernel
theorem d_prog_88_method_5_26 : decode prog_88_method_5_code 26 = .ok (.lload 4, 2) := by decide +kernel
theorem d_prog_88_method_5_28 : decode prog_88_method_5_code 28 = .ok (.lxor, 1) := by decide +kernel
theorem d_prog_88_method_5_29 : decode prog_88_method_5_code 29 = .ok (.land, 1) := by decide +kernel
theorem d_prog_88_method_5_30 : decode prog_88_method_5_code 30 = .ok (.lconst 0, 1) := by decide +kernel
theorem d_prog_88_method_5_31 : decode prog_88_method_5_code 31 = .ok (.lcmp, 1) := by decide +kernel
theorem d_prog_88_method_5_32 : decode prog_88_method_5_code 32 = .ok (.ifCond .lt 12, 3) := by decide +kernel
theorem d_prog_88_method_5_35 : decode prog_88_method_5_code 35 = .ok (.lload 4, 2) := by decide +kernel
theorem d_prog_88_method_5_37 : decode prog_88_method_5_code 37 = .ok (.ldc2_w 31, 3) := by decide +kernel
theorem d_prog_88_method_5_40 : decode prog_88_method_5_code 40 = .ok (.lcmp, 1) := by decide +kernel
theorem d_prog_88_method_5_41 : decode prog_88_method_5_code 41 = .ok (.ifCond .ne 7, 3) := by decide +kernel
theorem d_prog_88_method_5_48 : decode prog_88_method_5_code 48 = .ok (.lload 4, 2) := by decide +kernel
theorem d_prog_88_method_5_50 : decode prog_88_method_5_code 50 = .ok (.lreturn, 1) := by decide +kernel
theorem pn_1 : plainName "com/example/crossbook/crossbook/clearing/Precision" = true := by first | (simp [plainName, overriddenIn]; done) | decide +kernel
theorem ef_rmA (mi : MethodId) (a : Int64) (b : Int64) : entryFrame mi #[(.long a), (.long b)] 6 = mkF mi 0 #[.val (.long a), .second, .val (.long b), .second, .unset, .unset] [] := by first | (simp [entryFrame, mkF, argsToLocals, Value.category]; done) | rfl
def fA (a : Int64) (b : Int64) : Int64 := (if a = (-9223372036854775808 : Int64) then (-9223372036854775808 : Int64) else (if b = (-9223372036854775808 : Int64) then (-9223372036854775808 : Int64) else (if ((a ^^^ (a + b)) &&& (b ^^^ (a + b))) < (0 : Int64) then (-9223372036854775808 : Int64) else (if (a + b) = (-9223372036854775808 : Int64) then (-9223372036854775808 : Int64) else (a + b)))))
def Q_rmA (Z : State) (a : Int64) (b : Int64) (h0 : Heap) (n0 : Nat) (vv_ : Option Value) (hh_ : Heap) (LL_ : List Loc) : Prop := vv_ = some (.long (fA a b)) ∧ Fr n0 LL_ ∧ hh_ = h0
set_option maxRecDepth 65536 in
set_option maxHeartbeats 40000000 in
theorem rmA (l : Launch) (Z : State) (a0 : Array Value) (hw : ∀ d ∈ tables_1, d.before a0 Z = true) (ws : List Jvm.Cond) (a : Int64) (b : Int64) (h0 : Heap) (n0 : Nat) (Z0 : n0 ≤ h0.size) :
    MetFree l (⟨"com/example/crossbook/crossbook/clearing/Precision", "add", "(JJ)J"⟩ : MethodName) (head1 (Jvm.Cond.code (⟨"com/example/crossbook/crossbook/clearing/Precision", "add", "(JJ)J"⟩ : MethodName) prog_88_method_5_code 6 (some .long) :: ws) ({ frames := 0, cells := 0, slots := 0, locals := 0 } : Room)) (fun aa_ U => aa_ = #[(.long a), (.long b)] ∧ Z.Warmed39 U.vm ∧ U.heap = h0) (fun _ _ _ _ _ => True) (fun _ U oo_ UV_ => ∃ vv_ LL_, oo_ = .returned vv_ ∧ Q_rmA Z a b h0 n0 vv_ UV_.heap LL_ ∧ FrameEnd U oo_ UV_ LL_ ({ frames := 0, cells := 0, slots := 0, locals := 0 } : Room).cells ({ frames := 0, cells := 0, slots := 0, locals := 0 } : Room).slots) := by
  refine MetFree.of_bodySF (plainFor_of_name pn_1) hisR ?_
  intro pg ev si mi args below meth ci s₁ Bd hml0 hP0 hK
  obtain ⟨rfl, hZ, hh⟩ := hP0
  have hx := Bd.exec
  have hby := Bd.bytes
  have hml : ci.maxLocals = 6 := hml0
  have hown : si.vm.findClass "com/example/crossbook/crossbook/clearing/Precision" = some mi.cls := findClass_of_methodNamed Bd.named
  have hnm := (name_of_methodNamed Bd.named Bd.method).1
  have X0 : Stand pg l ev ({ frames := 0, cells := 0, slots := 0, locals := 0 } : Room) si mi #[(.long a), (.long b)] below meth ci s₁ [] 0 0 := Stand.of_body Bd
  have e0 : s₁.heap = h0 := by rw [← hh, Bd.state]; rfl
  have N0 := Fr.nil n0
  refine Go.start (fun P hP => ?_)
  refine Go.st (fun t_ k_ => castTop (ef_rmA mi a b) k_) (A := s₁.setTop (mkF mi 0 #[.val (.long a), .second, .val (.long b), .second, .unset, .unset] [])) ?_
  show Go pg.tables ev below (s₁.setTop (mkF mi 0 #[.val (.long a), .second, .val (.long b), .second, .unset, .unset] [])) P
  refine Go.st (fun t_ k_ => XS.lloadN X0.here hx rfl (hb hby d_prog_88_method_5_0) rfl k_) ?_
  show Go pg.tables ev below (s₁.setTop (mkF mi 1 #[.val (.long a), .second, .val (.long b), .second, .unset, .unset] [(.long a)])) P
  refine Go.st (fun t_ k_ => XS.lloadN X0.here hx rfl (hb hby d_prog_88_method_5_1) rfl k_) ?_
  show Go pg.tables ev below (s₁.setTop (mkF mi 2 #[.val (.long a), .second, .val (.long b), .second, .unset, .unset] [(.long b), (.long a)])) P
  refine Go.st (fun t_ k_ => XS.ladd X0.here hx rfl (hb hby d_prog_88_method_5_2) rfl k_) ?_
  show Go pg.tables ev below (s₁.setTop (mkF mi 3 #[.val (.long a), .second, .val (.long b), .second, .unset, .unset] [(.long (a + b))])) P
  refine Go.st (fun t_ k_ => XS.lstore X0.here hx rfl (hb hby d_prog_88_method_5_3) rfl (l' := #[.val (.long a), .second, .val (.long b), .second, .val (.long (a + b)), .second]) rfl k_) ?_
  show Go pg.tables ev below (s₁.setTop (mkF mi 5 #[.val (.long a), .second, .val (.long b), .second, .val (.long (a + b)), .second] [])) P
  refine Go.st (fun t_ k_ => XS.lloadN X0.here hx rfl (hb hby d_prog_88_method_5_5) rfl k_) ?_
  show Go pg.tables ev below (s₁.setTop (mkF mi 6 #[.val (.long a), .second, .val (.long b), .second, .val (.long (a + b)), .second] [(.long a)])) P
  refine Go.st (X0.ldc2Long hx hown (mvT hZ (hw _ (List.mem_of_getElem? (i := 8) rfl))) (g := (mkF mi 6 #[.val (.long a), .second, .val (.long b), .second, .val (.long (a + b)), .second] [(.long a)])) rfl (hb hby d_prog_88_method_5_6)) ?_
  show Go pg.tables ev below (s₁.setTop (mkF mi 9 #[.val (.long a), .second, .val (.long b), .second, .val (.long (a + b)), .second] [(.long (-9223372036854775808 : Int64)), (.long a)])) P
  refine Go.st (fun t_ k_ => XS.lcmp X0.here hx rfl (hb hby d_prog_88_method_5_9) rfl k_) ?_
  show Go pg.tables ev below (s₁.setTop (mkF mi 10 #[.val (.long a), .second, .val (.long b), .second, .val (.long (a + b)), .second] [(.int (lcmpW a (-9223372036854775808 : Int64)))])) P
  by_cases hc10_1 : a = (-9223372036854775808 : Int64)
  · refine Go.st (fun t_ k_ => XS.ifYes X0.here hx rfl (pc0 := 10) (pc' := 44) rfl (hb hby d_prog_88_method_5_10) rfl ((if0 _ _).trans (teq (own_eq hc10_1)).1) (by decide) (by decide) k_) ?_
    show Go pg.tables ev below (s₁.setTop (mkF mi 44 #[.val (.long a), .second, .val (.long b), .second, .val (.long (a + b)), .second] [])) P
    refine Go.st (X0.ldc2Long hx hown (mvT hZ (hw _ (List.mem_of_getElem? (i := 8) rfl))) (g := (mkF mi 44 #[.val (.long a), .second, .val (.long b), .second, .val (.long (a + b)), .second] [])) rfl (hb hby d_prog_88_method_5_44)) ?_
    show Go pg.tables ev below (s₁.setTop (mkF mi 47 #[.val (.long a), .second, .val (.long b), .second, .val (.long (a + b)), .second] [(.long (-9223372036854775808 : Int64))])) P
    obtain ⟨fs, hr, hrun, hended, hW, hsame⟩ := X0.leave (v := some (.long (-9223372036854775808 : Int64))) (fun h => by rw [Bd.returns] at h; cases h) (BodyLoose.notSynchronized Bd)
    refine ⟨_, _, ?_, hP _ _ ⟨hrun, hended, _, _, rfl, ?_, ⟨_, rfl⟩, hW, hsame.mono (by decide) (by decide)⟩⟩
    · exact retOut X0 hx Bd.returns rfl (Or.inr (Or.inl ⟨rfl, rfl, _, rfl⟩)) (hb hby d_prog_88_method_5_47) hr
    · show (some (.long (-9223372036854775808 : Int64)) : Option Value) = some (.long (fA a b)) ∧ Fr n0 _ ∧ s₁.heap = h0
      rw [e0]
      exact ⟨by rw [show fA a b = (-9223372036854775808 : Int64) from ((if_pos hc10_1).trans rfl)], N0, rfl⟩
  · refine Go.st (fun t_ k_ => XS.ifNo X0.here hx rfl (hb hby d_prog_88_method_5_10) rfl ((if0 _ _).trans (feq (own_neq hc10_1)).1) k_) ?_
    show Go pg.tables ev below (s₁.setTop (mkF mi 13 #[.val (.long a), .second, .val (.long b), .second, .val (.long (a + b)), .second] [])) P
    refine Go.st (fun t_ k_ => XS.lloadN X0.here hx rfl (hb hby d_prog_88_method_5_13) rfl k_) ?_
    show Go pg.tables ev below (s₁.setTop (mkF mi 14 #[.val (.long a), .second, .val (.long b), .second, .val (.long (a + b)), .second] [(.long b)])) P
    refine Go.st (X0.ldc2Long hx hown (mvT hZ (hw _ (List.mem_of_getElem? (i := 8) rfl))) (g := (mkF mi 14 #[.val (.long a), .second, .val (.long b), .second, .val (.long (a + b)), .second] [(.long b)])) rfl (hb hby d_prog_88_method_5_14)) ?_
    show Go pg.tables ev below (s₁.setTop (mkF mi 17 #[.val (.long a), .second, .val (.long b), .second, .val (.long (a + b)), .second] [(.long (-9223372036854775808 : Int64)), (.long b)])) P
    refine Go.st (fun t_ k_ => XS.lcmp X0.here hx rfl (hb hby d_prog_88_method_5_17) rfl k_) ?_
    show Go pg.tables ev below (s₁.setTop (mkF mi 18 #[.val (.long a), .second, .val (.long b), .second, .val (.long (a + b)), .second] [(.int (lcmpW b (-9223372036854775808 : Int64)))])) P
    by_cases hc18_2 : b = (-9223372036854775808 : Int64)
    · refine Go.st (fun t_ k_ => XS.ifYes X0.here hx rfl (pc0 := 18) (pc' := 44) rfl (hb hby d_prog_88_method_5_18) rfl ((if0 _ _).trans (teq (own_eq hc18_2)).1) (by decide) (by decide) k_) ?_
      show Go pg.tables ev below (s₁.setTop (mkF mi 44 #[.val (.long a), .second, .val (.long b), .second, .val (.long (a + b)), .second] [])) P
      refine Go.st (X0.ldc2Long hx hown (mvT hZ (hw _ (List.mem_of_getElem? (i := 8) rfl))) (g := (mkF mi 44 #[.val (.long a), .second, .val (.long b), .second, .val (.long (a + b)), .second] [])) rfl (hb hby d_prog_88_method_5_44)) ?_
      show Go pg.tables ev below (s₁.setTop (mkF mi 47 #[.val (.long a), .second, .val (.long b), .second, .val (.long (a + b)), .second] [(.long (-9223372036854775808 : Int64))])) P
      obtain ⟨fs, hr, hrun, hended, hW, hsame⟩ := X0.leave (v := some (.long (-9223372036854775808 : Int64))) (fun h => by rw [Bd.returns] at h; cases h) (BodyLoose.notSynchronized Bd)
      refine ⟨_, _, ?_, hP _ _ ⟨hrun, hended, _, _, rfl, ?_, ⟨_, rfl⟩, hW, hsame.mono (by decide) (by decide)⟩⟩
      · exact retOut X0 hx Bd.returns rfl (Or.inr (Or.inl ⟨rfl, rfl, _, rfl⟩)) (hb hby d_prog_88_method_5_47) hr
      · show (some (.long (-9223372036854775808 : Int64)) : Option Value) = some (.long (fA a b)) ∧ Fr n0 _ ∧ s₁.heap = h0
        rw [e0]
        exact ⟨by rw [show fA a b = (-9223372036854775808 : Int64) from ((if_neg hc10_1).trans ((if_pos hc18_2).trans rfl))], N0, rfl⟩
    · refine Go.st (fun t_ k_ => XS.ifNo X0.here hx rfl (hb hby d_prog_88_method_5_18) rfl ((if0 _ _).trans (feq (own_neq hc18_2)).1) k_) ?_
      show Go pg.tables ev below (s₁.setTop (mkF mi 21 #[.val (.long a), .second, .val (.long b), .second, .val (.long (a + b)), .second] [])) P
      refine Go.st (fun t_ k_ => XS.lloadN X0.here hx rfl (hb hby d_prog_88_method_5_21) rfl k_) ?_
      show Go pg.tables ev below (s₁.setTop (mkF mi 22 #[.val (.long a), .second, .val (.long b), .second, .val (.long (a + b)), .second] [(.long a)])) P
      refine Go.st (fun t_ k_ => XS.lload X0.here hx rfl (hb hby d_prog_88_method_5_22) rfl k_) ?_
      show Go pg.tables ev below (s₁.setTop (mkF mi 24 #[.val (.long a), .second, .val (.long b), .second, .val (.long (a + b)), .second] [(.long (a + b)), (.long a)])) P
      refine Go.st (fun t_ k_ => XS.lxor X0.here hx rfl (hb hby d_prog_88_method_5_24) rfl k_) ?_
      show Go pg.tables ev below (s₁.setTop (mkF mi 25 #[.val (.long a), .second, .val (.long b), .second, .val (.long (a + b)), .second] [(.long (a ^^^ (a + b)))])) P
      refine Go.st (fun t_ k_ => XS.lloadN X0.here hx rfl (hb hby d_prog_88_method_5_25) rfl k_) ?_
      show Go pg.tables ev below (s₁.setTop (mkF mi 26 #[.val (.long a), .second, .val (.long b), .second, .val (.long (a + b)), .second] [(.long b), (.long (a ^^^ (a + b)))])) P
      refine Go.st (fun t_ k_ => XS.lload X0.here hx rfl (hb hby d_prog_88_method_5_26) rfl k_) ?_
      show Go pg.tables ev below (s₁.setTop (mkF mi 28 #[.val (.long a), .second, .val (.long b), .second, .val (.long (a + b)), .second] [(.long (a + b)), (.long b), (.long (a ^^^ (a + b)))])) P
      refine Go.st (fun t_ k_ => XS.lxor X0.here hx rfl (hb hby d_prog_88_method_5_28) rfl k_) ?_
      show Go pg.tables ev below (s₁.setTop (mkF mi 29 #[.val (.long a), .second, .val (.long b), .second, .val (.long (a + b)), .second] [(.long (b ^^^ (a + b))), (.long (a ^^^ (a + b)))])) P
      refine Go.st (fun t_ k_ => XS.land X0.here hx rfl (hb hby d_prog_88_method_5_29) rfl k_) ?_
      show Go pg.tables ev below (s₁.setTop (mkF mi 30 #[.val (.long a), .second, .val (.long b), .second, .val (.long (a + b)), .second] [(.long ((a ^^^ (a + b)) &&& (b ^^^ (a + b))))])) P
      refine Go.st (fun t_ k_ => XS.lconst X0.here hx rfl (hb hby d_prog_88_method_5_30) k_) ?_
      show Go pg.tables ev below (s₁.setTop (mkF mi 31 #[.val (.long a), .second, .val (.long b), .second, .val (.long (a + b)), .second] [(.long (0 : Int64)), (.long ((a ^^^ (a + b)) &&& (b ^^^ (a + b))))])) P
      refine Go.st (fun t_ k_ => XS.lcmp X0.here hx rfl (hb hby d_prog_88_method_5_31) rfl k_) ?_
      show Go pg.tables ev below (s₁.setTop (mkF mi 32 #[.val (.long a), .second, .val (.long b), .second, .val (.long (a + b)), .second] [(.int (lcmpW ((a ^^^ (a + b)) &&& (b ^^^ (a + b))) (0 : Int64)))])) P
      by_cases hc32_3 : ((a ^^^ (a + b)) &&& (b ^^^ (a + b))) < (0 : Int64)
      · refine Go.st (fun t_ k_ => XS.ifYes X0.here hx rfl (pc0 := 32) (pc' := 44) rfl (hb hby d_prog_88_method_5_32) rfl ((if0 _ _).trans (tlt (own_lt hc32_3)).1) (by decide) (by decide) k_) ?_
        show Go pg.tables ev below (s₁.setTop (mkF mi 44 #[.val (.long a), .second, .val (.long b), .second, .val (.long (a + b)), .second] [])) P
        refine Go.st (X0.ldc2Long hx hown (mvT hZ (hw _ (List.mem_of_getElem? (i := 8) rfl))) (g := (mkF mi 44 #[.val (.long a), .second, .val (.long b), .second, .val (.long (a + b)), .second] [])) rfl (hb hby d_prog_88_method_5_44)) ?_
        show Go pg.tables ev below (s₁.setTop (mkF mi 47 #[.val (.long a), .second, .val (.long b), .second, .val (.long (a + b)), .second] [(.long (-9223372036854775808 : Int64))])) P
        obtain ⟨fs, hr, hrun, hended, hW, hsame⟩ := X0.leave (v := some (.long (-9223372036854775808 : Int64))) (fun h => by rw [Bd.returns] at h; cases h) (BodyLoose.notSynchronized Bd)
        refine ⟨_, _, ?_, hP _ _ ⟨hrun, hended, _, _, rfl, ?_, ⟨_, rfl⟩, hW, hsame.mono (by decide) (by decide)⟩⟩
        · exact retOut X0 hx Bd.returns rfl (Or.inr (Or.inl ⟨rfl, rfl, _, rfl⟩)) (hb hby d_prog_88_method_5_47) hr
        · show (some (.long (-9223372036854775808 : Int64)) : Option Value) = some (.long (fA a b)) ∧ Fr n0 _ ∧ s₁.heap = h0
          rw [e0]
          exact ⟨by rw [show fA a b = (-9223372036854775808 : Int64) from ((if_neg hc10_1).trans ((if_neg hc18_2).trans ((if_pos hc32_3).trans rfl)))], N0, rfl⟩
      · refine Go.st (fun t_ k_ => XS.ifNo X0.here hx rfl (hb hby d_prog_88_method_5_32) rfl ((if0 _ _).trans (flt (own_nlt hc32_3)).1) k_) ?_
        show Go pg.tables ev below (s₁.setTop (mkF mi 35 #[.val (.long a), .second, .val (.long b), .second, .val (.long (a + b)), .second] [])) P
        refine Go.st (fun t_ k_ => XS.lload X0.here hx rfl (hb hby d_prog_88_method_5_35) rfl k_) ?_
        show Go pg.tables ev below (s₁.setTop (mkF mi 37 #[.val (.long a), .second, .val (.long b), .second, .val (.long (a + b)), .second] [(.long (a + b))])) P
        refine Go.st (X0.ldc2Long hx hown (mvT hZ (hw _ (List.mem_of_getElem? (i := 8) rfl))) (g := (mkF mi 37 #[.val (.long a), .second, .val (.long b), .second, .val (.long (a + b)), .second] [(.long (a + b))])) rfl (hb hby d_prog_88_method_5_37)) ?_
        show Go pg.tables ev below (s₁.setTop (mkF mi 40 #[.val (.long a), .second, .val (.long b), .second, .val (.long (a + b)), .second] [(.long (-9223372036854775808 : Int64)), (.long (a + b))])) P
        refine Go.st (fun t_ k_ => XS.lcmp X0.here hx rfl (hb hby d_prog_88_method_5_40) rfl k_) ?_
        show Go pg.tables ev below (s₁.setTop (mkF mi 41 #[.val (.long a), .second, .val (.long b), .second, .val (.long (a + b)), .second] [(.int (lcmpW (a + b) (-9223372036854775808 : Int64)))])) P
        by_cases hc41_4 : (a + b) = (-9223372036854775808 : Int64)
        · refine Go.st (fun t_ k_ => XS.ifNo X0.here hx rfl (hb hby d_prog_88_method_5_41) rfl ((if0 _ _).trans (teq (own_eq hc41_4)).2) k_) ?_
          show Go pg.tables ev below (s₁.setTop (mkF mi 44 #[.val (.long a), .second, .val (.long b), .second, .val (.long (a + b)), .second] [])) P
          refine Go.st (X0.ldc2Long hx hown (mvT hZ (hw _ (List.mem_of_getElem? (i := 8) rfl))) (g := (mkF mi 44 #[.val (.long a), .second, .val (.long b), .second, .val (.long (a + b)), .second] [])) rfl (hb hby d_prog_88_method_5_44)) ?_
          show Go pg.tables ev below (s₁.setTop (mkF mi 47 #[.val (.long a), .second, .val (.long b), .second, .val (.long (a + b)), .second] [(.long (-9223372036854775808 : Int64))])) P
          obtain ⟨fs, hr, hrun, hended, hW, hsame⟩ := X0.leave (v := some (.long (-9223372036854775808 : Int64))) (fun h => by rw [Bd.returns] at h; cases h) (BodyLoose.notSynchronized Bd)
          refine ⟨_, _, ?_, hP _ _ ⟨hrun, hended, _, _, rfl, ?_, ⟨_, rfl⟩, hW, hsame.mono (by decide) (by decide)⟩⟩
          · exact retOut X0 hx Bd.returns rfl (Or.inr (Or.inl ⟨rfl, rfl, _, rfl⟩)) (hb hby d_prog_88_method_5_47) hr
          · show (some (.long (-9223372036854775808 : Int64)) : Option Value) = some (.long (fA a b)) ∧ Fr n0 _ ∧ s₁.heap = h0
            rw [e0]
            exact ⟨by rw [show fA a b = (-9223372036854775808 : Int64) from ((if_neg hc10_1).trans ((if_neg hc18_2).trans ((if_neg hc32_3).trans ((if_pos hc41_4).trans rfl))))], N0, rfl⟩
        · refine Go.st (fun t_ k_ => XS.ifYes X0.here hx rfl (pc0 := 41) (pc' := 48) rfl (hb hby d_prog_88_method_5_41) rfl ((if0 _ _).trans (feq (own_neq hc41_4)).2) (by decide) (by decide) k_) ?_
          show Go pg.tables ev below (s₁.setTop (mkF mi 48 #[.val (.long a), .second, .val (.long b), .second, .val (.long (a + b)), .second] [])) P
          refine Go.st (fun t_ k_ => XS.lload X0.here hx rfl (hb hby d_prog_88_method_5_48) rfl k_) ?_
          show Go pg.tables ev below (s₁.setTop (mkF mi 50 #[.val (.long a), .second, .val (.long b), .second, .val (.long (a + b)), .second] [(.long (a + b))])) P
          obtain ⟨fs, hr, hrun, hended, hW, hsame⟩ := X0.leave (v := some (.long (a + b))) (fun h => by rw [Bd.returns] at h; cases h) (BodyLoose.notSynchronized Bd)
          refine ⟨_, _, ?_, hP _ _ ⟨hrun, hended, _, _, rfl, ?_, ⟨_, rfl⟩, hW, hsame.mono (by decide) (by decide)⟩⟩
          · exact retOut X0 hx Bd.returns rfl (Or.inr (Or.inl ⟨rfl, rfl, _, rfl⟩)) (hb hby d_prog_88_method_5_50) hr
          · show (some (.long (a + b)) : Option Value) = some (.long (fA a b)) ∧ Fr n0 _ ∧ s₁.heap = h0
            rw [e0]
            exact ⟨by rw [show fA a b = (a + b) from ((if_neg hc10_1).trans ((if_neg hc18_2).trans ((if_neg hc32_3).trans ((if_neg hc41_4).trans rfl))))], N0, rfl⟩
theorem d_method_3_0 : decode method_3_code 0 = .ok (.lload_n 0, 1) := by decide +kernel
theorem d_method_3_1 : decode method_3_code 1 = .ok (.ldc2_w 9, 3) := by decide +kernel
theorem d_method_3_4 : decode method_3_code 4 = .ok (.lcmp, 1) := by decide +kernel
theorem d_method_3_5 : decode method_3_code 5 = .ok (.ifCond .eq 11, 3) := by decide +kernel
theorem d_method_3_16 : decode method_3_code 16 = .ok (.ldc2_w 9, 3) := by decide +kernel
theorem d_method_3_19 : decode method_3_code 19 = .ok (.lreturn, 1) := by decide +kernel
theorem d_method_3_8 : decode method_3_code 8 = .ok (.lload_n 2, 1) := by decide +kernel
theorem d_method_3_9 : decode method_3_code 9 = .ok (.ldc2_w 9, 3) := by decide +kernel
theorem d_method_3_12 : decode method_3_code 12 = .ok (.lcmp, 1) := by decide +kernel
theorem d_method_3_13 : decode method_3_code 13 = .ok (.ifCond .ne 7, 3) := by decide +kernel
theorem d_method_3_20 : decode method_3_code 20 = .ok (.lload_n 2, 1) := by decide +kernel
theorem d_method_3_21 : decode method_3_code 21 = .ok (.lconst 0, 1) := by decide +kernel
theorem d_method_3_22 : decode method_3_code 22 = .ok (.lcmp, 1) := by decide +kernel
theorem d_method_3_23 : decode method_3_code 23 = .ok (.ifCond .le 17, 3) := by decide +kernel
theorem d_method_3_26 : decode method_3_code 26 = .ok (.lload_n 0, 1) := by decide +kernel
theorem d_method_3_27 : decode method_3_code 27 = .ok (.ldc2_w 11, 3) := by decide +kernel
theorem d_method_3_30 : decode method_3_code 30 = .ok (.lload_n 2, 1) := by decide +kernel
theorem d_method_3_31 : decode method_3_code 31 = .ok (.lsub, 1) := by decide +kernel
theorem d_method_3_32 : decode method_3_code 32 = .ok (.lcmp, 1) := by decide +kernel
theorem d_method_3_33 : decode method_3_code 33 = .ok (.ifCond .le 7, 3) := by decide +kernel
theorem d_method_3_36 : decode method_3_code 36 = .ok (.ldc2_w 9, 3) := by decide +kernel
theorem d_method_3_39 : decode method_3_code 39 = .ok (.lreturn, 1) := by decide +kernel
theorem d_method_3_40 : decode method_3_code 40 = .ok (.lload_n 2, 1) := by decide +kernel
theorem d_method_3_41 : decode method_3_code 41 = .ok (.lconst 0, 1) := by decide +kernel
theorem d_method_3_42 : decode method_3_code 42 = .ok (.lcmp, 1) := by decide +kernel
theorem d_method_3_43 : decode method_3_code 43 = .ok (.ifCond .ge 17, 3) := by decide +kernel
theorem d_method_3_46 : decode method_3_code 46 = .ok (.lload_n 0, 1) := by decide +kernel
theorem d_method_3_47 : decode method_3_code 47 = .ok (.ldc2_w 9, 3) := by decide +kernel
theorem d_method_3_50 : decode method_3_code 50 = .ok (.lload_n 2, 1) := by decide +kernel
theorem d_method_3_51 : decode method_3_code 51 = .ok (.lsub, 1) := by decide +kernel
theorem d_method_3_52 : decode method_3_code 52 = .ok (.lcmp, 1) := by decide +kernel
theorem d_method_3_53 : decode method_3_code 53 = .ok (.ifCond .ge 7, 3) := by decide +kernel
theorem d_method_3_56 : decode method_3_code 56 = .ok (.ldc2_w 9, 3) := by decide +kernel
theorem d_method_3_59 : decode method_3_code 59 = .ok (.lreturn, 1) := by decide +kernel
theorem d_method_3_60 : decode method_3_code 60 = .ok (.lload_n 0, 1) := by decide +kernel
theorem d_method_3_61 : decode method_3_code 61 = .ok (.lload_n 2, 1) := by decide +kernel
theorem d_method_3_62 : decode method_3_code 62 = .ok (.ladd, 1) := by decide +kernel
theorem d_method_3_63 : decode method_3_code 63 = .ok (.lreturn, 1) := by decide +kernel
theorem ef_rmE (mi : MethodId) (a : Int64) (b : Int64) : entryFrame mi #[(.long a), (.long b)] 4 = mkF mi 0 #[.val (.long a), .second, .val (.long b), .second] [] := by first | (simp [entryFrame, mkF, argsToLocals, Value.category]; done) | rfl
def fE (a : Int64) (b : Int64) : Int64 := (if a = (-9223372036854775808 : Int64) then (-9223372036854775808 : Int64) else (if b = (-9223372036854775808 : Int64) then (-9223372036854775808 : Int64) else (if (0 : Int64) < b then (if ((9223372036854775807 : Int64) - b) < a then (-9223372036854775808 : Int64) else (if b < (0 : Int64) then (if a < ((-9223372036854775808 : Int64) - b) then (-9223372036854775808 : Int64) else (a + b)) else (a + b))) else (if b < (0 : Int64) then (if a < ((-9223372036854775808 : Int64) - b) then (-9223372036854775808 : Int64) else (a + b)) else (a + b)))))
def Q_rmE (Z : State) (a : Int64) (b : Int64) (h0 : Heap) (n0 : Nat) (vv_ : Option Value) (hh_ : Heap) (LL_ : List Loc) : Prop := vv_ = some (.long (fE a b)) ∧ Fr n0 LL_ ∧ hh_ = h0
set_option maxRecDepth 65536 in
set_option maxHeartbeats 40000000 in
theorem rmE (l : Launch) (Z : State) (a0 : Array Value) (hw : ∀ d ∈ tables_1, d.before a0 Z = true) (ws : List Jvm.Cond) (a : Int64) (b : Int64) (h0 : Heap) (n0 : Nat) (Z0 : n0 ≤ h0.size) :
    MetFree l (⟨"com/example/crossbook/crossbook/clearing/PrecisionAddPinLaw", "expected", "(JJ)J"⟩ : MethodName) (head1 (Jvm.Cond.code (⟨"com/example/crossbook/crossbook/clearing/PrecisionAddPinLaw", "expected", "(JJ)J"⟩ : MethodName) method_3_code 4 (some .long) :: ws) ({ frames := 0, cells := 0, slots := 0, locals := 0 } : Room)) (fun aa_ U => aa_ = #[(.long a), (.long b)] ∧ Z.Warmed39 U.vm ∧ U.heap = h0) (fun _ _ _ _ _ => True) (fun _ U oo_ UV_ => ∃ vv_ LL_, oo_ = .returned vv_ ∧ Q_rmE Z a b h0 n0 vv_ UV_.heap LL_ ∧ FrameEnd U oo_ UV_ LL_ ({ frames := 0, cells := 0, slots := 0, locals := 0 } : Room).cells ({ frames := 0, cells := 0, slots := 0, locals := 0 } : Room).slots) := by
  refine MetFree.of_bodySF (plainFor_of_name pn_0) hisR ?_
  intro pg ev si mi args below meth ci s₁ Bd hml0 hP0 hK
  obtain ⟨rfl, hZ, hh⟩ := hP0
  have hx := Bd.exec
  have hby := Bd.bytes
  have hml : ci.maxLocals = 4 := hml0
  have hown : si.vm.findClass "com/example/crossbook/crossbook/clearing/PrecisionAddPinLaw" = some mi.cls := findClass_of_methodNamed Bd.named
  have hnm := (name_of_methodNamed Bd.named Bd.method).1
  have X0 : Stand pg l ev ({ frames := 0, cells := 0, slots := 0, locals := 0 } : Room) si mi #[(.long a), (.long b)] below meth ci s₁ [] 0 0 := Stand.of_body Bd
  have e0 : s₁.heap = h0 := by rw [← hh, Bd.state]; rfl
  have N0 := Fr.nil n0
  refine Go.start (fun P hP => ?_)
  refine Go.st (fun t_ k_ => castTop (ef_rmE mi a b) k_) (A := s₁.setTop (mkF mi 0 #[.val (.long a), .second, .val (.long b), .second] [])) ?_
  show Go pg.tables ev below (s₁.setTop (mkF mi 0 #[.val (.long a), .second, .val (.long b), .second] [])) P
  refine Go.st (fun t_ k_ => XS.lloadN X0.here hx rfl (hb hby d_method_3_0) rfl k_) ?_
  show Go pg.tables ev below (s₁.setTop (mkF mi 1 #[.val (.long a), .second, .val (.long b), .second] [(.long a)])) P
  refine Go.st (X0.ldc2Long hx hown (mvT hZ (hw _ (List.mem_of_getElem? (i := 12) rfl))) (g := (mkF mi 1 #[.val (.long a), .second, .val (.long b), .second] [(.long a)])) rfl (hb hby d_method_3_1)) ?_
  show Go pg.tables ev below (s₁.setTop (mkF mi 4 #[.val (.long a), .second, .val (.long b), .second] [(.long (-9223372036854775808 : Int64)), (.long a)])) P
  refine Go.st (fun t_ k_ => XS.lcmp X0.here hx rfl (hb hby d_method_3_4) rfl k_) ?_
  show Go pg.tables ev below (s₁.setTop (mkF mi 5 #[.val (.long a), .second, .val (.long b), .second] [(.int (lcmpW a (-9223372036854775808 : Int64)))])) P
  by_cases hc5_1 : a = (-9223372036854775808 : Int64)
  · refine Go.st (fun t_ k_ => XS.ifYes X0.here hx rfl (pc0 := 5) (pc' := 16) rfl (hb hby d_method_3_5) rfl ((if0 _ _).trans (teq (own_eq hc5_1)).1) (by decide) (by decide) k_) ?_
    show Go pg.tables ev below (s₁.setTop (mkF mi 16 #[.val (.long a), .second, .val (.long b), .second] [])) P
    refine Go.st (X0.ldc2Long hx hown (mvT hZ (hw _ (List.mem_of_getElem? (i := 12) rfl))) (g := (mkF mi 16 #[.val (.long a), .second, .val (.long b), .second] [])) rfl (hb hby d_method_3_16)) ?_
    show Go pg.tables ev below (s₁.setTop (mkF mi 19 #[.val (.long a), .second, .val (.long b), .second] [(.long (-9223372036854775808 : Int64))])) P
    obtain ⟨fs, hr, hrun, hended, hW, hsame⟩ := X0.leave (v := some (.long (-9223372036854775808 : Int64))) (fun h => by rw [Bd.returns] at h; cases h) (BodyLoose.notSynchronized Bd)
    refine ⟨_, _, ?_, hP _ _ ⟨hrun, hended, _, _, rfl, ?_, ⟨_, rfl⟩, hW, hsame.mono (by decide) (by decide)⟩⟩
    · exact retOut X0 hx Bd.returns rfl (Or.inr (Or.inl ⟨rfl, rfl, _, rfl⟩)) (hb hby d_method_3_19) hr
    · show (some (.long (-9223372036854775808 : Int64)) : Option Value) = some (.long (fE a b)) ∧ Fr n0 _ ∧ s₁.heap = h0
      rw [e0]
      exact ⟨by rw [show fE a b = (-9223372036854775808 : Int64) from ((if_pos hc5_1).trans rfl)], N0, rfl⟩
  · refine Go.st (fun t_ k_ => XS.ifNo X0.here hx rfl (hb hby d_method_3_5) rfl ((if0 _ _).trans (feq (own_neq hc5_1)).1) k_) ?_
    show Go pg.tables ev below (s₁.setTop (mkF mi 8 #[.val (.long a), .second, .val (.long b), .second] [])) P
    refine Go.st (fun t_ k_ => XS.lloadN X0.here hx rfl (hb hby d_method_3_8) rfl k_) ?_
    show Go pg.tables ev below (s₁.setTop (mkF mi 9 #[.val (.long a), .second, .val (.long b), .second] [(.long b)])) P
    refine Go.st (X0.ldc2Long hx hown (mvT hZ (hw _ (List.mem_of_getElem? (i := 12) rfl))) (g := (mkF mi 9 #[.val (.long a), .second, .val (.long b), .second] [(.long b)])) rfl (hb hby d_method_3_9)) ?_
    show Go pg.tables ev below (s₁.setTop (mkF mi 12 #[.val (.long a), .second, .val (.long b), .second] [(.long (-9223372036854775808 : Int64)), (.long b)])) P
    refine Go.st (fun t_ k_ => XS.lcmp X0.here hx rfl (hb hby d_method_3_12) rfl k_) ?_
    show Go pg.tables ev below (s₁.setTop (mkF mi 13 #[.val (.long a), .second, .val (.long b), .second] [(.int (lcmpW b (-9223372036854775808 : Int64)))])) P
    by_cases hc13_2 : b = (-9223372036854775808 : Int64)
    · refine Go.st (fun t_ k_ => XS.ifNo X0.here hx rfl (hb hby d_method_3_13) rfl ((if0 _ _).trans (teq (own_eq hc13_2)).2) k_) ?_
      show Go pg.tables ev below (s₁.setTop (mkF mi 16 #[.val (.long a), .second, .val (.long b), .second] [])) P
      refine Go.st (X0.ldc2Long hx hown (mvT hZ (hw _ (List.mem_of_getElem? (i := 12) rfl))) (g := (mkF mi 16 #[.val (.long a), .second, .val (.long b), .second] [])) rfl (hb hby d_method_3_16)) ?_
      show Go pg.tables ev below (s₁.setTop (mkF mi 19 #[.val (.long a), .second, .val (.long b), .second] [(.long (-9223372036854775808 : Int64))])) P
      obtain ⟨fs, hr, hrun, hended, hW, hsame⟩ := X0.leave (v := some (.long (-9223372036854775808 : Int64))) (fun h => by rw [Bd.returns] at h; cases h) (BodyLoose.notSynchronized Bd)
      refine ⟨_, _, ?_, hP _ _ ⟨hrun, hended, _, _, rfl, ?_, ⟨_, rfl⟩, hW, hsame.mono (by decide) (by decide)⟩⟩
      · exact retOut X0 hx Bd.returns rfl (Or.inr (Or.inl ⟨rfl, rfl, _, rfl⟩)) (hb hby d_method_3_19) hr
      · show (some (.long (-9223372036854775808 : Int64)) : Option Value) = some (.long (fE a b)) ∧ Fr n0 _ ∧ s₁.heap = h0
        rw [e0]
        exact ⟨by rw [show fE a b = (-9223372036854775808 : Int64) from ((if_neg hc5_1).trans ((if_pos hc13_2).trans rfl))], N0, rfl⟩
    · refine Go.st (fun t_ k_ => XS.ifYes X0.here hx rfl (pc0 := 13) (pc' := 20) rfl (hb hby d_method_3_13) rfl ((if0 _ _).trans (feq (own_neq hc13_2)).2) (by decide) (by decide) k_) ?_
      show Go pg.tables ev below (s₁.setTop (mkF mi 20 #[.val (.long a), .second, .val (.long b), .second] [])) P
      refine Go.st (fun t_ k_ => XS.lloadN X0.here hx rfl (hb hby d_method_3_20) rfl k_) ?_
      show Go pg.tables ev below (s₁.setTop (mkF mi 21 #[.val (.long a), .second, .val (.long b), .second] [(.long b)])) P
      refine Go.st (fun t_ k_ => XS.lconst X0.here hx rfl (hb hby d_method_3_21) k_) ?_
      show Go pg.tables ev below (s₁.setTop (mkF mi 22 #[.val (.long a), .second, .val (.long b), .second] [(.long (0 : Int64)), (.long b)])) P
      refine Go.st (fun t_ k_ => XS.lcmp X0.here hx rfl (hb hby d_method_3_22) rfl k_) ?_
      show Go pg.tables ev below (s₁.setTop (mkF mi 23 #[.val (.long a), .second, .val (.long b), .second] [(.int (lcmpW b (0 : Int64)))])) P
      by_cases hc23_3 : (0 : Int64) < b
      · refine Go.st (fun t_ k_ => XS.ifNo X0.here hx rfl (hb hby d_method_3_23) rfl ((if0 _ _).trans (tlt (own_gt hc23_3)).2.2.2) k_) ?_
        show Go pg.tables ev below (s₁.setTop (mkF mi 26 #[.val (.long a), .second, .val (.long b), .second] [])) P
        refine Go.st (fun t_ k_ => XS.lloadN X0.here hx rfl (hb hby d_method_3_26) rfl k_) ?_
        show Go pg.tables ev below (s₁.setTop (mkF mi 27 #[.val (.long a), .second, .val (.long b), .second] [(.long a)])) P
        refine Go.st (X0.ldc2Long hx hown (mvT hZ (hw _ (List.mem_of_getElem? (i := 13) rfl))) (g := (mkF mi 27 #[.val (.long a), .second, .val (.long b), .second] [(.long a)])) rfl (hb hby d_method_3_27)) ?_
        show Go pg.tables ev below (s₁.setTop (mkF mi 30 #[.val (.long a), .second, .val (.long b), .second] [(.long (9223372036854775807 : Int64)), (.long a)])) P
        refine Go.st (fun t_ k_ => XS.lloadN X0.here hx rfl (hb hby d_method_3_30) rfl k_) ?_
        show Go pg.tables ev below (s₁.setTop (mkF mi 31 #[.val (.long a), .second, .val (.long b), .second] [(.long b), (.long (9223372036854775807 : Int64)), (.long a)])) P
        refine Go.st (fun t_ k_ => XS.lsub X0.here hx rfl (hb hby d_method_3_31) rfl k_) ?_
        show Go pg.tables ev below (s₁.setTop (mkF mi 32 #[.val (.long a), .second, .val (.long b), .second] [(.long ((9223372036854775807 : Int64) - b)), (.long a)])) P
        refine Go.st (fun t_ k_ => XS.lcmp X0.here hx rfl (hb hby d_method_3_32) rfl k_) ?_
        show Go pg.tables ev below (s₁.setTop (mkF mi 33 #[.val (.long a), .second, .val (.long b), .second] [(.int (lcmpW a ((9223372036854775807 : Int64) - b)))])) P
        by_cases hc33_4 : ((9223372036854775807 : Int64) - b) < a
        · refine Go.st (fun t_ k_ => XS.ifNo X0.here hx rfl (hb hby d_method_3_33) rfl ((if0 _ _).trans (tlt (own_gt hc33_4)).2.2.2) k_) ?_
          show Go pg.tables ev below (s₁.setTop (mkF mi 36 #[.val (.long a), .second, .val (.long b), .second] [])) P
          refine Go.st (X0.ldc2Long hx hown (mvT hZ (hw _ (List.mem_of_getElem? (i := 12) rfl))) (g := (mkF mi 36 #[.val (.long a), .second, .val (.long b), .second] [])) rfl (hb hby d_method_3_36)) ?_
          show Go pg.tables ev below (s₁.setTop (mkF mi 39 #[.val (.long a), .second, .val (.long b), .second] [(.long (-9223372036854775808 : Int64))])) P
          obtain ⟨fs, hr, hrun, hended, hW, hsame⟩ := X0.leave (v := some (.long (-9223372036854775808 : Int64))) (fun h => by rw [Bd.returns] at h; cases h) (BodyLoose.notSynchronized Bd)
          refine ⟨_, _, ?_, hP _ _ ⟨hrun, hended, _, _, rfl, ?_, ⟨_, rfl⟩, hW, hsame.mono (by decide) (by decide)⟩⟩
          · exact retOut X0 hx Bd.returns rfl (Or.inr (Or.inl ⟨rfl, rfl, _, rfl⟩)) (hb hby d_method_3_39) hr
          · show (some (.long (-9223372036854775808 : Int64)) : Option Value) = some (.long (fE a b)) ∧ Fr n0 _ ∧ s₁.heap = h0
            rw [e0]
            exact ⟨by rw [show fE a b = (-9223372036854775808 : Int64) from ((if_neg hc5_1).trans ((if_neg hc13_2).trans ((if_pos hc23_3).trans ((if_pos hc33_4).trans rfl))))], N0, rfl⟩
        · refine Go.st (fun t_ k_ => XS.ifYes X0.here hx rfl (pc0 := 33) (pc' := 40) rfl (hb hby d_method_3_33) rfl ((if0 _ _).trans (flt (own_ngt hc33_4)).2.2.2) (by decide) (by decide) k_) ?_
          show Go pg.tables ev below (s₁.setTop (mkF mi 40 #[.val (.long a), .second, .val (.long b), .second] [])) P
          refine Go.st (fun t_ k_ => XS.lloadN X0.here hx rfl (hb hby d_method_3_40) rfl k_) ?_
          show Go pg.tables ev below (s₁.setTop (mkF mi 41 #[.val (.long a), .second, .val (.long b), .second] [(.long b)])) P
          refine Go.st (fun t_ k_ => XS.lconst X0.here hx rfl (hb hby d_method_3_41) k_) ?_
          show Go pg.tables ev below (s₁.setTop (mkF mi 42 #[.val (.long a), .second, .val (.long b), .second] [(.long (0 : Int64)), (.long b)])) P
          refine Go.st (fun t_ k_ => XS.lcmp X0.here hx rfl (hb hby d_method_3_42) rfl k_) ?_
          show Go pg.tables ev below (s₁.setTop (mkF mi 43 #[.val (.long a), .second, .val (.long b), .second] [(.int (lcmpW b (0 : Int64)))])) P
          by_cases hc43_5 : b < (0 : Int64)
          · refine Go.st (fun t_ k_ => XS.ifNo X0.here hx rfl (hb hby d_method_3_43) rfl ((if0 _ _).trans (tlt (own_lt hc43_5)).2.1) k_) ?_
            show Go pg.tables ev below (s₁.setTop (mkF mi 46 #[.val (.long a), .second, .val (.long b), .second] [])) P
            refine Go.st (fun t_ k_ => XS.lloadN X0.here hx rfl (hb hby d_method_3_46) rfl k_) ?_
            show Go pg.tables ev below (s₁.setTop (mkF mi 47 #[.val (.long a), .second, .val (.long b), .second] [(.long a)])) P
            refine Go.st (X0.ldc2Long hx hown (mvT hZ (hw _ (List.mem_of_getElem? (i := 12) rfl))) (g := (mkF mi 47 #[.val (.long a), .second, .val (.long b), .second] [(.long a)])) rfl (hb hby d_method_3_47)) ?_
            show Go pg.tables ev below (s₁.setTop (mkF mi 50 #[.val (.long a), .second, .val (.long b), .second] [(.long (-9223372036854775808 : Int64)), (.long a)])) P
            refine Go.st (fun t_ k_ => XS.lloadN X0.here hx rfl (hb hby d_method_3_50) rfl k_) ?_
            show Go pg.tables ev below (s₁.setTop (mkF mi 51 #[.val (.long a), .second, .val (.long b), .second] [(.long b), (.long (-9223372036854775808 : Int64)), (.long a)])) P
            refine Go.st (fun t_ k_ => XS.lsub X0.here hx rfl (hb hby d_method_3_51) rfl k_) ?_
            show Go pg.tables ev below (s₁.setTop (mkF mi 52 #[.val (.long a), .second, .val (.long b), .second] [(.long ((-9223372036854775808 : Int64) - b)), (.long a)])) P
            refine Go.st (fun t_ k_ => XS.lcmp X0.here hx rfl (hb hby d_method_3_52) rfl k_) ?_
            show Go pg.tables ev below (s₁.setTop (mkF mi 53 #[.val (.long a), .second, .val (.long b), .second] [(.int (lcmpW a ((-9223372036854775808 : Int64) - b)))])) P
            by_cases hc53_6 : a < ((-9223372036854775808 : Int64) - b)
            · refine Go.st (fun t_ k_ => XS.ifNo X0.here hx rfl (hb hby d_method_3_53) rfl ((if0 _ _).trans (tlt (own_lt hc53_6)).2.1) k_) ?_
              show Go pg.tables ev below (s₁.setTop (mkF mi 56 #[.val (.long a), .second, .val (.long b), .second] [])) P
              refine Go.st (X0.ldc2Long hx hown (mvT hZ (hw _ (List.mem_of_getElem? (i := 12) rfl))) (g := (mkF mi 56 #[.val (.long a), .second, .val (.long b), .second] [])) rfl (hb hby d_method_3_56)) ?_
              show Go pg.tables ev below (s₁.setTop (mkF mi 59 #[.val (.long a), .second, .val (.long b), .second] [(.long (-9223372036854775808 : Int64))])) P
              obtain ⟨fs, hr, hrun, hended, hW, hsame⟩ := X0.leave (v := some (.long (-9223372036854775808 : Int64))) (fun h => by rw [Bd.returns] at h; cases h) (BodyLoose.notSynchronized Bd)
              refine ⟨_, _, ?_, hP _ _ ⟨hrun, hended, _, _, rfl, ?_, ⟨_, rfl⟩, hW, hsame.mono (by decide) (by decide)⟩⟩
              · exact retOut X0 hx Bd.returns rfl (Or.inr (Or.inl ⟨rfl, rfl, _, rfl⟩)) (hb hby d_method_3_59) hr
              · show (some (.long (-9223372036854775808 : Int64)) : Option Value) = some (.long (fE a b)) ∧ Fr n0 _ ∧ s₁.heap = h0
                rw [e0]
                exact ⟨by rw [show fE a b = (-9223372036854775808 : Int64) from ((if_neg hc5_1).trans ((if_neg hc13_2).trans ((if_pos hc23_3).trans ((if_neg hc33_4).trans ((if_pos hc43_5).trans ((if_pos hc53_6).trans rfl))))))], N0, rfl⟩
            · refine Go.st (fun t_ k_ => XS.ifYes X0.here hx rfl (pc0 := 53) (pc' := 60) rfl (hb hby d_method_3_53) rfl ((if0 _ _).trans (flt (own_nlt hc53_6)).2.1) (by decide) (by decide) k_) ?_
              show Go pg.tables ev below (s₁.setTop (mkF mi 60 #[.val (.long a), .second, .val (.long b), .second] [])) P
              refine Go.st (fun t_ k_ => XS.lloadN X0.here hx rfl (hb hby d_method_3_60) rfl k_) ?_
              show Go pg.tables ev below (s₁.setTop (mkF mi 61 #[.val (.long a), .second, .val (.long b), .second] [(.long a)])) P
              refine Go.st (fun t_ k_ => XS.lloadN X0.here hx rfl (hb hby d_method_3_61) rfl k_) ?_
              show Go pg.tables ev below (s₁.setTop (mkF mi 62 #[.val (.long a), .second, .val (.long b), .second] [(.long b), (.long a)])) P
              refine Go.st (fun t_ k_ => XS.ladd X0.here hx rfl (hb hby d_method_3_62) rfl k_) ?_
              show Go pg.tables ev below (s₁.setTop (mkF mi 63 #[.val (.long a), .second, .val (.long b), .second] [(.long (a + b))])) P
              obtain ⟨fs, hr, hrun, hended, hW, hsame⟩ := X0.leave (v := some (.long (a + b))) (fun h => by rw [Bd.returns] at h; cases h) (BodyLoose.notSynchronized Bd)
              refine ⟨_, _, ?_, hP _ _ ⟨hrun, hended, _, _, rfl, ?_, ⟨_, rfl⟩, hW, hsame.mono (by decide) (by decide)⟩⟩
              · exact retOut X0 hx Bd.returns rfl (Or.inr (Or.inl ⟨rfl, rfl, _, rfl⟩)) (hb hby d_method_3_63) hr
              · show (some (.long (a + b)) : Option Value) = some (.long (fE a b)) ∧ Fr n0 _ ∧ s₁.heap = h0
                rw [e0]
                exact ⟨by rw [show fE a b = (a + b) from ((if_neg hc5_1).trans ((if_neg hc13_2).trans ((if_pos hc23_3).trans ((if_neg hc33_4).trans ((if_pos hc43_5).trans ((if_neg hc53_6).trans rfl))))))], N0, rfl⟩
          · refine Go.st (fun t_ k_ => XS.ifYes X0.here hx rfl (pc0 := 43) (pc' := 60) rfl (hb hby d_method_3_43) rfl ((if0 _ _).trans (flt (own_nlt hc43_5)).2.1) (by decide) (by decide) k_) ?_
            show Go pg.tables ev below (s₁.setTop (mkF mi 60 #[.val (.long a), .second, .val (.long b), .second] [])) P
            refine Go.st (fun t_ k_ => XS.lloadN X0.here hx rfl (hb hby d_method_3_60) rfl k_) ?_
            show Go pg.tables ev below (s₁.setTop (mkF mi 61 #[.val (.long a), .second, .val (.long b), .second] [(.long a)])) P
            refine Go.st (fun t_ k_ => XS.lloadN X0.here hx rfl (hb hby d_method_3_61) rfl k_) ?_
            show Go pg.tables ev below (s₁.setTop (mkF mi 62 #[.val (.long a), .second, .val (.long b), .second] [(.long b), (.long a)])) P
            refine Go.st (fun t_ k_ => XS.ladd X0.here hx rfl (hb hby d_method_3_62) rfl k_) ?_
            show Go pg.tables ev below (s₁.setTop (mkF mi 63 #[.val (.long a), .second, .val (.long b), .second] [(.long (a + b))])) P
            obtain ⟨fs, hr, hrun, hended, hW, hsame⟩ := X0.leave (v := some (.long (a + b))) (fun h => by rw [Bd.returns] at h; cases h) (BodyLoose.notSynchronized Bd)
            refine ⟨_, _, ?_, hP _ _ ⟨hrun, hended, _, _, rfl, ?_, ⟨_, rfl⟩, hW, hsame.mono (by decide) (by decide)⟩⟩
            · exact retOut X0 hx Bd.returns rfl (Or.inr (Or.inl ⟨rfl, rfl, _, rfl⟩)) (hb hby d_method_3_63) hr
            · show (some (.long (a + b)) : Option Value) = some (.long (fE a b)) ∧ Fr n0 _ ∧ s₁.heap = h0
              rw [e0]
              exact ⟨by rw [show fE a b = (a + b) from ((if_neg hc5_1).trans ((if_neg hc13_2).trans ((if_pos hc23_3).trans ((if_neg hc33_4).trans ((if_neg hc43_5).trans rfl)))))], N0, rfl⟩
      · refine Go.st (fun t_ k_ => XS.ifYes X0.here hx rfl (pc0 := 23) (pc' := 40) rfl (hb hby d_method_3_23) rfl ((if0 _ _).trans (flt (own_ngt hc23_3)).2.2.2) (by decide) (by decide) k_) ?_
        show Go pg.tables ev below (s₁.setTop (mkF mi 40 #[.val (.long a), .second, .val (.long b), .second] [])) P
        refine Go.st (fun t_ k_ => XS.lloadN X0.here hx rfl (hb hby d_method_3_40) rfl k_) ?_
        show Go pg.tables ev below (s₁.setTop (mkF mi 41 #[.val (.long a), .second, .val (.long b), .second] [(.long b)])) P
        refine Go.st (fun t_ k_ => XS.lconst X0.here hx rfl (hb hby d_method_3_41) k_) ?_
        show Go pg.tables ev below (s₁.setTop (mkF mi 42 #[.val (.long a), .second, .val (.long b), .second] [(.long (0 : Int64)), (.long b)])) P
        refine Go.st (fun t_ k_ => XS.lcmp X0.here hx rfl (hb hby d_method_3_42) rfl k_) ?_
        show Go pg.tables ev below (s₁.setTop (mkF mi 43 #[.val (.long a), .second, .val (.long b), .second] [(.int (lcmpW b (0 : Int64)))])) P
        by_cases hc43_7 : b < (0 : Int64)
        · refine Go.st (fun t_ k_ => XS.ifNo X0.here hx rfl (hb hby d_method_3_43) rfl ((if0 _ _).trans (tlt (own_lt hc43_7)).2.1) k_) ?_
          show Go pg.tables ev below (s₁.setTop (mkF mi 46 #[.val (.long a), .second, .val (.long b), .second] [])) P
          refine Go.st (fun t_ k_ => XS.lloadN X0.here hx rfl (hb hby d_method_3_46) rfl k_) ?_
          show Go pg.tables ev below (s₁.setTop (mkF mi 47 #[.val (.long a), .second, .val (.long b), .second] [(.long a)])) P
          refine Go.st (X0.ldc2Long hx hown (mvT hZ (hw _ (List.mem_of_getElem? (i := 12) rfl))) (g := (mkF mi 47 #[.val (.long a), .second, .val (.long b), .second] [(.long a)])) rfl (hb hby d_method_3_47)) ?_
          show Go pg.tables ev below (s₁.setTop (mkF mi 50 #[.val (.long a), .second, .val (.long b), .second] [(.long (-9223372036854775808 : Int64)), (.long a)])) P
          refine Go.st (fun t_ k_ => XS.lloadN X0.here hx rfl (hb hby d_method_3_50) rfl k_) ?_
          show Go pg.tables ev below (s₁.setTop (mkF mi 51 #[.val (.long a), .second, .val (.long b), .second] [(.long b), (.long (-9223372036854775808 : Int64)), (.long a)])) P
          refine Go.st (fun t_ k_ => XS.lsub X0.here hx rfl (hb hby d_method_3_51) rfl k_) ?_
          show Go pg.tables ev below (s₁.setTop (mkF mi 52 #[.val (.long a), .second, .val (.long b), .second] [(.long ((-9223372036854775808 : Int64) - b)), (.long a)])) P
          refine Go.st (fun t_ k_ => XS.lcmp X0.here hx rfl (hb hby d_method_3_52) rfl k_) ?_
          show Go pg.tables ev below (s₁.setTop (mkF mi 53 #[.val (.long a), .second, .val (.long b), .second] [(.int (lcmpW a ((-9223372036854775808 : Int64) - b)))])) P
          by_cases hc53_8 : a < ((-9223372036854775808 : Int64) - b)
          · refine Go.st (fun t_ k_ => XS.ifNo X0.here hx rfl (hb hby d_method_3_53) rfl ((if0 _ _).trans (tlt (own_lt hc53_8)).2.1) k_) ?_
            show Go pg.tables ev below (s₁.setTop (mkF mi 56 #[.val (.long a), .second, .val (.long b), .second] [])) P
            refine Go.st (X0.ldc2Long hx hown (mvT hZ (hw _ (List.mem_of_getElem? (i := 12) rfl))) (g := (mkF mi 56 #[.val (.long a), .second, .val (.long b), .second] [])) rfl (hb hby d_method_3_56)) ?_
            show Go pg.tables ev below (s₁.setTop (mkF mi 59 #[.val (.long a), .second, .val (.long b), .second] [(.long (-9223372036854775808 : Int64))])) P
            obtain ⟨fs, hr, hrun, hended, hW, hsame⟩ := X0.leave (v := some (.long (-9223372036854775808 : Int64))) (fun h => by rw [Bd.returns] at h; cases h) (BodyLoose.notSynchronized Bd)
            refine ⟨_, _, ?_, hP _ _ ⟨hrun, hended, _, _, rfl, ?_, ⟨_, rfl⟩, hW, hsame.mono (by decide) (by decide)⟩⟩
            · exact retOut X0 hx Bd.returns rfl (Or.inr (Or.inl ⟨rfl, rfl, _, rfl⟩)) (hb hby d_method_3_59) hr
            · show (some (.long (-9223372036854775808 : Int64)) : Option Value) = some (.long (fE a b)) ∧ Fr n0 _ ∧ s₁.heap = h0
              rw [e0]
              exact ⟨by rw [show fE a b = (-9223372036854775808 : Int64) from ((if_neg hc5_1).trans ((if_neg hc13_2).trans ((if_neg hc23_3).trans ((if_pos hc43_7).trans ((if_pos hc53_8).trans rfl)))))], N0, rfl⟩
          · refine Go.st (fun t_ k_ => XS.ifYes X0.here hx rfl (pc0 := 53) (pc' := 60) rfl (hb hby d_method_3_53) rfl ((if0 _ _).trans (flt (own_nlt hc53_8)).2.1) (by decide) (by decide) k_) ?_
            show Go pg.tables ev below (s₁.setTop (mkF mi 60 #[.val (.long a), .second, .val (.long b), .second] [])) P
            refine Go.st (fun t_ k_ => XS.lloadN X0.here hx rfl (hb hby d_method_3_60) rfl k_) ?_
            show Go pg.tables ev below (s₁.setTop (mkF mi 61 #[.val (.long a), .second, .val (.long b), .second] [(.long a)])) P
            refine Go.st (fun t_ k_ => XS.lloadN X0.here hx rfl (hb hby d_method_3_61) rfl k_) ?_
            show Go pg.tables ev below (s₁.setTop (mkF mi 62 #[.val (.long a), .second, .val (.long b), .second] [(.long b), (.long a)])) P
            refine Go.st (fun t_ k_ => XS.ladd X0.here hx rfl (hb hby d_method_3_62) rfl k_) ?_
            show Go pg.tables ev below (s₁.setTop (mkF mi 63 #[.val (.long a), .second, .val (.long b), .second] [(.long (a + b))])) P
            obtain ⟨fs, hr, hrun, hended, hW, hsame⟩ := X0.leave (v := some (.long (a + b))) (fun h => by rw [Bd.returns] at h; cases h) (BodyLoose.notSynchronized Bd)
            refine ⟨_, _, ?_, hP _ _ ⟨hrun, hended, _, _, rfl, ?_, ⟨_, rfl⟩, hW, hsame.mono (by decide) (by decide)⟩⟩
            · exact retOut X0 hx Bd.returns rfl (Or.inr (Or.inl ⟨rfl, rfl, _, rfl⟩)) (hb hby d_method_3_63) hr
            · show (some (.long (a + b)) : Option Value) = some (.long (fE a b)) ∧ Fr n0 _ ∧ s₁.heap = h0
              rw [e0]
              exact ⟨by rw [show fE a b = (a + b) from ((if_neg hc5_1).trans ((if_neg hc13_2).trans ((if_neg hc23_3).trans ((if_pos hc43_7).trans ((if_neg hc53_8).trans rfl)))))], N0, rfl⟩
        · refine Go.st (fun t_ k_ => XS.ifYes X0.here hx rfl (pc0 := 43) (pc' := 60) rfl (hb hby d_method_3_43) rfl ((if0 _ _).trans (flt (own_nlt hc43_7)).2.1) (by decide) (by decide) k_) ?_
          show Go pg.tables ev below (s₁.setTop (mkF mi 60 #[.val (.long a), .second, .val (.long b), .second] [])) P
          refine Go.st (fun t_ k_ => XS.lloadN X0.here hx rfl (hb hby d_method_3_60) rfl k_) ?_
          show Go pg.tables ev below (s₁.setTop (mkF mi 61 #[.val (.long a), .second, .val (.long b), .second] [(.long a)])) P
          refine Go.st (fun t_ k_ => XS.lloadN X0.here hx rfl (hb hby d_method_3_61) rfl k_) ?_
          show Go pg.tables ev below (s₁.setTop (mkF mi 62 #[.val (.long a), .second, .val (.long b), .second] [(.long b), (.long a)])) P
          refine Go.st (fun t_ k_ => XS.ladd X0.here hx rfl (hb hby d_method_3_62) rfl k_) ?_
          show Go pg.tables ev below (s₁.setTop (mkF mi 63 #[.val (.long a), .second, .val (.long b), .second] [(.long (a + b))])) P
          obtain ⟨fs, hr, hrun, hended, hW, hsame⟩ := X0.leave (v := some (.long (a + b))) (fun h => by rw [Bd.returns] at h; cases h) (BodyLoose.notSynchronized Bd)
          refine ⟨_, _, ?_, hP _ _ ⟨hrun, hended, _, _, rfl, ?_, ⟨_, rfl⟩, hW, hsame.mono (by decide) (by decide)⟩⟩
          · exact retOut X0 hx Bd.returns rfl (Or.inr (Or.inl ⟨rfl, rfl, _, rfl⟩)) (hb hby d_method_3_63) hr
          · show (some (.long (a + b)) : Option Value) = some (.long (fE a b)) ∧ Fr n0 _ ∧ s₁.heap = h0
            rw [e0]
            exact ⟨by rw [show fE a b = (a + b) from ((if_neg hc5_1).trans ((if_neg hc13_2).trans ((if_neg hc23_3).trans ((if_neg hc43_7).trans rfl))))], N0, rfl⟩
theorem own_law (a b : Int64) : fA a b = fE a b := by
  have e1 := c_ladd a b
  have e2 := c_lsub 9223372036854775807 b
  have e3 := c_lsub (-9223372036854775808) b
  have x1 := c_xorSL a (a + b)
  have x2 := c_xorSL b (a + b)
  have x3 := c_andSL (a ^^^ (a + b)) (b ^^^ (a + b))
  have l1 : (0 : Int64).toInt = 0 := rfl
  have l3 : (9223372036854775807 : Int64).toInt = 9223372036854775807 := rfl
  have l4 : (-9223372036854775808 : Int64).toInt = -9223372036854775808 := rfl
  have b1 := Int64.le_toInt a
  have b2 := Int64.toInt_lt a
  have b3 := Int64.le_toInt b
  have b4 := Int64.toInt_lt b
  have b5 := Int64.le_toInt (a + b)
  have b6 := Int64.toInt_lt (a + b)
  have b7 := Int64.le_toInt (9223372036854775807 - b)
  have b8 := Int64.toInt_lt (9223372036854775807 - b)
  have b9 := Int64.le_toInt (-9223372036854775808 - b)
  have b0 := Int64.toInt_lt (-9223372036854775808 - b)
  unfold fA fE
  generalize (a ^^^ (a + b)) &&& (b ^^^ (a + b)) = w at *
  generalize a ^^^ (a + b) = w1 at *
  generalize b ^^^ (a + b) = w2 at *
  generalize a + b = u at *
  generalize 9223372036854775807 - b = v at *
  generalize -9223372036854775808 - b = v' at *
  repeat' split
  all_goals first | rfl | (simp only [Int64.lt_iff_toInt_lt, ← Int64.toInt_inj] at *; omega)
theorem pd_0 : parseMethodDescriptor "(JI)J" = some ⟨[.long, .int], some .long⟩ := by decide +kernel
theorem pd_1 : parseMethodDescriptor "(JJ)J" = some ⟨[.long, .long], some .long⟩ := by decide +kernel
theorem ef_rm0 (mi : MethodId) (x0 : Int64) (y0 : Int64) (k0 : Int32) : entryFrame mi #[(.long x0), (.long y0), (.int k0)] maxLocals = mkF mi 0 #[.val (.long x0), .second, .val (.long y0), .second, .val (.int k0), .unset, .unset, .unset, .unset] [] := by first | (simp [entryFrame, mkF, argsToLocals, Value.category, maxLocals]; done) | rfl
def Q_rm0 (Z : State) (x0 : Int64) (y0 : Int64) (k0 : Int32) (h0 : Heap) (n0 : Nat) (vv_ : Option Value) (hh_ : Heap) (LL_ : List Loc) : Prop := vv_ = some (.int 1) ∧ Fr n0 LL_
set_option maxRecDepth 65536 in
set_option maxHeartbeats 40000000 in
theorem rm0 (l : Launch) (Z : State) (a0 : Array Value) (hw : ∀ d ∈ tables_1, d.before a0 Z = true) (ws : List Jvm.Cond) (x0 : Int64) (y0 : Int64) (k0 : Int32) (h0 : Heap) (n0 : Nat) (Z0 : n0 ≤ h0.size) :
    MetFree l x (head1 (Jvm.Cond.code x code maxLocals ret :: ws) room_1) (fun aa_ U => aa_ = #[(.long x0), (.long y0), (.int k0)] ∧ Z.Warmed39 U.vm ∧ U.heap = h0) (fun _ _ _ _ _ => True) (fun _ U oo_ UV_ => ∃ vv_ LL_, oo_ = .returned vv_ ∧ Q_rm0 Z x0 y0 k0 h0 n0 vv_ UV_.heap LL_ ∧ FrameEnd U oo_ UV_ LL_ room_1.cells room_1.slots) := by
  refine MetFree.of_bodySF (plainFor_of_name pn_0) hisR ?_
  intro pg ev si mi args below meth ci s₁ Bd hml0 hP0 hK
  obtain ⟨rfl, hZ, hh⟩ := hP0
  have hx := Bd.exec
  have hby := Bd.bytes
  have hml : ci.maxLocals = 9 := hml0
  have hown : si.vm.findClass "com/example/crossbook/crossbook/clearing/PrecisionAddPinLaw" = some mi.cls := findClass_of_methodNamed Bd.named
  have hnm := (name_of_methodNamed Bd.named Bd.method).1
  have X0 : Stand pg l ev room_1 si mi #[(.long x0), (.long y0), (.int k0)] below meth ci s₁ [] 0 0 := Stand.of_body Bd
  have e0 : s₁.heap = h0 := by rw [← hh, Bd.state]; rfl
  have N0 := Fr.nil n0
  refine Go.start (fun P hP => ?_)
  refine Go.st (fun t_ k_ => castTop (ef_rm0 mi x0 y0 k0) k_) (A := s₁.setTop (mkF mi 0 #[.val (.long x0), .second, .val (.long y0), .second, .val (.int k0), .unset, .unset, .unset, .unset] [])) ?_
  show Go pg.tables ev below (s₁.setTop (mkF mi 0 #[.val (.long x0), .second, .val (.long y0), .second, .val (.int k0), .unset, .unset, .unset, .unset] [])) P
  refine Go.st (fun t_ k_ => XS.lloadN X0.here hx rfl (hb hby at_0) rfl k_) ?_
  show Go pg.tables ev below (s₁.setTop (mkF mi 1 #[.val (.long x0), .second, .val (.long y0), .second, .val (.int k0), .unset, .unset, .unset, .unset] [(.long x0)])) P
  refine Go.st (fun t_ k_ => XS.iload X0.here hx rfl (hb hby at_1) rfl k_) ?_
  show Go pg.tables ev below (s₁.setTop (mkF mi 3 #[.val (.long x0), .second, .val (.long y0), .second, .val (.int k0), .unset, .unset, .unset, .unset] [(.int k0), (.long x0)])) P
  refine Go.st (fun t_ k_ => XS.iconst X0.here hx rfl (hb hby at_3) k_) ?_
  show Go pg.tables ev below (s₁.setTop (mkF mi 4 #[.val (.long x0), .second, .val (.long y0), .second, .val (.int k0), .unset, .unset, .unset, .unset] [(.int (3 : Int32)), (.int k0), (.long x0)])) P
  refine Go.st (fun t_ k_ => XS.iand X0.here hx rfl (hb hby at_4) rfl k_) ?_
  show Go pg.tables ev below (s₁.setTop (mkF mi 5 #[.val (.long x0), .second, .val (.long y0), .second, .val (.int k0), .unset, .unset, .unset, .unset] [(.int (k0 &&& (3 : Int32))), (.long x0)])) P
  obtain ⟨_, _, ⟨T1, L1, k1, n1⟩, -, X1, ⟨Lc1, hQ1, l1, y1, z1⟩, st1⟩ := Jvm.LawKit.callS X0 hx (y := (⟨"com/example/crossbook/crossbook/clearing/PrecisionAddPinLaw", "pick", "(JI)J"⟩ : MethodName)) hown (mvT hZ (hw _ (List.mem_of_getElem? (i := 0) rfl))) (mvT hZ (hw _ (List.mem_of_getElem? (i := 1) rfl))) (mvT hZ (hw _ (List.mem_of_getElem? (i := 2) rfl))) (mvT hZ (hw _ (List.mem_of_getElem? (i := 3) rfl))) (by decide) (backOf (W := 0) (rmP l Z a0 hw [] x0 (k0 &&& (3 : Int32)) h0 n0 Z0) hZ (hw _ (List.mem_of_getElem? (i := 3) rfl)) (hw _ (List.mem_of_getElem? (i := 2) rfl)) (by decide) (by decide)) (g := (mkF mi 5 #[.val (.long x0), .second, .val (.long y0), .second, .val (.int k0), .unset, .unset, .unset, .unset] [(.int (k0 &&& (3 : Int32))), (.long x0)])) rfl (by rw [hml]; rfl) (argsL := [(.long x0), (.int (k0 &&& (3 : Int32)))]) (rest := []) (lenOf pd_0 rfl) rfl (by show 2 * 0 + _ ≤ _; exact Nat.le_of_eq rfl) (hb hby at_5) (fun _ _ => ⟨rfl, e0, (by decide : 0 + 0 ≤ _), (by decide : 0 + 0 ≤ _)⟩)
  dsimp only [Pt.U, Pt.locs, Pt.cells, Pt.slots] at X1 l1 y1 z1 st1 hQ1
  subst l1 y1 z1
  obtain ⟨rfl, N1q, e1⟩ := hQ1
  have N1 := Fr.app N0 N1q
  refine Go.st st1 ?_
  show Go pg.tables ev below (T1.setTop (mkF mi 8 #[.val (.long x0), .second, .val (.long y0), .second, .val (.int k0), .unset, .unset, .unset, .unset] [(.long (fP x0 (k0 &&& (3 : Int32))))])) P
  refine Go.st (fun t_ k_ => XS.lstore X1.here hx rfl (hb hby at_8) rfl (l' := #[.val (.long x0), .second, .val (.long y0), .second, .val (.int k0), .val (.long (fP x0 (k0 &&& (3 : Int32)))), .second, .unset, .unset]) rfl k_) ?_
  show Go pg.tables ev below (T1.setTop (mkF mi 10 #[.val (.long x0), .second, .val (.long y0), .second, .val (.int k0), .val (.long (fP x0 (k0 &&& (3 : Int32)))), .second, .unset, .unset] [])) P
  refine Go.st (fun t_ k_ => XS.lloadN X1.here hx rfl (hb hby at_10) rfl k_) ?_
  show Go pg.tables ev below (T1.setTop (mkF mi 11 #[.val (.long x0), .second, .val (.long y0), .second, .val (.int k0), .val (.long (fP x0 (k0 &&& (3 : Int32)))), .second, .unset, .unset] [(.long y0)])) P
  refine Go.st (fun t_ k_ => XS.iload X1.here hx rfl (hb hby at_11) rfl k_) ?_
  show Go pg.tables ev below (T1.setTop (mkF mi 13 #[.val (.long x0), .second, .val (.long y0), .second, .val (.int k0), .val (.long (fP x0 (k0 &&& (3 : Int32)))), .second, .unset, .unset] [(.int k0), (.long y0)])) P
  refine Go.st (fun t_ k_ => XS.iconst X1.here hx rfl (hb hby at_13) k_) ?_
  show Go pg.tables ev below (T1.setTop (mkF mi 14 #[.val (.long x0), .second, .val (.long y0), .second, .val (.int k0), .val (.long (fP x0 (k0 &&& (3 : Int32)))), .second, .unset, .unset] [(.int (2 : Int32)), (.int k0), (.long y0)])) P
  refine Go.st (fun t_ k_ => XS.ishr X1.here hx rfl (hb hby at_14) rfl k_) ?_
  show Go pg.tables ev below (T1.setTop (mkF mi 15 #[.val (.long x0), .second, .val (.long y0), .second, .val (.int k0), .val (.long (fP x0 (k0 &&& (3 : Int32)))), .second, .unset, .unset] [(.int (k0 >>> ((2 : Int32) &&& 31))), (.long y0)])) P
  refine Go.st (fun t_ k_ => XS.iconst X1.here hx rfl (hb hby at_15) k_) ?_
  show Go pg.tables ev below (T1.setTop (mkF mi 16 #[.val (.long x0), .second, .val (.long y0), .second, .val (.int k0), .val (.long (fP x0 (k0 &&& (3 : Int32)))), .second, .unset, .unset] [(.int (3 : Int32)), (.int (k0 >>> ((2 : Int32) &&& 31))), (.long y0)])) P
  refine Go.st (fun t_ k_ => XS.iand X1.here hx rfl (hb hby at_16) rfl k_) ?_
  show Go pg.tables ev below (T1.setTop (mkF mi 17 #[.val (.long x0), .second, .val (.long y0), .second, .val (.int k0), .val (.long (fP x0 (k0 &&& (3 : Int32)))), .second, .unset, .unset] [(.int ((k0 >>> ((2 : Int32) &&& 31)) &&& (3 : Int32))), (.long y0)])) P
  obtain ⟨_, _, ⟨T2, L2, k2, n2⟩, -, X2, ⟨Lc2, hQ2, l2, y2, z2⟩, st2⟩ := Jvm.LawKit.callS X1 hx (y := (⟨"com/example/crossbook/crossbook/clearing/PrecisionAddPinLaw", "pick", "(JI)J"⟩ : MethodName)) hown (mvT hZ (hw _ (List.mem_of_getElem? (i := 0) rfl))) (mvT hZ (hw _ (List.mem_of_getElem? (i := 1) rfl))) (mvT hZ (hw _ (List.mem_of_getElem? (i := 2) rfl))) (mvT hZ (hw _ (List.mem_of_getElem? (i := 3) rfl))) (by decide) (backOf (W := 0) (rmP l Z a0 hw [] y0 ((k0 >>> ((2 : Int32) &&& 31)) &&& (3 : Int32)) h0 n0 Z0) hZ (hw _ (List.mem_of_getElem? (i := 3) rfl)) (hw _ (List.mem_of_getElem? (i := 2) rfl)) (by decide) (by decide)) (g := (mkF mi 17 #[.val (.long x0), .second, .val (.long y0), .second, .val (.int k0), .val (.long (fP x0 (k0 &&& (3 : Int32)))), .second, .unset, .unset] [(.int ((k0 >>> ((2 : Int32) &&& 31)) &&& (3 : Int32))), (.long y0)])) rfl (by rw [hml]; rfl) (argsL := [(.long y0), (.int ((k0 >>> ((2 : Int32) &&& 31)) &&& (3 : Int32)))]) (rest := []) (lenOf pd_0 rfl) rfl (by show 2 * 0 + _ ≤ _; exact Nat.le_of_eq rfl) (hb hby at_17) (fun _ _ => ⟨rfl, e1, (by decide : 0 + 0 ≤ _), (by decide : 0 + 0 ≤ _)⟩)
  dsimp only [Pt.U, Pt.locs, Pt.cells, Pt.slots] at X2 l2 y2 z2 st2 hQ2
  subst l2 y2 z2
  obtain ⟨rfl, N2q, e2⟩ := hQ2
  have N2 := Fr.app N1 N2q
  refine Go.st st2 ?_
  show Go pg.tables ev below (T2.setTop (mkF mi 20 #[.val (.long x0), .second, .val (.long y0), .second, .val (.int k0), .val (.long (fP x0 (k0 &&& (3 : Int32)))), .second, .unset, .unset] [(.long (fP y0 ((k0 >>> ((2 : Int32) &&& 31)) &&& (3 : Int32))))])) P
  refine Go.st (fun t_ k_ => XS.lstore X2.here hx rfl (hb hby at_20) rfl (l' := #[.val (.long x0), .second, .val (.long y0), .second, .val (.int k0), .val (.long (fP x0 (k0 &&& (3 : Int32)))), .second, .val (.long (fP y0 ((k0 >>> ((2 : Int32) &&& 31)) &&& (3 : Int32)))), .second]) rfl k_) ?_
  show Go pg.tables ev below (T2.setTop (mkF mi 22 #[.val (.long x0), .second, .val (.long y0), .second, .val (.int k0), .val (.long (fP x0 (k0 &&& (3 : Int32)))), .second, .val (.long (fP y0 ((k0 >>> ((2 : Int32) &&& 31)) &&& (3 : Int32)))), .second] [])) P
  refine Go.st (fun t_ k_ => XS.lload X2.here hx rfl (hb hby at_22) rfl k_) ?_
  show Go pg.tables ev below (T2.setTop (mkF mi 24 #[.val (.long x0), .second, .val (.long y0), .second, .val (.int k0), .val (.long (fP x0 (k0 &&& (3 : Int32)))), .second, .val (.long (fP y0 ((k0 >>> ((2 : Int32) &&& 31)) &&& (3 : Int32)))), .second] [(.long (fP x0 (k0 &&& (3 : Int32))))])) P
  refine Go.st (fun t_ k_ => XS.lload X2.here hx rfl (hb hby at_24) rfl k_) ?_
  show Go pg.tables ev below (T2.setTop (mkF mi 26 #[.val (.long x0), .second, .val (.long y0), .second, .val (.int k0), .val (.long (fP x0 (k0 &&& (3 : Int32)))), .second, .val (.long (fP y0 ((k0 >>> ((2 : Int32) &&& 31)) &&& (3 : Int32)))), .second] [(.long (fP y0 ((k0 >>> ((2 : Int32) &&& 31)) &&& (3 : Int32)))), (.long (fP x0 (k0 &&& (3 : Int32))))])) P
  obtain ⟨_, _, ⟨T3, L3, k3, n3⟩, -, X3, ⟨Lc3, hQ3, l3, y3, z3⟩, st3⟩ := Jvm.LawKit.callS X2 hx (y := (⟨"com/example/crossbook/crossbook/clearing/Precision", "add", "(JJ)J"⟩ : MethodName)) hown (mvT hZ (hw _ (List.mem_of_getElem? (i := 4) rfl))) (mvT hZ (hw _ (List.mem_of_getElem? (i := 5) rfl))) (mvT hZ (hw _ (List.mem_of_getElem? (i := 6) rfl))) (mvT hZ (hw _ (List.mem_of_getElem? (i := 7) rfl))) (by decide) (backOf (W := 0) (rmA l Z a0 hw [] (fP x0 (k0 &&& (3 : Int32))) (fP y0 ((k0 >>> ((2 : Int32) &&& 31)) &&& (3 : Int32))) h0 n0 Z0) hZ (hw _ (List.mem_of_getElem? (i := 7) rfl)) (hw _ (List.mem_of_getElem? (i := 6) rfl)) (by decide) (by decide)) (g := (mkF mi 26 #[.val (.long x0), .second, .val (.long y0), .second, .val (.int k0), .val (.long (fP x0 (k0 &&& (3 : Int32)))), .second, .val (.long (fP y0 ((k0 >>> ((2 : Int32) &&& 31)) &&& (3 : Int32)))), .second] [(.long (fP y0 ((k0 >>> ((2 : Int32) &&& 31)) &&& (3 : Int32)))), (.long (fP x0 (k0 &&& (3 : Int32))))])) rfl (by rw [hml]; rfl) (argsL := [(.long (fP x0 (k0 &&& (3 : Int32)))), (.long (fP y0 ((k0 >>> ((2 : Int32) &&& 31)) &&& (3 : Int32))))]) (rest := []) (lenOf pd_1 rfl) rfl (by show 2 * 0 + _ ≤ _; exact Nat.le_of_eq rfl) (hb hby at_26) (fun _ _ => ⟨rfl, e2, (by decide : 0 + 0 ≤ _), (by decide : 0 + 0 ≤ _)⟩)
  dsimp only [Pt.U, Pt.locs, Pt.cells, Pt.slots] at X3 l3 y3 z3 st3 hQ3
  subst l3 y3 z3
  obtain ⟨rfl, N3q, e3⟩ := hQ3
  have N3 := Fr.app N2 N3q
  refine Go.st st3 ?_
  show Go pg.tables ev below (T3.setTop (mkF mi 29 #[.val (.long x0), .second, .val (.long y0), .second, .val (.int k0), .val (.long (fP x0 (k0 &&& (3 : Int32)))), .second, .val (.long (fP y0 ((k0 >>> ((2 : Int32) &&& 31)) &&& (3 : Int32)))), .second] [(.long (fA (fP x0 (k0 &&& (3 : Int32))) (fP y0 ((k0 >>> ((2 : Int32) &&& 31)) &&& (3 : Int32)))))])) P
  refine Go.st (fun t_ k_ => XS.lload X3.here hx rfl (hb hby at_29) rfl k_) ?_
  show Go pg.tables ev below (T3.setTop (mkF mi 31 #[.val (.long x0), .second, .val (.long y0), .second, .val (.int k0), .val (.long (fP x0 (k0 &&& (3 : Int32)))), .second, .val (.long (fP y0 ((k0 >>> ((2 : Int32) &&& 31)) &&& (3 : Int32)))), .second] [(.long (fP x0 (k0 &&& (3 : Int32)))), (.long (fA (fP x0 (k0 &&& (3 : Int32))) (fP y0 ((k0 >>> ((2 : Int32) &&& 31)) &&& (3 : Int32)))))])) P
  refine Go.st (fun t_ k_ => XS.lload X3.here hx rfl (hb hby at_31) rfl k_) ?_
  show Go pg.tables ev below (T3.setTop (mkF mi 33 #[.val (.long x0), .second, .val (.long y0), .second, .val (.int k0), .val (.long (fP x0 (k0 &&& (3 : Int32)))), .second, .val (.long (fP y0 ((k0 >>> ((2 : Int32) &&& 31)) &&& (3 : Int32)))), .second] [(.long (fP y0 ((k0 >>> ((2 : Int32) &&& 31)) &&& (3 : Int32)))), (.long (fP x0 (k0 &&& (3 : Int32)))), (.long (fA (fP x0 (k0 &&& (3 : Int32))) (fP y0 ((k0 >>> ((2 : Int32) &&& 31)) &&& (3 : Int32)))))])) P
  obtain ⟨_, _, ⟨T4, L4, k4, n4⟩, -, X4, ⟨Lc4, hQ4, l4, y4, z4⟩, st4⟩ := Jvm.LawKit.callS X3 hx (y := (⟨"com/example/crossbook/crossbook/clearing/PrecisionAddPinLaw", "expected", "(JJ)J"⟩ : MethodName)) hown (mvT hZ (hw _ (List.mem_of_getElem? (i := 9) rfl))) (mvT hZ (hw _ (List.mem_of_getElem? (i := 10) rfl))) (mvT hZ (hw _ (List.mem_of_getElem? (i := 2) rfl))) (mvT hZ (hw _ (List.mem_of_getElem? (i := 11) rfl))) (by decide) (backOf (W := 2) (rmE l Z a0 hw [] (fP x0 (k0 &&& (3 : Int32))) (fP y0 ((k0 >>> ((2 : Int32) &&& 31)) &&& (3 : Int32))) h0 n0 Z0) hZ (hw _ (List.mem_of_getElem? (i := 11) rfl)) (hw _ (List.mem_of_getElem? (i := 2) rfl)) (by decide) (by decide)) (g := (mkF mi 33 #[.val (.long x0), .second, .val (.long y0), .second, .val (.int k0), .val (.long (fP x0 (k0 &&& (3 : Int32)))), .second, .val (.long (fP y0 ((k0 >>> ((2 : Int32) &&& 31)) &&& (3 : Int32)))), .second] [(.long (fP y0 ((k0 >>> ((2 : Int32) &&& 31)) &&& (3 : Int32)))), (.long (fP x0 (k0 &&& (3 : Int32)))), (.long (fA (fP x0 (k0 &&& (3 : Int32))) (fP y0 ((k0 >>> ((2 : Int32) &&& 31)) &&& (3 : Int32)))))])) rfl (by rw [hml]; rfl) (argsL := [(.long (fP x0 (k0 &&& (3 : Int32)))), (.long (fP y0 ((k0 >>> ((2 : Int32) &&& 31)) &&& (3 : Int32))))]) (rest := [(.long (fA (fP x0 (k0 &&& (3 : Int32))) (fP y0 ((k0 >>> ((2 : Int32) &&& 31)) &&& (3 : Int32)))))]) (lenOf pd_1 rfl) rfl (by show 2 * 0 + _ ≤ _; exact Nat.le_of_eq rfl) (hb hby at_33) (fun _ _ => ⟨rfl, e3, (by decide : 0 + 0 ≤ _), (by decide : 0 + 0 ≤ _)⟩)
  dsimp only [Pt.U, Pt.locs, Pt.cells, Pt.slots] at X4 l4 y4 z4 st4 hQ4
  subst l4 y4 z4
  obtain ⟨rfl, N4q, e4⟩ := hQ4
  have N4 := Fr.app N3 N4q
  refine Go.st st4 ?_
  show Go pg.tables ev below (T4.setTop (mkF mi 36 #[.val (.long x0), .second, .val (.long y0), .second, .val (.int k0), .val (.long (fP x0 (k0 &&& (3 : Int32)))), .second, .val (.long (fP y0 ((k0 >>> ((2 : Int32) &&& 31)) &&& (3 : Int32)))), .second] [(.long (fE (fP x0 (k0 &&& (3 : Int32))) (fP y0 ((k0 >>> ((2 : Int32) &&& 31)) &&& (3 : Int32))))), (.long (fA (fP x0 (k0 &&& (3 : Int32))) (fP y0 ((k0 >>> ((2 : Int32) &&& 31)) &&& (3 : Int32)))))])) P
  refine Go.st (fun t_ k_ => XS.lcmp X4.here hx rfl (hb hby at_36) rfl k_) ?_
  show Go pg.tables ev below (T4.setTop (mkF mi 37 #[.val (.long x0), .second, .val (.long y0), .second, .val (.int k0), .val (.long (fP x0 (k0 &&& (3 : Int32)))), .second, .val (.long (fP y0 ((k0 >>> ((2 : Int32) &&& 31)) &&& (3 : Int32)))), .second] [(.int (lcmpW (fA (fP x0 (k0 &&& (3 : Int32))) (fP y0 ((k0 >>> ((2 : Int32) &&& 31)) &&& (3 : Int32)))) (fE (fP x0 (k0 &&& (3 : Int32))) (fP y0 ((k0 >>> ((2 : Int32) &&& 31)) &&& (3 : Int32))))))])) P
  have dm5 : ∀ t_, Steps pg.tables ev below (T4.setTop (mkF mi 45 #[.val (.long x0), .second, .val (.long y0), .second, .val (.int k0), .val (.long (fP x0 (k0 &&& (3 : Int32)))), .second, .val (.long (fP y0 ((k0 >>> ((2 : Int32) &&& 31)) &&& (3 : Int32)))), .second] [(.int (if (fA (fP x0 (k0 &&& (3 : Int32))) (fP y0 ((k0 >>> ((2 : Int32) &&& 31)) &&& (3 : Int32)))) = (fE (fP x0 (k0 &&& (3 : Int32))) (fP y0 ((k0 >>> ((2 : Int32) &&& 31)) &&& (3 : Int32)))) then (1 : Int32) else (0 : Int32)))])) t_ → Steps pg.tables ev below (T4.setTop (mkF mi 37 #[.val (.long x0), .second, .val (.long y0), .second, .val (.int k0), .val (.long (fP x0 (k0 &&& (3 : Int32)))), .second, .val (.long (fP y0 ((k0 >>> ((2 : Int32) &&& 31)) &&& (3 : Int32)))), .second] [(.int (lcmpW (fA (fP x0 (k0 &&& (3 : Int32))) (fP y0 ((k0 >>> ((2 : Int32) &&& 31)) &&& (3 : Int32)))) (fE (fP x0 (k0 &&& (3 : Int32))) (fP y0 ((k0 >>> ((2 : Int32) &&& 31)) &&& (3 : Int32))))))])) t_ := by
    intro t_ k_
    by_cases hd : (fA (fP x0 (k0 &&& (3 : Int32))) (fP y0 ((k0 >>> ((2 : Int32) &&& 31)) &&& (3 : Int32)))) = (fE (fP x0 (k0 &&& (3 : Int32))) (fP y0 ((k0 >>> ((2 : Int32) &&& 31)) &&& (3 : Int32))))
    · refine XS.ifNo X4.here hx rfl (hb hby at_37) rfl ((if0 _ _).trans (teq (own_eq hd)).2) ?_
      show Steps pg.tables ev below (T4.setTop (mkF mi 40 #[.val (.long x0), .second, .val (.long y0), .second, .val (.int k0), .val (.long (fP x0 (k0 &&& (3 : Int32)))), .second, .val (.long (fP y0 ((k0 >>> ((2 : Int32) &&& 31)) &&& (3 : Int32)))), .second] [])) t_
      refine XS.iconst X4.here hx rfl (hb hby at_40) ?_
      show Steps pg.tables ev below (T4.setTop (mkF mi 41 #[.val (.long x0), .second, .val (.long y0), .second, .val (.int k0), .val (.long (fP x0 (k0 &&& (3 : Int32)))), .second, .val (.long (fP y0 ((k0 >>> ((2 : Int32) &&& 31)) &&& (3 : Int32)))), .second] [(.int (1 : Int32))])) t_
      refine XS.goto X4.here hx rfl (pc0 := 41) (pc' := 45) rfl (hb hby at_41) (by decide) (by decide) ?_
      show Steps pg.tables ev below (T4.setTop (mkF mi 45 #[.val (.long x0), .second, .val (.long y0), .second, .val (.int k0), .val (.long (fP x0 (k0 &&& (3 : Int32)))), .second, .val (.long (fP y0 ((k0 >>> ((2 : Int32) &&& 31)) &&& (3 : Int32)))), .second] [(.int (1 : Int32))])) t_
      exact own_cst (if_pos hd) k_
    · refine XS.ifYes X4.here hx rfl (pc0 := 37) (pc' := 44) rfl (hb hby at_37) rfl ((if0 _ _).trans (feq (own_neq hd)).2) (by decide) (by decide) ?_
      show Steps pg.tables ev below (T4.setTop (mkF mi 44 #[.val (.long x0), .second, .val (.long y0), .second, .val (.int k0), .val (.long (fP x0 (k0 &&& (3 : Int32)))), .second, .val (.long (fP y0 ((k0 >>> ((2 : Int32) &&& 31)) &&& (3 : Int32)))), .second] [])) t_
      refine XS.iconst X4.here hx rfl (hb hby at_44) ?_
      show Steps pg.tables ev below (T4.setTop (mkF mi 45 #[.val (.long x0), .second, .val (.long y0), .second, .val (.int k0), .val (.long (fP x0 (k0 &&& (3 : Int32)))), .second, .val (.long (fP y0 ((k0 >>> ((2 : Int32) &&& 31)) &&& (3 : Int32)))), .second] [(.int (0 : Int32))])) t_
      exact own_cst (if_neg hd) k_
  refine Go.st dm5 ?_
  show Go pg.tables ev below (T4.setTop (mkF mi 45 #[.val (.long x0), .second, .val (.long y0), .second, .val (.int k0), .val (.long (fP x0 (k0 &&& (3 : Int32)))), .second, .val (.long (fP y0 ((k0 >>> ((2 : Int32) &&& 31)) &&& (3 : Int32)))), .second] [(.int (if (fA (fP x0 (k0 &&& (3 : Int32))) (fP y0 ((k0 >>> ((2 : Int32) &&& 31)) &&& (3 : Int32)))) = (fE (fP x0 (k0 &&& (3 : Int32))) (fP y0 ((k0 >>> ((2 : Int32) &&& 31)) &&& (3 : Int32)))) then (1 : Int32) else (0 : Int32)))])) P
  obtain ⟨fs, hr, hrun, hended, hW, hsame⟩ := X4.leave (v := some (.int (if (fA (fP x0 (k0 &&& (3 : Int32))) (fP y0 ((k0 >>> ((2 : Int32) &&& 31)) &&& (3 : Int32)))) = (fE (fP x0 (k0 &&& (3 : Int32))) (fP y0 ((k0 >>> ((2 : Int32) &&& 31)) &&& (3 : Int32)))) then (1 : Int32) else (0 : Int32)))) (fun h => by rw [Bd.returns] at h; cases h) (BodyLoose.notSynchronized Bd)
  refine ⟨_, _, ?_, hP _ _ ⟨hrun, hended, _, _, rfl, ?_, ⟨_, rfl⟩, hW, hsame.mono (by decide) (by decide)⟩⟩
  · exact own_retN X4 hx (t := .boolean) Bd.returns (by simp) (own_nb rfl rfl) (hb hby at_45) hr
  · show (some (.int (if (fA (fP x0 (k0 &&& (3 : Int32))) (fP y0 ((k0 >>> ((2 : Int32) &&& 31)) &&& (3 : Int32)))) = (fE (fP x0 (k0 &&& (3 : Int32))) (fP y0 ((k0 >>> ((2 : Int32) &&& 31)) &&& (3 : Int32)))) then (1 : Int32) else (0 : Int32))) : Option Value) = some (.int 1) ∧ Fr n0 _
    exact ⟨congrArg (fun z => some (Value.int z)) (show (if (fA (fP x0 (k0 &&& (3 : Int32))) (fP y0 ((k0 >>> ((2 : Int32) &&& 31)) &&& (3 : Int32)))) = (fE (fP x0 (k0 &&& (3 : Int32))) (fP y0 ((k0 >>> ((2 : Int32) &&& 31)) &&& (3 : Int32)))) then (1 : Int32) else (0 : Int32)) = 1 from if_pos (own_law _ _)), N4⟩
set_option maxRecDepth 65536 in
set_option maxHeartbeats 40000000 in
theorem comes_1 {Post : Tables → Env → Array Value → State → Outcome → State → Prop} (hpost : ∀ tb e args s v u, (limb_1_1.after args s (.returned v) u = true ∧ limb_1_2.after args s (.returned v) u = true ∧ True) → FrameEnd s (.returned v) u (Jvm.fieldLocs frame_1_writes args s ++ Jvm.arrayLocs frame_1_arrays args s ++ Jvm.staticLocs frame_1_statics s) 0 0 → Post tb e args s (.returned v) u) :
    ArmFor flags0 classFile x code maxLocals ret World_1 tables_1 room_1 Calls_1 rest_1 Pre_1 Post := by
  intro l hfl _ _ p e ha hc hk s m args below hf hA hF happ hP
  obtain ⟨hcalls, hrest, hpre⟩ := hP
  obtain ⟨-, -, -, hnamed, -, -, -, hat⟩ := (Spec.applies_iff hf).mp happ
  obtain ⟨hg, hn⟩ := and_e (Cond.before_iff.mp (show (Jvm.Cond.and given_1 narrow_1).before args s = true from hpre))
  obtain ⟨g1, g2⟩ := and_e hg
  obtain ⟨g3, g4⟩ := and_e g2
  obtain ⟨g5, g6⟩ := and_e g4
  obtain ⟨w0, w1, w2, rfl⟩ : ∃ w0 w1 w2 : Value, args = #[w0, w1, w2] := by
    have hs : args.size = 3 := by simpa [Cond.value, given_1] using g1
    obtain ⟨L⟩ := args
    match L, hs with
    | [w0, w1, w2], _ => exact ⟨w0, w1, w2, rfl⟩
  have hw := fun d (hd : d ∈ tables_1) => atoms_spec (ws := Jvm.Cond.code x code maxLocals ret :: tables_1) hat d (List.mem_cons_of_mem _ hd)
  have hfit : Fit s := fun {y c} hc i hi => by
    obtain ⟨ha, rfl⟩ := Array.getElem?_eq_some_iff.mp hc
    have q := List.all_eq_true.mp ((Array.all_eq_true_iff_forall_mem.mp hF) _ (Array.getElem_mem ha)) i (List.mem_range.mpr hi)
    simpa [Array.getElem?_eq_getElem hi] using q
  obtain ⟨i0, ei0⟩ := isL_v g3
  obtain rfl : w0 = (.long i0) := Option.some.inj ei0
  obtain ⟨i1, ei1⟩ := isL_v g5
  obtain rfl : w1 = (.long i1) := Option.some.inj ei1
  obtain ⟨i2, ei2⟩ := is_v g6
  obtain rfl : w2 = (.int i2) := Option.some.inj ei2
  obtain ⟨n, o, h1, h2, h3, _, L, rfl, ⟨rfl, N⟩, hq⟩ := rm0 l s _ hw tables_1 i0 i1 i2  s.heap s.heap.size (Nat.le_refl _)  p e ha hc hk s m _ below hf ((Spec.applies_iff_loose hf).mp happ).1 ⟨rfl, State.Warmed39.refl s, rfl⟩ trivial
  refine ⟨n, _, h1, h2, h3, hpost _ _ _ _ _ _ ⟨Cond.after_iff.mpr rfl, Cond.after_iff.mpr (eq_i res_at (Term.int_eval (1)) rfl), trivial⟩ ⟨hq.1, hq.2.1, (hq.2.2.sift fun y hy => Or.inr (N y hy)).mono (by decide) (by decide)⟩⟩
theorem main_1_1 : Claimed_1_1 := comes_1 fun _ _ _ _ _ _ h hF => ⟨h.1, hF⟩
theorem main_1_2 : Claimed_1_2 := comes_1 fun _ _ _ _ _ _ h hF => ⟨h.2.1, hF⟩
end Jvm.Pilot.@@N@@
namespace Jvm.Pilot.@@N@@
open Jvm Jvm.ClassFile Sem Op Lib Jvm.Free Jvm.Stand Jvm.Pilot.@@N@@.Jvm.D
/-! MADE BY PROGRAM (witnessworld.py) out of the Statement's table words and the real class files: 9 classes; the members and pool entries that the words name. The judged class is class 1, her method 3. -/
namespace start1
open Jvm.ClassFile
def u (s : String) : CpInfo := .utf8 (stringToUtf16 s)
/-- a pool by its gaps: so many unusable entries, then the entry; so many at the end -/
def gap : Nat → List CpInfo → List CpInfo
  | 0, r => r
  | n + 1, r => .unusable :: gap n r
def poolList (es : List (Nat × CpInfo)) (last : Nat) : List CpInfo := es.foldr (fun e r => gap e.1 (e.2 :: r)) (gap last [])
def pool (es : List (Nat × CpInfo)) (last : Nat) : Array CpInfo := ⟨poolList es last⟩
def fileOf (pool : Array CpInfo) (this : Nat) (attrs : Array Attribute := #[]) (ms : Array MethodInfo := #[]) (fl : Nat := 33) (sup : Nat := 0) (ifs : Array Nat := #[]) (fds : Array FieldInfo := #[]) : ClassFile where
  minorVersion := 0
  majorVersion := 65
  constantPool := pool
  accessFlags := fl
  thisClass := this
  superClass := sup
  interfaces := ifs
  fields := fds
  methods := ms
  attributes := attrs
def plain (name : String) (sup : Option ClassId) : Class where
  name := name
  kind := .ordinary
  loader := none
  accessFlags := 33
  super := sup
  interfaces := #[]
  cf := none
  fields := #[]
  methods := #[]
  instanceTypes := #[]
  staticTypes := #[]
  resolved := #[]
  callSites := []
  init := .initialized
  statics := none
  mirror := none

def pool0 : Array CpInfo := pool [(5, u "<init>"), (0, u "()V"), (1, .class_ 10), (1, u "java/lang/Object")] 113

def k0m0 : Method := { name := "<init>", desc := "()V", sig := { parameters := [], returnType := none }, accessFlags := 1, code := none }
/-- java/lang/Object -/
def k0 : Class := { plain "java/lang/Object" none with
  accessFlags := 33
  interfaces := #[]
  cf := some (fileOf pool0 8 #[] #[{ accessFlags := 1, nameIndex := 5, descriptorIndex := 6, attributes := #[] }] 33 0 #[] #[])
  fields := #[]
  methods := #[k0m0]
  instanceTypes := #[]
  staticTypes := #[]
  resolved := Array.replicate 124 none
  statics := none }

def pool1 : Array CpInfo := pool [(2, .class_ 4), (1, u "java/lang/Object"), (0, u "<init>"), (0, u "()V"), (2, .long 9223372036854775808), (1, .long 9223372036854775807), (1, .long 255), (1, .methodref 16 17), (0, .class_ 18), (0, .nameAndType 19 20), (0, u "com/example/crossbook/crossbook/clearing/PrecisionAddPinLaw"), (0, u "pick"), (0, u "(JI)J"), (0, .methodref 22 23), (0, .class_ 24), (0, .nameAndType 25 26), (0, u "com/example/crossbook/crossbook/clearing/Precision"), (0, u "add"), (0, u "(JJ)J"), (0, .methodref 16 28), (0, .nameAndType 29 26), (0, u "expected"), (3, u "law"), (0, u "(JJI)Z")] 2

def k1m0 : Method := { name := "<init>", desc := "()V", sig := { parameters := [], returnType := none }, accessFlags := 1, code := none }
def k1c1 : Code := { maxStack := 6, maxLocals := 3, code := method_2_code, exceptionTable := #[], attributes := #[] }
def k1m1 : Method := { name := "pick", desc := "(JI)J", sig := { parameters := [.long, .int], returnType := some .long }, accessFlags := 10, code := some k1c1 }
def k1c2 : Code := { maxStack := 6, maxLocals := 4, code := method_3_code, exceptionTable := #[], attributes := #[] }
def k1m2 : Method := { name := "expected", desc := "(JJ)J", sig := { parameters := [.long, .long], returnType := some .long }, accessFlags := 10, code := some k1c2 }
def k1c3 : Code := { maxStack := 6, maxLocals := 9, code := code, exceptionTable := #[], attributes := #[] }
def k1m3 : Method := { name := "law", desc := "(JJI)Z", sig := { parameters := [.long, .long, .int], returnType := some .boolean }, accessFlags := 9, code := some k1c3 }
/-- com/example/crossbook/crossbook/clearing/PrecisionAddPinLaw -/
def k1 : Class := { plain "com/example/crossbook/crossbook/clearing/PrecisionAddPinLaw" (some 0) with
  accessFlags := 49
  interfaces := #[]
  cf := some (fileOf pool1 16 #[] #[{ accessFlags := 1, nameIndex := 5, descriptorIndex := 6, attributes := #[] }, { accessFlags := 10, nameIndex := 19, descriptorIndex := 20, attributes := #[] }, { accessFlags := 10, nameIndex := 29, descriptorIndex := 26, attributes := #[] }, { accessFlags := 9, nameIndex := 33, descriptorIndex := 34, attributes := #[] }] 49 2 #[] #[])
  fields := #[]
  methods := #[k1m0, k1m1, k1m2, k1m3]
  instanceTypes := #[]
  staticTypes := #[]
  resolved := Array.replicate 37 none
  statics := none }

def pool2 : Array CpInfo := pool [(4, .class_ 6), (1, u "java/lang/Object"), (0, u "<init>"), (0, u "()V"), (9, .class_ 19), (0, u "com/example/crossbook/crossbook/clearing/Precision"), (11, .long 9223372036854775808), (11, u "POWERS_OF_TEN"), (0, u "[J"), (6, u "add"), (0, u "(JJ)J"), (58, u "VALUE_DIGITS"), (0, u "Ljava/math/MathContext;"), (2, u "SCALE"), (0, u "I"), (2, u "NOT_UNITS"), (0, u "J"), (0, u "UNITS_OF_ONE")] 20

def k2m0 : Method := { name := "<init>", desc := "()V", sig := { parameters := [], returnType := none }, accessFlags := 2, code := none }
def k2c1 : Code := { maxStack := 6, maxLocals := 6, code := prog_88_method_5_code, exceptionTable := #[], attributes := #[] }
def k2m1 : Method := { name := "add", desc := "(JJ)J", sig := { parameters := [.long, .long], returnType := some .long }, accessFlags := 8, code := some k2c1 }
/-- com/example/crossbook/crossbook/clearing/Precision -/
def k2 : Class := { plain "com/example/crossbook/crossbook/clearing/Precision" (some 0) with
  accessFlags := 33
  interfaces := #[]
  cf := some (fileOf pool2 18 #[] #[{ accessFlags := 2, nameIndex := 7, descriptorIndex := 8, attributes := #[] }, { accessFlags := 8, nameIndex := 51, descriptorIndex := 52, attributes := #[] }] 33 4 #[] #[{ accessFlags := 25, nameIndex := 115, descriptorIndex := 116, attributes := #[] }, { accessFlags := 24, nameIndex := 111, descriptorIndex := 112, attributes := #[] }, { accessFlags := 24, nameIndex := 119, descriptorIndex := 120, attributes := #[] }, { accessFlags := 24, nameIndex := 121, descriptorIndex := 120, attributes := #[] }, { accessFlags := 26, nameIndex := 43, descriptorIndex := 44, attributes := #[] }])
  fields := #[{ name := "SCALE", type := .int, accessFlags := 25, slot := 0, constantValue := 0 }, { name := "VALUE_DIGITS", type := (.object "java/math/MathContext"), accessFlags := 24, slot := 1, constantValue := 0 }, { name := "NOT_UNITS", type := .long, accessFlags := 24, slot := 2, constantValue := 0 }, { name := "UNITS_OF_ONE", type := .long, accessFlags := 24, slot := 3, constantValue := 0 }, { name := "POWERS_OF_TEN", type := (.array .long), accessFlags := 26, slot := 4, constantValue := 0 }]
  methods := #[k2m0, k2m1]
  instanceTypes := #[]
  staticTypes := #[.int, (.object "java/math/MathContext"), .long, .long, (.array .long)]
  resolved := Array.replicate 142 none
  statics := none }

def pool3 : Array CpInfo := pool [(1, u "java/lang/Cloneable"), (0, .class_ 1), (0, u "java/lang/Object"), (0, .class_ 3)] 3

/-- java/lang/Cloneable -/
def k3 : Class := { plain "java/lang/Cloneable" (some 0) with
  accessFlags := 1537
  interfaces := #[]
  cf := some (fileOf pool3 2 #[] #[] 1537 4 #[] #[])
  fields := #[]
  methods := #[]
  instanceTypes := #[]
  staticTypes := #[]
  resolved := Array.replicate 8 none
  statics := none }

def pool4 : Array CpInfo := pool [(1, u "java/io/Serializable"), (0, .class_ 1), (0, u "java/lang/Object"), (0, .class_ 3)] 3

/-- java/io/Serializable -/
def k4 : Class := { plain "java/io/Serializable" (some 0) with
  accessFlags := 1537
  interfaces := #[]
  cf := some (fileOf pool4 2 #[] #[] 1537 4 #[] #[])
  fields := #[]
  methods := #[]
  instanceTypes := #[]
  staticTypes := #[]
  resolved := Array.replicate 8 none
  statics := none }

/-- the primitive byte -/
def k5 : Class := { plain "byte" none with kind := .primitive 'B', accessFlags := 0x411 }
/-- [B -/
def k6 : Class := { plain "[B" (some 0) with kind := .array 5 .byte, interfaces := #[3, 4], accessFlags := 1041 }

/-- the primitive int -/
def k7 : Class := { plain "int" none with kind := .primitive 'I', accessFlags := 0x411 }
/-- [I -/
def k8 : Class := { plain "[I" (some 0) with kind := .array 7 .int, interfaces := #[3, 4], accessFlags := 1041 }

def heap : Heap := #[]
def classes : Array Class := #[k0, k1, k2, k3, k4, k5, k6, k7, k8]
def interned : List (Array UInt16 × Addr) := []
def slotsUsed : Nat := 0
def theMethod : MethodId := ⟨1, 3⟩
def args0 : Array Value := #[.long 5, .long 3, .int 2]
def aboutOver (below : List Frame) : State where
  vm := { classes := classes, interned := interned.toArray }
  heap := heap
  slotsUsed := slotsUsed
  threads := #[{ frames := .invoking theMethod args0 :: below }]
def below0 : List Frame := [.native { method := ⟨0, 0⟩, args := #[] }]
def about1 : State := aboutOver below0
def p0 : Program := .bare "" "" ""
def e0 : Env := launch0.env 0 0 0
theorem w_frames : about1.frames = Frame.invoking theMethod args0 :: below0 := rfl
set_option maxRecDepth 65536 in
theorem w_args : argsFit about1.vm theMethod args0 = true := by decide +kernel
set_option maxRecDepth 65536 in
theorem w_heap : heapFits about1 = true := by decide +kernel
set_option maxRecDepth 65536 in
theorem w_runnable : about1.curStatus? = some .runnable := by decide +kernel
set_option maxRecDepth 65536 in
theorem w_alone : about1.alone = true := by decide +kernel
set_option maxRecDepth 65536 in
theorem w_named : about1.methodNamed? x = some theMethod := by decide +kernel
set_option maxRecDepth 65536 in
theorem w_hears : about1.hears theMethod below0 = true := by decide +kernel
set_option maxRecDepth 65536 in
theorem w_ripe : about1.ripe theMethod args0 below0 = true := by decide +kernel
theorem w_running : about1.status = .running := rfl
set_option maxRecDepth 65536 in
theorem w_room : about1.hasRoom e0.platform room_1 = true :=
  launch0.hasRoom_least _ room_1 (by decide +kernel) (by decide +kernel) (by decide +kernel) (by decide +kernel) (by decide +kernel) (by decide +kernel)
theorem allAtoms_all (ts : List Jvm.Cond) (a : Array Jvm.Value) (st : Jvm.State) : (allAtoms ts).before a st = ts.all (fun c => c.before a st) := by
  induction ts with
  | nil => rfl
  | cons c t ih =>
    show (Jvm.Cond.and c (allAtoms t)).before a st = _
    rw [Jvm.Cond.before_and, ih, List.all_cons]
def words1 : List Jvm.Cond := Jvm.Cond.code x code maxLocals ret :: tables_1
/-- a 'code' word, met by the world's own term for the bytes: nothing is compared byte by byte -/
theorem code_word {y : MethodName} {bytes : ByteArray} {mx : Nat} {rt : Option FieldType} {a : Array Value} {s : State} {m : MethodId} {meth : Method} {c : Code} (h1 : s.methodNamed? y = some m) (h2 : s.vm.method? m = some meth) (h3 : meth.code = some c) (h4 : c.code = bytes)
    (h5 : (c.maxLocals == mx && c.exceptionTable.isEmpty && decide (c.maxStack ≤ mostOperands) && decide (meth.sig.returnType = rt) && !meth.locks && decide (parseMethodDescriptor y.desc = some meth.sig)) = true) : (Jvm.Cond.code y bytes mx rt).before a s = true := by
  simp only [Bool.and_eq_true, beq_iff_eq, Bool.not_eq_true', decide_eq_true_eq] at h5
  obtain ⟨⟨⟨⟨⟨g1, g2⟩, g3⟩, g4⟩, g5⟩, g6⟩ := h5
  simp [Cond.before, Cond.holds, Cond.value, h1, h2, h3, h4, g1, g2, g3, g4, g5, g6]
def isCode : Jvm.Cond → Bool
  | .code _ _ _ _ => true
  | _ => false
theorem all_split {L : List Jvm.Cond} {P : Jvm.Cond → Bool} (h1 : L.all (fun c => isCode c || P c) = true) (h2 : ∀ c ∈ L.filter isCode, P c = true) : L.all P = true := by
  refine List.all_eq_true.mpr fun c hc => ?_
  have h := List.all_eq_true.mp h1 c hc
  rcases Bool.eq_false_or_eq_true (isCode c) with hi | hi
  · exact h2 c (List.mem_filter.mpr ⟨hc, hi⟩)
  · simpa [hi] using h
set_option maxRecDepth 65536 in
theorem w_c0 : (Jvm.Cond.code x code maxLocals ret).before args0 about1 = true := code_word (m := ⟨1, 3⟩) (meth := k1m3) (c := k1c3) (by decide +kernel) rfl rfl rfl (by decide +kernel)
set_option maxRecDepth 65536 in
theorem w_c1 : (Jvm.Cond.code ({ cls := "com/example/crossbook/crossbook/clearing/PrecisionAddPinLaw", name := "pick", desc := "(JI)J" } : Jvm.MethodName) method_2_code (3 : Nat) (Option.some Jvm.ClassFile.FieldType.long)).before args0 about1 = true := code_word (m := ⟨1, 1⟩) (meth := k1m1) (c := k1c1) (by decide +kernel) rfl rfl rfl (by decide +kernel)
set_option maxRecDepth 65536 in
theorem w_c2 : (Jvm.Cond.code ({ cls := "com/example/crossbook/crossbook/clearing/Precision", name := "add", desc := "(JJ)J" } : Jvm.MethodName) prog_88_method_5_code (6 : Nat) (Option.some Jvm.ClassFile.FieldType.long)).before args0 about1 = true := code_word (m := ⟨2, 1⟩) (meth := k2m1) (c := k2c1) (by decide +kernel) rfl rfl rfl (by decide +kernel)
set_option maxRecDepth 65536 in
theorem w_c3 : (Jvm.Cond.code ({ cls := "com/example/crossbook/crossbook/clearing/PrecisionAddPinLaw", name := "expected", desc := "(JJ)J" } : Jvm.MethodName) method_3_code (4 : Nat) (Option.some Jvm.ClassFile.FieldType.long)).before args0 about1 = true := code_word (m := ⟨1, 2⟩) (meth := k1m2) (c := k1c2) (by decide +kernel) rfl rfl rfl (by decide +kernel)
def codes1 : List Jvm.Cond := [Jvm.Cond.code x code maxLocals ret, Jvm.Cond.code ({ cls := "com/example/crossbook/crossbook/clearing/PrecisionAddPinLaw", name := "pick", desc := "(JI)J" } : Jvm.MethodName) method_2_code (3 : Nat) (Option.some Jvm.ClassFile.FieldType.long), Jvm.Cond.code ({ cls := "com/example/crossbook/crossbook/clearing/Precision", name := "add", desc := "(JJ)J" } : Jvm.MethodName) prog_88_method_5_code (6 : Nat) (Option.some Jvm.ClassFile.FieldType.long), Jvm.Cond.code ({ cls := "com/example/crossbook/crossbook/clearing/PrecisionAddPinLaw", name := "expected", desc := "(JJ)J" } : Jvm.MethodName) method_3_code (4 : Nat) (Option.some Jvm.ClassFile.FieldType.long)]
set_option maxRecDepth 65536 in
theorem codes_eq : words1.filter isCode = codes1 := rfl
theorem w_codes : ∀ c ∈ words1.filter isCode, c.before args0 about1 = true := by
  rw [codes_eq]
  intro c hc
  simp only [codes1, List.mem_cons, List.not_mem_nil, or_false] at hc
  rcases hc with rfl | rfl | rfl | rfl
  · exact w_c0
  · exact w_c1
  · exact w_c2
  · exact w_c3
set_option maxRecDepth 65536 in
theorem w_t1 : words1.all (fun c => isCode c || c.before args0 about1) = true := by decide +kernel
theorem w_tables : (allAtoms (Jvm.Cond.code x code maxLocals ret :: tables_1)).before args0 about1 = true := by
  rw [allAtoms_all]
  show words1.all (fun c => c.before args0 about1) = true
  refine all_split ?_ w_codes
  rw [w_t1]
set_option maxRecDepth 65536 in
theorem w_case : (Jvm.Cond.and given_1 narrow_1).before args0 about1 = true := by decide +kernel
theorem w_applies : (headSpec (Jvm.Cond.code x code maxLocals ret :: tables_1) room_1).applies x e0.platform about1 = true :=
  (Spec.applies_iff w_frames).mpr ⟨w_running, w_runnable, w_alone, w_named, w_hears, w_ripe, w_room, w_tables⟩
theorem atStart : AtStart classFile x code maxLocals ret World_1 tables_1 room_1 Calls_1 rest_1 Pre_1 launch0 p0 e0 about1 theMethod args0 below0 :=
  ⟨lists_1, trivial, launch0.admits_env _ _ _, launch0.least_env, fairChoices_fair.cas, fairChoices_fair.clock, w_frames, w_args, w_heap, w_applies, trivial, trivial, w_case⟩
end start1
theorem witness_1 : WitnessClaimed_1 := ⟨start1.p0, start1.e0, start1.about1, start1.theMethod, start1.args0, start1.below0, start1.atStart⟩
end Jvm.Pilot.@@N@@
