import JvmDerived
import JvmDerived.Pilot.@@N@@Statement
import JvmDerived.Pilot.@@N@@Code
set_option linter.unusedVariables false
set_option linter.unusedSimpArgs false
namespace Jvm.RoadKit
open Sem ClassFile Op Lib Jvm.Stand Jvm.Free Jvm.LawKit
section New
variable {p : Program} {l : Launch} {e : Env} {R : Room} {s : State} {m : MethodId} {args : Array Value} {below : List Frame} {meth : Method} {c : Code} {T : State} {locs : List Loc} {cells slots : Nat}
theorem retI (X : Stand p l e R s m args below meth c T locs cells slots) (hx : p.tables.exec = Jvm.exec) {pc : Nat} {Ls : Array Slot} {z : Int32} {rest : List Value} (hret : meth.sig.returnType = some .int) (hd : decode c.code pc = .ok (.ireturn, 1)) {fs : List Frame}
    (hl : ∀ (f : JFrame) (acts : List Action), f.method = m → f.locked = none → f.entered = [] → (doReturn e (T.setTop f) acts (some (.int z))).1 = T.setFrames fs) : Steps p.tables e below (T.setTop (mkF m pc Ls (.int z :: rest))) (T.setFrames fs) := by
  have hm' : T.vm.method? m = some meth := X.method'
  have hn : narrow .int (.int z) = .int z := rfl
  show Steps p.tables e below (T.setTop { method := m, pc := pc, locals := Ls, stack := _ :: rest, locked := none }) _
  jvm_step X.here [X.here.top, hx, hd, hm', hret, hn]
  first | (intro acts; rw [hl _ acts rfl rfl rfl]) | rw [hl _ _ rfl rfl rfl]
  exact Steps.refl _
theorem own_nb {t : FieldType} {c : Prop} [Decidable c] {a b : Int32} (ha : nar t a = a) (hb : nar t b = b) : nar t (if c then a else b) = (if c then a else b) := by
  by_cases h : c
  · rw [if_pos h]; exact ha
  · rw [if_neg h]; exact hb
theorem own_retN (X : Stand p l e R s m args below meth c T locs cells slots) (hx : p.tables.exec = Jvm.exec) {pc : Nat} {Ls : Array Slot} {z : Int32} {t : FieldType} {rest : List Value} (hret : meth.sig.returnType = some t) (ht : t = .boolean ∨ t = .byte ∨ t = .char ∨ t = .short) (hz : nar t z = z)
    (hd : decode c.code pc = .ok (.ireturn, 1)) {fs : List Frame} (hl : ∀ (f : JFrame) (acts : List Action), f.method = m → f.locked = none → f.entered = [] → (doReturn e (T.setTop f) acts (some (.int z))).1 = T.setFrames fs) :
    Steps p.tables e below (T.setTop (mkF m pc Ls (.int z :: rest))) (T.setFrames fs) := retN X hx hret ht hd (by rw [hz]; exact hl)
end New
end Jvm.RoadKit
namespace Jvm.Pilot.@@N@@
open Jvm Jvm.ClassFile Sem Op Lib Jvm.Free Jvm.Stand Jvm.LawKit Jvm.RoadKit Bundle Jvm.Pilot.@@N@@.Jvm.D
/-- from the state A the run comes to some end that P takes -/
def Go (tb : Tables) (e : Env) (below : List Frame) (A : State) (P : State → Outcome → Prop) : Prop := ∃ t o, Steps tb e below A t ∧ P t o
theorem Go.st {tb : Tables} {e : Env} {below : List Frame} {A B : State} {P : State → Outcome → Prop} (h : ∀ t, Steps tb e below A t → Steps tb e below B t) (k : Go tb e below A P) : Go tb e below B P := by
  obtain ⟨t, o, h1, h2⟩ := k; exact ⟨t, o, h t h1, h2⟩
theorem Go.tr {tb : Tables} {e : Env} {below : List Frame} {A B : State} {P : State → Outcome → Prop} (h : Steps tb e below B A) (k : Go tb e below A P) : Go tb e below B P := by
  obtain ⟨t, o, h1, h2⟩ := k; exact ⟨t, o, h.trans h1, h2⟩
theorem Go.start {tb : Tables} {e : Env} {below : List Frame} {A : State} {P0 : State → Outcome → Prop} (h : ∀ P : State → Outcome → Prop, (∀ t o, P0 t o → P t o) → Go tb e below A P) : ∃ t o, Steps tb e below A t ∧ P0 t o := h P0 (fun _ _ q => q)
theorem own_cat {v : Value} (h : v.isRef = true) : v.category = 1 := by rcases ref_cases h with rfl | ⟨_, rfl⟩ <;> rfl
theorem own_cst {tb : Tables} {e : Env} {below : List Frame} {T : State} {m : MethodId} {J : Nat} {Ls : Array Slot} {a b : Int32} {rest : List Value} {t : State} (h : a = b) (k : Steps tb e below (T.setTop (mkF m J Ls (.int a :: rest))) t) : Steps tb e below (T.setTop (mkF m J Ls (.int b :: rest))) t := h ▸ k
theorem own_lt {x y : Int64} (h : x < y) : lcmpW x y < 0 := (lw_lt x y).mpr h
theorem own_nlt {x y : Int64} (h : ¬ x < y) : ¬ lcmpW x y < 0 := fun q => h ((lw_lt x y).mp q)
theorem own_gt {x y : Int64} (h : y < x) : 0 < lcmpW x y := (lw_gt x y).mpr h
theorem own_ngt {x y : Int64} (h : ¬ y < x) : ¬ 0 < lcmpW x y := fun q => h ((lw_gt x y).mp q)
theorem own_eq {x y : Int64} (h : x = y) : lcmpW x y = 0 := (lw_eq x y).mpr h
theorem own_neq {x y : Int64} (h : ¬ x = y) : ¬ lcmpW x y = 0 := fun q => h ((lw_eq x y).mp q)
theorem d_prog_25_method_7_0 : decode prog_25_method_7_code 0 = .ok (.lload_n 0, 1) := by decide +kernel
theorem d_prog_25_method_7_1 : decode prog_25_method_7_code 1 = .ok (.lconst 0, 1) := by decide +kernel
theorem d_prog_25_method_7_2 : decode prog_25_method_7_code 2 = .ok (.lcmp, 1) := by decide +kernel
theorem d_prog_25_method_7_3 : decode prog_25_method_7_code 3 = .ok (.ifCond .lt 17, 3) := by decide +kernel
theorem d_prog_25_method_7_20 : decode prog_25_method_7_code 20 = .ok (.iconst 0, 1) := by decide +kernel
theorem d_prog_25_method_7_21 : decode prog_25_method_7_code 21 = .ok (.ireturn, 1) := by decide +kernel
theorem d_prog_25_method_7_6 : decode prog_25_method_7_code 6 = .ok (.lload_n 0, 1) := by decide +kernel
theorem d_prog_25_method_7_7 : decode prog_25_method_7_code 7 = .ok (.ldc2_w 37, 3) := by decide +kernel
theorem d_prog_25_method_7_10 : decode prog_25_method_7_code 10 = .ok (.lload_n 2, 1) := by decide +kernel
theorem d_prog_25_method_7_11 : decode prog_25_method_7_code 11 = .ok (.lsub, 1) := by decide +kernel
theorem d_prog_25_method_7_12 : decode prog_25_method_7_code 12 = .ok (.lcmp, 1) := by decide +kernel
theorem d_prog_25_method_7_13 : decode prog_25_method_7_code 13 = .ok (.ifCond .gt 7, 3) := by decide +kernel
theorem d_prog_25_method_7_16 : decode prog_25_method_7_code 16 = .ok (.iconst 1, 1) := by decide +kernel
theorem d_prog_25_method_7_17 : decode prog_25_method_7_code 17 = .ok (.goto 4, 3) := by decide +kernel
theorem pn_0 : plainName "com/example/hoarfrost/hoarfrost/SegmentStore" = true := by first | (simp [plainName, overriddenIn]; done) | decide +kernel
theorem ef_rmG (mi : MethodId) (a : Int64) (s : Int64) : entryFrame mi #[(.long a), (.long s)] 4 = mkF mi 0 #[.val (.long a), .second, .val (.long s), .second] [] := by first | (simp [entryFrame, mkF, argsToLocals, Value.category]; done) | rfl
def fG (a : Int64) (s : Int64) : Int32 := (if a < (0 : Int64) then (0 : Int32) else (if ((9223372036854775807 : Int64) - s) < a then (0 : Int32) else (1 : Int32)))
def Q_rmG (Z : State) (a : Int64) (s : Int64) (h0 : Heap) (n0 : Nat) (vv_ : Option Value) (hh_ : Heap) (LL_ : List Loc) : Prop := vv_ = some (.int (fG a s)) ∧ Fr n0 LL_ ∧ hh_ = h0
set_option maxRecDepth 65536 in
set_option maxHeartbeats 40000000 in
theorem rmG (l : Launch) (Z : State) (a0 : Array Value) (hw : ∀ d ∈ tables_1, d.before a0 Z = true) (ws : List Jvm.Cond) (a : Int64) (s : Int64) (h0 : Heap) (n0 : Nat) (Z0 : n0 ≤ h0.size) :
    MetFree l (⟨"com/example/hoarfrost/hoarfrost/SegmentStore", "givesStep", "(JJ)Z"⟩ : MethodName) (head1 (Jvm.Cond.code (⟨"com/example/hoarfrost/hoarfrost/SegmentStore", "givesStep", "(JJ)Z"⟩ : MethodName) prog_25_method_7_code 4 (some .boolean) :: ws) ({ frames := 0, cells := 0, slots := 0, locals := 0 } : Room)) (fun aa_ U => aa_ = #[(.long a), (.long s)] ∧ Z.Warmed39 U.vm ∧ U.heap = h0) (fun _ _ _ _ _ => True) (fun _ U oo_ UV_ => ∃ vv_ LL_, oo_ = .returned vv_ ∧ Q_rmG Z a s h0 n0 vv_ UV_.heap LL_ ∧ FrameEnd U oo_ UV_ LL_ ({ frames := 0, cells := 0, slots := 0, locals := 0 } : Room).cells ({ frames := 0, cells := 0, slots := 0, locals := 0 } : Room).slots) := by
  refine MetFree.of_bodySF (plainFor_of_name pn_0) hisR ?_
  intro pg ev si mi args below meth ci s₁ Bd hml0 hP0 hK
  obtain ⟨rfl, hZ, hh⟩ := hP0
  have hx := Bd.exec
  have hby := Bd.bytes
  have hml : ci.maxLocals = 4 := hml0
  have hown : si.vm.findClass "com/example/hoarfrost/hoarfrost/SegmentStore" = some mi.cls := findClass_of_methodNamed Bd.named
  have hnm := (name_of_methodNamed Bd.named Bd.method).1
  have X0 : Stand pg l ev ({ frames := 0, cells := 0, slots := 0, locals := 0 } : Room) si mi #[(.long a), (.long s)] below meth ci s₁ [] 0 0 := Stand.of_body Bd
  have e0 : s₁.heap = h0 := by rw [← hh, Bd.state]; rfl
  have N0 := Fr.nil n0
  refine Go.start (fun P hP => ?_)
  refine Go.st (fun t_ k_ => castTop (ef_rmG mi a s) k_) (A := s₁.setTop (mkF mi 0 #[.val (.long a), .second, .val (.long s), .second] [])) ?_
  show Go pg.tables ev below (s₁.setTop (mkF mi 0 #[.val (.long a), .second, .val (.long s), .second] [])) P
  refine Go.st (fun t_ k_ => XS.lloadN X0.here hx rfl (hb hby d_prog_25_method_7_0) rfl k_) ?_
  show Go pg.tables ev below (s₁.setTop (mkF mi 1 #[.val (.long a), .second, .val (.long s), .second] [(.long a)])) P
  refine Go.st (fun t_ k_ => XS.lconst X0.here hx rfl (hb hby d_prog_25_method_7_1) k_) ?_
  show Go pg.tables ev below (s₁.setTop (mkF mi 2 #[.val (.long a), .second, .val (.long s), .second] [(.long (0 : Int64)), (.long a)])) P
  refine Go.st (fun t_ k_ => XS.lcmp X0.here hx rfl (hb hby d_prog_25_method_7_2) rfl k_) ?_
  show Go pg.tables ev below (s₁.setTop (mkF mi 3 #[.val (.long a), .second, .val (.long s), .second] [(.int (lcmpW a (0 : Int64)))])) P
  by_cases hc3_1 : a < (0 : Int64)
  · refine Go.st (fun t_ k_ => XS.ifYes X0.here hx rfl (pc0 := 3) (pc' := 20) rfl (hb hby d_prog_25_method_7_3) rfl ((if0 _ _).trans (tlt (own_lt hc3_1)).1) (by decide) (by decide) k_) ?_
    show Go pg.tables ev below (s₁.setTop (mkF mi 20 #[.val (.long a), .second, .val (.long s), .second] [])) P
    refine Go.st (fun t_ k_ => XS.iconst X0.here hx rfl (hb hby d_prog_25_method_7_20) k_) ?_
    show Go pg.tables ev below (s₁.setTop (mkF mi 21 #[.val (.long a), .second, .val (.long s), .second] [(.int (0 : Int32))])) P
    obtain ⟨fs, hr, hrun, hended, hW, hsame⟩ := X0.leave (v := some (.int (0 : Int32))) (fun h => by rw [Bd.returns] at h; cases h) (BodyLoose.notSynchronized Bd)
    refine ⟨_, _, ?_, hP _ _ ⟨hrun, hended, _, _, rfl, ?_, ⟨_, rfl⟩, hW, hsame.mono (by decide) (by decide)⟩⟩
    · exact retN X0 hx (t := .boolean) Bd.returns (by simp) (hb hby d_prog_25_method_7_21) hr
    · show (some (.int (0 : Int32)) : Option Value) = some (.int (fG a s)) ∧ Fr n0 _ ∧ s₁.heap = h0
      rw [e0]
      exact ⟨by rw [show fG a s = (0 : Int32) from ((if_pos hc3_1).trans rfl)], N0, rfl⟩
  · refine Go.st (fun t_ k_ => XS.ifNo X0.here hx rfl (hb hby d_prog_25_method_7_3) rfl ((if0 _ _).trans (flt (own_nlt hc3_1)).1) k_) ?_
    show Go pg.tables ev below (s₁.setTop (mkF mi 6 #[.val (.long a), .second, .val (.long s), .second] [])) P
    refine Go.st (fun t_ k_ => XS.lloadN X0.here hx rfl (hb hby d_prog_25_method_7_6) rfl k_) ?_
    show Go pg.tables ev below (s₁.setTop (mkF mi 7 #[.val (.long a), .second, .val (.long s), .second] [(.long a)])) P
    refine Go.st (X0.ldc2Long hx hown (mvT hZ (hw _ (List.mem_of_getElem? (i := 5) rfl))) (g := (mkF mi 7 #[.val (.long a), .second, .val (.long s), .second] [(.long a)])) rfl (hb hby d_prog_25_method_7_7)) ?_
    show Go pg.tables ev below (s₁.setTop (mkF mi 10 #[.val (.long a), .second, .val (.long s), .second] [(.long (9223372036854775807 : Int64)), (.long a)])) P
    refine Go.st (fun t_ k_ => XS.lloadN X0.here hx rfl (hb hby d_prog_25_method_7_10) rfl k_) ?_
    show Go pg.tables ev below (s₁.setTop (mkF mi 11 #[.val (.long a), .second, .val (.long s), .second] [(.long s), (.long (9223372036854775807 : Int64)), (.long a)])) P
    refine Go.st (fun t_ k_ => XS.lsub X0.here hx rfl (hb hby d_prog_25_method_7_11) rfl k_) ?_
    show Go pg.tables ev below (s₁.setTop (mkF mi 12 #[.val (.long a), .second, .val (.long s), .second] [(.long ((9223372036854775807 : Int64) - s)), (.long a)])) P
    refine Go.st (fun t_ k_ => XS.lcmp X0.here hx rfl (hb hby d_prog_25_method_7_12) rfl k_) ?_
    show Go pg.tables ev below (s₁.setTop (mkF mi 13 #[.val (.long a), .second, .val (.long s), .second] [(.int (lcmpW a ((9223372036854775807 : Int64) - s)))])) P
    have dm1 : ∀ t_, Steps pg.tables ev below (s₁.setTop (mkF mi 21 #[.val (.long a), .second, .val (.long s), .second] [(.int (if ((9223372036854775807 : Int64) - s) < a then (0 : Int32) else (1 : Int32)))])) t_ → Steps pg.tables ev below (s₁.setTop (mkF mi 13 #[.val (.long a), .second, .val (.long s), .second] [(.int (lcmpW a ((9223372036854775807 : Int64) - s)))])) t_ := by
      intro t_ k_
      by_cases hd : ((9223372036854775807 : Int64) - s) < a
      · refine XS.ifYes X0.here hx rfl (pc0 := 13) (pc' := 20) rfl (hb hby d_prog_25_method_7_13) rfl ((if0 _ _).trans (tlt (own_gt hd)).2.2.1) (by decide) (by decide) ?_
        show Steps pg.tables ev below (s₁.setTop (mkF mi 20 #[.val (.long a), .second, .val (.long s), .second] [])) t_
        refine XS.iconst X0.here hx rfl (hb hby d_prog_25_method_7_20) ?_
        show Steps pg.tables ev below (s₁.setTop (mkF mi 21 #[.val (.long a), .second, .val (.long s), .second] [(.int (0 : Int32))])) t_
        exact own_cst (if_pos hd) k_
      · refine XS.ifNo X0.here hx rfl (hb hby d_prog_25_method_7_13) rfl ((if0 _ _).trans (flt (own_ngt hd)).2.2.1) ?_
        show Steps pg.tables ev below (s₁.setTop (mkF mi 16 #[.val (.long a), .second, .val (.long s), .second] [])) t_
        refine XS.iconst X0.here hx rfl (hb hby d_prog_25_method_7_16) ?_
        show Steps pg.tables ev below (s₁.setTop (mkF mi 17 #[.val (.long a), .second, .val (.long s), .second] [(.int (1 : Int32))])) t_
        refine XS.goto X0.here hx rfl (pc0 := 17) (pc' := 21) rfl (hb hby d_prog_25_method_7_17) (by decide) (by decide) ?_
        show Steps pg.tables ev below (s₁.setTop (mkF mi 21 #[.val (.long a), .second, .val (.long s), .second] [(.int (1 : Int32))])) t_
        exact own_cst (if_neg hd) k_
    refine Go.st dm1 ?_
    show Go pg.tables ev below (s₁.setTop (mkF mi 21 #[.val (.long a), .second, .val (.long s), .second] [(.int (if ((9223372036854775807 : Int64) - s) < a then (0 : Int32) else (1 : Int32)))])) P
    obtain ⟨fs, hr, hrun, hended, hW, hsame⟩ := X0.leave (v := some (.int (if ((9223372036854775807 : Int64) - s) < a then (0 : Int32) else (1 : Int32)))) (fun h => by rw [Bd.returns] at h; cases h) (BodyLoose.notSynchronized Bd)
    refine ⟨_, _, ?_, hP _ _ ⟨hrun, hended, _, _, rfl, ?_, ⟨_, rfl⟩, hW, hsame.mono (by decide) (by decide)⟩⟩
    · exact own_retN X0 hx (t := .boolean) Bd.returns (by simp) (own_nb rfl rfl) (hb hby d_prog_25_method_7_21) hr
    · show (some (.int (if ((9223372036854775807 : Int64) - s) < a then (0 : Int32) else (1 : Int32))) : Option Value) = some (.int (fG a s)) ∧ Fr n0 _ ∧ s₁.heap = h0
      rw [e0]
      exact ⟨by rw [show fG a s = (if ((9223372036854775807 : Int64) - s) < a then (0 : Int32) else (1 : Int32)) from ((if_neg hc3_1).trans rfl)], N0, rfl⟩
theorem own_law (a s : Int64) (hs : 1 ≤ s.toInt) : fG a s = (if a < (0 : Int64) then (0 : Int32) else (if (a + s) < (1 : Int64) then (0 : Int32) else (1 : Int32))) := by
  have e1 := c_ladd a s
  have e2 := c_lsub 9223372036854775807 s
  have l1 : (0 : Int64).toInt = 0 := rfl
  have l2 : (1 : Int64).toInt = 1 := rfl
  have l3 : (9223372036854775807 : Int64).toInt = 9223372036854775807 := rfl
  have b1 := Int64.le_toInt a
  have b2 := Int64.toInt_lt a
  have b3 := Int64.le_toInt s
  have b4 := Int64.toInt_lt s
  have b5 := Int64.le_toInt (a + s)
  have b6 := Int64.toInt_lt (a + s)
  have b7 := Int64.le_toInt (9223372036854775807 - s)
  have b8 := Int64.toInt_lt (9223372036854775807 - s)
  unfold fG
  generalize a + s = u at *
  generalize 9223372036854775807 - s = v at *
  repeat' split
  all_goals first | rfl | (exfalso; simp only [Int64.lt_iff_toInt_lt, ← Int64.toInt_inj] at *; omega)
theorem own_step (s : Int64) (h : ¬ (s &&& (9223372036854775807 : Int64)) = (0 : Int64)) : 1 ≤ (s &&& (9223372036854775807 : Int64)).toInt := by
  have e1 := c_maskL s 9223372036854775807 63 (by decide) (by decide)
  have l1 : (0 : Int64).toInt = 0 := rfl
  simp only [← Int64.toInt_inj] at h
  omega
theorem pd_0 : parseMethodDescriptor "(JJ)Z" = some ⟨[.long, .long], some .boolean⟩ := by decide +kernel
theorem pn_1 : plainName "com/example/hoarfrost/hoarfrost/SegmentStoreGivesStepPinLaw" = true := by first | (simp [plainName, overriddenIn]; done) | decide +kernel
theorem ef_rm0 (mi : MethodId) (md : Int32) (a : Int64) (s : Int64) (d : Int32) : entryFrame mi #[(.int md), (.long a), (.long s), (.int d)] maxLocals = mkF mi 0 #[.val (.int md), .val (.long a), .second, .val (.long s), .second, .val (.int d), .unset, .unset, .unset, .unset, .unset] [] := by first | (simp [entryFrame, mkF, argsToLocals, Value.category, maxLocals]; done) | rfl
def Q_rm0 (Z : State) (md : Int32) (a : Int64) (s : Int64) (d : Int32) (h0 : Heap) (n0 : Nat) (vv_ : Option Value) (hh_ : Heap) (LL_ : List Loc) : Prop := vv_ = some (.int 1) ∧ Fr n0 LL_
set_option maxRecDepth 65536 in
set_option maxHeartbeats 40000000 in
theorem rm0 (l : Launch) (Z : State) (a0 : Array Value) (hw : ∀ d ∈ tables_1, d.before a0 Z = true) (ws : List Jvm.Cond) (md : Int32) (a : Int64) (s : Int64) (d : Int32) (h0 : Heap) (n0 : Nat) (Z0 : n0 ≤ h0.size) :
    MetFree l x (head1 (Jvm.Cond.code x code maxLocals ret :: ws) room_1) (fun aa_ U => aa_ = #[(.int md), (.long a), (.long s), (.int d)] ∧ Z.Warmed39 U.vm ∧ U.heap = h0) (fun _ _ _ _ _ => True) (fun _ U oo_ UV_ => ∃ vv_ LL_, oo_ = .returned vv_ ∧ Q_rm0 Z md a s d h0 n0 vv_ UV_.heap LL_ ∧ FrameEnd U oo_ UV_ LL_ room_1.cells room_1.slots) := by
  refine MetFree.of_bodySF (plainFor_of_name pn_1) hisR ?_
  intro pg ev si mi args below meth ci s₁ Bd hml0 hP0 hK
  obtain ⟨rfl, hZ, hh⟩ := hP0
  have hx := Bd.exec
  have hby := Bd.bytes
  have hml : ci.maxLocals = 11 := hml0
  have hown : si.vm.findClass "com/example/hoarfrost/hoarfrost/SegmentStoreGivesStepPinLaw" = some mi.cls := findClass_of_methodNamed Bd.named
  have hnm := (name_of_methodNamed Bd.named Bd.method).1
  have X0 : Stand pg l ev room_1 si mi #[(.int md), (.long a), (.long s), (.int d)] below meth ci s₁ [] 0 0 := Stand.of_body Bd
  have e0 : s₁.heap = h0 := by rw [← hh, Bd.state]; rfl
  have N0 := Fr.nil n0
  refine Go.start (fun P hP => ?_)
  refine Go.st (fun t_ k_ => castTop (ef_rm0 mi md a s d) k_) (A := s₁.setTop (mkF mi 0 #[.val (.int md), .val (.long a), .second, .val (.long s), .second, .val (.int d), .unset, .unset, .unset, .unset, .unset] [])) ?_
  show Go pg.tables ev below (s₁.setTop (mkF mi 0 #[.val (.int md), .val (.long a), .second, .val (.long s), .second, .val (.int d), .unset, .unset, .unset, .unset, .unset] [])) P
  refine Go.st (fun t_ k_ => XS.lloadN X0.here hx rfl (hb hby at_0) rfl k_) ?_
  show Go pg.tables ev below (s₁.setTop (mkF mi 1 #[.val (.int md), .val (.long a), .second, .val (.long s), .second, .val (.int d), .unset, .unset, .unset, .unset, .unset] [(.long s)])) P
  refine Go.st (X0.ldc2Long hx hown (mvT hZ (hw _ (List.mem_of_getElem? (i := 0) rfl))) (g := (mkF mi 1 #[.val (.int md), .val (.long a), .second, .val (.long s), .second, .val (.int d), .unset, .unset, .unset, .unset, .unset] [(.long s)])) rfl (hb hby at_1)) ?_
  show Go pg.tables ev below (s₁.setTop (mkF mi 4 #[.val (.int md), .val (.long a), .second, .val (.long s), .second, .val (.int d), .unset, .unset, .unset, .unset, .unset] [(.long (9223372036854775807 : Int64)), (.long s)])) P
  refine Go.st (fun t_ k_ => XS.land X0.here hx rfl (hb hby at_4) rfl k_) ?_
  show Go pg.tables ev below (s₁.setTop (mkF mi 5 #[.val (.int md), .val (.long a), .second, .val (.long s), .second, .val (.int d), .unset, .unset, .unset, .unset, .unset] [(.long (s &&& (9223372036854775807 : Int64)))])) P
  refine Go.st (fun t_ k_ => XS.lstore X0.here hx rfl (hb hby at_5) rfl (l' := #[.val (.int md), .val (.long a), .second, .val (.long s), .second, .val (.int d), .val (.long (s &&& (9223372036854775807 : Int64))), .second, .unset, .unset, .unset]) rfl k_) ?_
  show Go pg.tables ev below (s₁.setTop (mkF mi 7 #[.val (.int md), .val (.long a), .second, .val (.long s), .second, .val (.int d), .val (.long (s &&& (9223372036854775807 : Int64))), .second, .unset, .unset, .unset] [])) P
  refine Go.st (fun t_ k_ => XS.lload X0.here hx rfl (hb hby at_7) rfl k_) ?_
  show Go pg.tables ev below (s₁.setTop (mkF mi 9 #[.val (.int md), .val (.long a), .second, .val (.long s), .second, .val (.int d), .val (.long (s &&& (9223372036854775807 : Int64))), .second, .unset, .unset, .unset] [(.long (s &&& (9223372036854775807 : Int64)))])) P
  refine Go.st (fun t_ k_ => XS.lconst X0.here hx rfl (hb hby at_9) k_) ?_
  show Go pg.tables ev below (s₁.setTop (mkF mi 10 #[.val (.int md), .val (.long a), .second, .val (.long s), .second, .val (.int d), .val (.long (s &&& (9223372036854775807 : Int64))), .second, .unset, .unset, .unset] [(.long (0 : Int64)), (.long (s &&& (9223372036854775807 : Int64)))])) P
  refine Go.st (fun t_ k_ => XS.lcmp X0.here hx rfl (hb hby at_10) rfl k_) ?_
  show Go pg.tables ev below (s₁.setTop (mkF mi 11 #[.val (.int md), .val (.long a), .second, .val (.long s), .second, .val (.int d), .val (.long (s &&& (9223372036854775807 : Int64))), .second, .unset, .unset, .unset] [(.int (lcmpW (s &&& (9223372036854775807 : Int64)) (0 : Int64)))])) P
  by_cases hc11_1 : (s &&& (9223372036854775807 : Int64)) = (0 : Int64)
  · refine Go.st (fun t_ k_ => XS.ifNo X0.here hx rfl (hb hby at_11) rfl ((if0 _ _).trans (teq (own_eq hc11_1)).2) k_) ?_
    show Go pg.tables ev below (s₁.setTop (mkF mi 14 #[.val (.int md), .val (.long a), .second, .val (.long s), .second, .val (.int d), .val (.long (s &&& (9223372036854775807 : Int64))), .second, .unset, .unset, .unset] [])) P
    refine Go.st (fun t_ k_ => XS.lconst X0.here hx rfl (hb hby at_14) k_) ?_
    show Go pg.tables ev below (s₁.setTop (mkF mi 15 #[.val (.int md), .val (.long a), .second, .val (.long s), .second, .val (.int d), .val (.long (s &&& (9223372036854775807 : Int64))), .second, .unset, .unset, .unset] [(.long (1 : Int64))])) P
    refine Go.st (fun t_ k_ => XS.lstore X0.here hx rfl (hb hby at_15) rfl (l' := #[.val (.int md), .val (.long a), .second, .val (.long s), .second, .val (.int d), .val (.long (1 : Int64)), .second, .unset, .unset, .unset]) rfl k_) ?_
    show Go pg.tables ev below (s₁.setTop (mkF mi 17 #[.val (.int md), .val (.long a), .second, .val (.long s), .second, .val (.int d), .val (.long (1 : Int64)), .second, .unset, .unset, .unset] [])) P
    refine Go.st (fun t_ k_ => XS.lloadN X0.here hx rfl (hb hby at_17) rfl k_) ?_
    show Go pg.tables ev below (s₁.setTop (mkF mi 18 #[.val (.int md), .val (.long a), .second, .val (.long s), .second, .val (.int d), .val (.long (1 : Int64)), .second, .unset, .unset, .unset] [(.long a)])) P
    refine Go.st (fun t_ k_ => XS.lstore X0.here hx rfl (hb hby at_18) rfl (l' := #[.val (.int md), .val (.long a), .second, .val (.long s), .second, .val (.int d), .val (.long (1 : Int64)), .second, .val (.long a), .second, .unset]) rfl k_) ?_
    show Go pg.tables ev below (s₁.setTop (mkF mi 20 #[.val (.int md), .val (.long a), .second, .val (.long s), .second, .val (.int d), .val (.long (1 : Int64)), .second, .val (.long a), .second, .unset] [])) P
    refine Go.st (fun t_ k_ => XS.iloadN X0.here hx rfl (hb hby at_20) rfl k_) ?_
    show Go pg.tables ev below (s₁.setTop (mkF mi 21 #[.val (.int md), .val (.long a), .second, .val (.long s), .second, .val (.int d), .val (.long (1 : Int64)), .second, .val (.long a), .second, .unset] [(.int md)])) P
    refine Go.st (fun t_ k_ => XS.iconst X0.here hx rfl (hb hby at_21) k_) ?_
    show Go pg.tables ev below (s₁.setTop (mkF mi 22 #[.val (.int md), .val (.long a), .second, .val (.long s), .second, .val (.int d), .val (.long (1 : Int64)), .second, .val (.long a), .second, .unset] [(.int (1 : Int32)), (.int md)])) P
    refine Go.st (fun t_ k_ => XS.iand X0.here hx rfl (hb hby at_22) rfl k_) ?_
    show Go pg.tables ev below (s₁.setTop (mkF mi 23 #[.val (.int md), .val (.long a), .second, .val (.long s), .second, .val (.int d), .val (.long (1 : Int64)), .second, .val (.long a), .second, .unset] [(.int (md &&& (1 : Int32)))])) P
    by_cases hc23_2 : (md &&& (1 : Int32)) = (0 : Int32)
    · refine Go.st (fun t_ k_ => XS.ifYes X0.here hx rfl (pc0 := 23) (pc' := 42) rfl (hb hby at_23) rfl ((if0 _ _).trans (teq hc23_2).1) (by decide) (by decide) k_) ?_
      show Go pg.tables ev below (s₁.setTop (mkF mi 42 #[.val (.int md), .val (.long a), .second, .val (.long s), .second, .val (.int d), .val (.long (1 : Int64)), .second, .val (.long a), .second, .unset] [])) P
      refine Go.st (fun t_ k_ => XS.lload X0.here hx rfl (hb hby at_42) rfl k_) ?_
      show Go pg.tables ev below (s₁.setTop (mkF mi 44 #[.val (.int md), .val (.long a), .second, .val (.long s), .second, .val (.int d), .val (.long (1 : Int64)), .second, .val (.long a), .second, .unset] [(.long a)])) P
      refine Go.st (fun t_ k_ => XS.lconst X0.here hx rfl (hb hby at_44) k_) ?_
      show Go pg.tables ev below (s₁.setTop (mkF mi 45 #[.val (.int md), .val (.long a), .second, .val (.long s), .second, .val (.int d), .val (.long (1 : Int64)), .second, .val (.long a), .second, .unset] [(.long (0 : Int64)), (.long a)])) P
      refine Go.st (fun t_ k_ => XS.lcmp X0.here hx rfl (hb hby at_45) rfl k_) ?_
      show Go pg.tables ev below (s₁.setTop (mkF mi 46 #[.val (.int md), .val (.long a), .second, .val (.long s), .second, .val (.int d), .val (.long (1 : Int64)), .second, .val (.long a), .second, .unset] [(.int (lcmpW a (0 : Int64)))])) P
      by_cases hc46_3 : a < (0 : Int64)
      · refine Go.st (fun t_ k_ => XS.ifYes X0.here hx rfl (pc0 := 46) (pc' := 63) rfl (hb hby at_46) rfl ((if0 _ _).trans (tlt (own_lt hc46_3)).1) (by decide) (by decide) k_) ?_
        show Go pg.tables ev below (s₁.setTop (mkF mi 63 #[.val (.int md), .val (.long a), .second, .val (.long s), .second, .val (.int d), .val (.long (1 : Int64)), .second, .val (.long a), .second, .unset] [])) P
        refine Go.st (fun t_ k_ => XS.iconst X0.here hx rfl (hb hby at_63) k_) ?_
        show Go pg.tables ev below (s₁.setTop (mkF mi 64 #[.val (.int md), .val (.long a), .second, .val (.long s), .second, .val (.int d), .val (.long (1 : Int64)), .second, .val (.long a), .second, .unset] [(.int (0 : Int32))])) P
        refine Go.st (fun t_ k_ => XS.istore X0.here hx rfl (hb hby at_64) rfl (l' := #[.val (.int md), .val (.long a), .second, .val (.long s), .second, .val (.int d), .val (.long (1 : Int64)), .second, .val (.long a), .second, .val (.int (0 : Int32))]) rfl k_) ?_
        show Go pg.tables ev below (s₁.setTop (mkF mi 66 #[.val (.int md), .val (.long a), .second, .val (.long s), .second, .val (.int d), .val (.long (1 : Int64)), .second, .val (.long a), .second, .val (.int (0 : Int32))] [])) P
        refine Go.st (fun t_ k_ => XS.lload X0.here hx rfl (hb hby at_66) rfl k_) ?_
        show Go pg.tables ev below (s₁.setTop (mkF mi 68 #[.val (.int md), .val (.long a), .second, .val (.long s), .second, .val (.int d), .val (.long (1 : Int64)), .second, .val (.long a), .second, .val (.int (0 : Int32))] [(.long a)])) P
        refine Go.st (fun t_ k_ => XS.lload X0.here hx rfl (hb hby at_68) rfl k_) ?_
        show Go pg.tables ev below (s₁.setTop (mkF mi 70 #[.val (.int md), .val (.long a), .second, .val (.long s), .second, .val (.int d), .val (.long (1 : Int64)), .second, .val (.long a), .second, .val (.int (0 : Int32))] [(.long (1 : Int64)), (.long a)])) P
        obtain ⟨_, _, ⟨T1, L1, k1, n1⟩, -, X1, ⟨Lc1, hQ1, l1, y1, z1⟩, st1⟩ := Jvm.LawKit.callS X0 hx (y := (⟨"com/example/hoarfrost/hoarfrost/SegmentStore", "givesStep", "(JJ)Z"⟩ : MethodName)) hown (mvT hZ (hw _ (List.mem_of_getElem? (i := 1) rfl))) (mvT hZ (hw _ (List.mem_of_getElem? (i := 2) rfl))) (mvT hZ (hw _ (List.mem_of_getElem? (i := 3) rfl))) (mvT hZ (hw _ (List.mem_of_getElem? (i := 4) rfl))) (by decide) (backOf (W := 0) (rmG l Z a0 hw [] a (1 : Int64) h0 n0 Z0) hZ (hw _ (List.mem_of_getElem? (i := 4) rfl)) (hw _ (List.mem_of_getElem? (i := 3) rfl)) (by decide) (by decide)) (g := (mkF mi 70 #[.val (.int md), .val (.long a), .second, .val (.long s), .second, .val (.int d), .val (.long (1 : Int64)), .second, .val (.long a), .second, .val (.int (0 : Int32))] [(.long (1 : Int64)), (.long a)])) rfl (by rw [hml]; rfl) (argsL := [(.long a), (.long (1 : Int64))]) (rest := []) (lenOf pd_0 rfl) rfl (by show 2 * 0 + _ ≤ _; exact Nat.le_of_eq rfl) (hb hby at_70) (fun _ _ => ⟨rfl, e0, (by decide : 0 + 0 ≤ _), (by decide : 0 + 0 ≤ _)⟩)
        dsimp only [Pt.U, Pt.locs, Pt.cells, Pt.slots] at X1 l1 y1 z1 st1 hQ1
        subst l1 y1 z1
        obtain ⟨rfl, N1q, e1⟩ := hQ1
        have N1 := Fr.app N0 N1q
        refine Go.st st1 ?_
        show Go pg.tables ev below (T1.setTop (mkF mi 73 #[.val (.int md), .val (.long a), .second, .val (.long s), .second, .val (.int d), .val (.long (1 : Int64)), .second, .val (.long a), .second, .val (.int (0 : Int32))] [(.int (fG a (1 : Int64)))])) P
        refine Go.st (fun t_ k_ => XS.iload X1.here hx rfl (hb hby at_73) rfl k_) ?_
        show Go pg.tables ev below (T1.setTop (mkF mi 75 #[.val (.int md), .val (.long a), .second, .val (.long s), .second, .val (.int d), .val (.long (1 : Int64)), .second, .val (.long a), .second, .val (.int (0 : Int32))] [(.int (0 : Int32)), (.int (fG a (1 : Int64)))])) P
        have dm2 : ∀ t_, Steps pg.tables ev below (T1.setTop (mkF mi 83 #[.val (.int md), .val (.long a), .second, .val (.long s), .second, .val (.int d), .val (.long (1 : Int64)), .second, .val (.long a), .second, .val (.int (0 : Int32))] [(.int (if (fG a (1 : Int64)) = (0 : Int32) then (1 : Int32) else (0 : Int32)))])) t_ → Steps pg.tables ev below (T1.setTop (mkF mi 75 #[.val (.int md), .val (.long a), .second, .val (.long s), .second, .val (.int d), .val (.long (1 : Int64)), .second, .val (.long a), .second, .val (.int (0 : Int32))] [(.int (0 : Int32)), (.int (fG a (1 : Int64)))])) t_ := by
          intro t_ k_
          by_cases hd : (fG a (1 : Int64)) = (0 : Int32)
          · refine XS.icmpNo X1.here hx rfl (hb hby at_75) rfl (teq hd).2 ?_
            show Steps pg.tables ev below (T1.setTop (mkF mi 78 #[.val (.int md), .val (.long a), .second, .val (.long s), .second, .val (.int d), .val (.long (1 : Int64)), .second, .val (.long a), .second, .val (.int (0 : Int32))] [])) t_
            refine XS.iconst X1.here hx rfl (hb hby at_78) ?_
            show Steps pg.tables ev below (T1.setTop (mkF mi 79 #[.val (.int md), .val (.long a), .second, .val (.long s), .second, .val (.int d), .val (.long (1 : Int64)), .second, .val (.long a), .second, .val (.int (0 : Int32))] [(.int (1 : Int32))])) t_
            refine XS.goto X1.here hx rfl (pc0 := 79) (pc' := 83) rfl (hb hby at_79) (by decide) (by decide) ?_
            show Steps pg.tables ev below (T1.setTop (mkF mi 83 #[.val (.int md), .val (.long a), .second, .val (.long s), .second, .val (.int d), .val (.long (1 : Int64)), .second, .val (.long a), .second, .val (.int (0 : Int32))] [(.int (1 : Int32))])) t_
            exact own_cst (if_pos hd) k_
          · refine XS.icmpYes X1.here hx rfl (pc0 := 75) (pc' := 82) rfl (hb hby at_75) rfl (feq hd).2 (by decide) (by decide) ?_
            show Steps pg.tables ev below (T1.setTop (mkF mi 82 #[.val (.int md), .val (.long a), .second, .val (.long s), .second, .val (.int d), .val (.long (1 : Int64)), .second, .val (.long a), .second, .val (.int (0 : Int32))] [])) t_
            refine XS.iconst X1.here hx rfl (hb hby at_82) ?_
            show Steps pg.tables ev below (T1.setTop (mkF mi 83 #[.val (.int md), .val (.long a), .second, .val (.long s), .second, .val (.int d), .val (.long (1 : Int64)), .second, .val (.long a), .second, .val (.int (0 : Int32))] [(.int (0 : Int32))])) t_
            exact own_cst (if_neg hd) k_
        refine Go.st dm2 ?_
        show Go pg.tables ev below (T1.setTop (mkF mi 83 #[.val (.int md), .val (.long a), .second, .val (.long s), .second, .val (.int d), .val (.long (1 : Int64)), .second, .val (.long a), .second, .val (.int (0 : Int32))] [(.int (if (fG a (1 : Int64)) = (0 : Int32) then (1 : Int32) else (0 : Int32)))])) P
        obtain ⟨fs, hr, hrun, hended, hW, hsame⟩ := X1.leave (v := some (.int (if (fG a (1 : Int64)) = (0 : Int32) then (1 : Int32) else (0 : Int32)))) (fun h => by rw [Bd.returns] at h; cases h) (BodyLoose.notSynchronized Bd)
        refine ⟨_, _, ?_, hP _ _ ⟨hrun, hended, _, _, rfl, ?_, ⟨_, rfl⟩, hW, hsame.mono (by decide) (by decide)⟩⟩
        · exact own_retN X1 hx (t := .boolean) Bd.returns (by simp) (own_nb rfl rfl) (hb hby at_83) hr
        · show (some (.int (if (fG a (1 : Int64)) = (0 : Int32) then (1 : Int32) else (0 : Int32))) : Option Value) = some (.int 1) ∧ Fr n0 _
          exact ⟨congrArg (fun z => some (Value.int z)) (show (if (fG a (1 : Int64)) = (0 : Int32) then (1 : Int32) else (0 : Int32)) = 1 from if_pos (by rw [own_law _ _ (by decide), if_pos hc46_3])), N1⟩
      · refine Go.st (fun t_ k_ => XS.ifNo X0.here hx rfl (hb hby at_46) rfl ((if0 _ _).trans (flt (own_nlt hc46_3)).1) k_) ?_
        show Go pg.tables ev below (s₁.setTop (mkF mi 49 #[.val (.int md), .val (.long a), .second, .val (.long s), .second, .val (.int d), .val (.long (1 : Int64)), .second, .val (.long a), .second, .unset] [])) P
        refine Go.st (fun t_ k_ => XS.lload X0.here hx rfl (hb hby at_49) rfl k_) ?_
        show Go pg.tables ev below (s₁.setTop (mkF mi 51 #[.val (.int md), .val (.long a), .second, .val (.long s), .second, .val (.int d), .val (.long (1 : Int64)), .second, .val (.long a), .second, .unset] [(.long a)])) P
        refine Go.st (fun t_ k_ => XS.lload X0.here hx rfl (hb hby at_51) rfl k_) ?_
        show Go pg.tables ev below (s₁.setTop (mkF mi 53 #[.val (.int md), .val (.long a), .second, .val (.long s), .second, .val (.int d), .val (.long (1 : Int64)), .second, .val (.long a), .second, .unset] [(.long (1 : Int64)), (.long a)])) P
        refine Go.st (fun t_ k_ => XS.ladd X0.here hx rfl (hb hby at_53) rfl k_) ?_
        show Go pg.tables ev below (s₁.setTop (mkF mi 54 #[.val (.int md), .val (.long a), .second, .val (.long s), .second, .val (.int d), .val (.long (1 : Int64)), .second, .val (.long a), .second, .unset] [(.long (a + (1 : Int64)))])) P
        refine Go.st (fun t_ k_ => XS.lconst X0.here hx rfl (hb hby at_54) k_) ?_
        show Go pg.tables ev below (s₁.setTop (mkF mi 55 #[.val (.int md), .val (.long a), .second, .val (.long s), .second, .val (.int d), .val (.long (1 : Int64)), .second, .val (.long a), .second, .unset] [(.long (1 : Int64)), (.long (a + (1 : Int64)))])) P
        refine Go.st (fun t_ k_ => XS.lcmp X0.here hx rfl (hb hby at_55) rfl k_) ?_
        show Go pg.tables ev below (s₁.setTop (mkF mi 56 #[.val (.int md), .val (.long a), .second, .val (.long s), .second, .val (.int d), .val (.long (1 : Int64)), .second, .val (.long a), .second, .unset] [(.int (lcmpW (a + (1 : Int64)) (1 : Int64)))])) P
        have dm3 : ∀ t_, Steps pg.tables ev below (s₁.setTop (mkF mi 64 #[.val (.int md), .val (.long a), .second, .val (.long s), .second, .val (.int d), .val (.long (1 : Int64)), .second, .val (.long a), .second, .unset] [(.int (if (a + (1 : Int64)) < (1 : Int64) then (0 : Int32) else (1 : Int32)))])) t_ → Steps pg.tables ev below (s₁.setTop (mkF mi 56 #[.val (.int md), .val (.long a), .second, .val (.long s), .second, .val (.int d), .val (.long (1 : Int64)), .second, .val (.long a), .second, .unset] [(.int (lcmpW (a + (1 : Int64)) (1 : Int64)))])) t_ := by
          intro t_ k_
          by_cases hd : (a + (1 : Int64)) < (1 : Int64)
          · refine XS.ifYes X0.here hx rfl (pc0 := 56) (pc' := 63) rfl (hb hby at_56) rfl ((if0 _ _).trans (tlt (own_lt hd)).1) (by decide) (by decide) ?_
            show Steps pg.tables ev below (s₁.setTop (mkF mi 63 #[.val (.int md), .val (.long a), .second, .val (.long s), .second, .val (.int d), .val (.long (1 : Int64)), .second, .val (.long a), .second, .unset] [])) t_
            refine XS.iconst X0.here hx rfl (hb hby at_63) ?_
            show Steps pg.tables ev below (s₁.setTop (mkF mi 64 #[.val (.int md), .val (.long a), .second, .val (.long s), .second, .val (.int d), .val (.long (1 : Int64)), .second, .val (.long a), .second, .unset] [(.int (0 : Int32))])) t_
            exact own_cst (if_pos hd) k_
          · refine XS.ifNo X0.here hx rfl (hb hby at_56) rfl ((if0 _ _).trans (flt (own_nlt hd)).1) ?_
            show Steps pg.tables ev below (s₁.setTop (mkF mi 59 #[.val (.int md), .val (.long a), .second, .val (.long s), .second, .val (.int d), .val (.long (1 : Int64)), .second, .val (.long a), .second, .unset] [])) t_
            refine XS.iconst X0.here hx rfl (hb hby at_59) ?_
            show Steps pg.tables ev below (s₁.setTop (mkF mi 60 #[.val (.int md), .val (.long a), .second, .val (.long s), .second, .val (.int d), .val (.long (1 : Int64)), .second, .val (.long a), .second, .unset] [(.int (1 : Int32))])) t_
            refine XS.goto X0.here hx rfl (pc0 := 60) (pc' := 64) rfl (hb hby at_60) (by decide) (by decide) ?_
            show Steps pg.tables ev below (s₁.setTop (mkF mi 64 #[.val (.int md), .val (.long a), .second, .val (.long s), .second, .val (.int d), .val (.long (1 : Int64)), .second, .val (.long a), .second, .unset] [(.int (1 : Int32))])) t_
            exact own_cst (if_neg hd) k_
        refine Go.st dm3 ?_
        show Go pg.tables ev below (s₁.setTop (mkF mi 64 #[.val (.int md), .val (.long a), .second, .val (.long s), .second, .val (.int d), .val (.long (1 : Int64)), .second, .val (.long a), .second, .unset] [(.int (if (a + (1 : Int64)) < (1 : Int64) then (0 : Int32) else (1 : Int32)))])) P
        refine Go.st (fun t_ k_ => XS.istore X0.here hx rfl (hb hby at_64) rfl (l' := #[.val (.int md), .val (.long a), .second, .val (.long s), .second, .val (.int d), .val (.long (1 : Int64)), .second, .val (.long a), .second, .val (.int (if (a + (1 : Int64)) < (1 : Int64) then (0 : Int32) else (1 : Int32)))]) rfl k_) ?_
        show Go pg.tables ev below (s₁.setTop (mkF mi 66 #[.val (.int md), .val (.long a), .second, .val (.long s), .second, .val (.int d), .val (.long (1 : Int64)), .second, .val (.long a), .second, .val (.int (if (a + (1 : Int64)) < (1 : Int64) then (0 : Int32) else (1 : Int32)))] [])) P
        refine Go.st (fun t_ k_ => XS.lload X0.here hx rfl (hb hby at_66) rfl k_) ?_
        show Go pg.tables ev below (s₁.setTop (mkF mi 68 #[.val (.int md), .val (.long a), .second, .val (.long s), .second, .val (.int d), .val (.long (1 : Int64)), .second, .val (.long a), .second, .val (.int (if (a + (1 : Int64)) < (1 : Int64) then (0 : Int32) else (1 : Int32)))] [(.long a)])) P
        refine Go.st (fun t_ k_ => XS.lload X0.here hx rfl (hb hby at_68) rfl k_) ?_
        show Go pg.tables ev below (s₁.setTop (mkF mi 70 #[.val (.int md), .val (.long a), .second, .val (.long s), .second, .val (.int d), .val (.long (1 : Int64)), .second, .val (.long a), .second, .val (.int (if (a + (1 : Int64)) < (1 : Int64) then (0 : Int32) else (1 : Int32)))] [(.long (1 : Int64)), (.long a)])) P
        obtain ⟨_, _, ⟨T4, L4, k4, n4⟩, -, X4, ⟨Lc4, hQ4, l4, y4, z4⟩, st4⟩ := Jvm.LawKit.callS X0 hx (y := (⟨"com/example/hoarfrost/hoarfrost/SegmentStore", "givesStep", "(JJ)Z"⟩ : MethodName)) hown (mvT hZ (hw _ (List.mem_of_getElem? (i := 1) rfl))) (mvT hZ (hw _ (List.mem_of_getElem? (i := 2) rfl))) (mvT hZ (hw _ (List.mem_of_getElem? (i := 3) rfl))) (mvT hZ (hw _ (List.mem_of_getElem? (i := 4) rfl))) (by decide) (backOf (W := 0) (rmG l Z a0 hw [] a (1 : Int64) h0 n0 Z0) hZ (hw _ (List.mem_of_getElem? (i := 4) rfl)) (hw _ (List.mem_of_getElem? (i := 3) rfl)) (by decide) (by decide)) (g := (mkF mi 70 #[.val (.int md), .val (.long a), .second, .val (.long s), .second, .val (.int d), .val (.long (1 : Int64)), .second, .val (.long a), .second, .val (.int (if (a + (1 : Int64)) < (1 : Int64) then (0 : Int32) else (1 : Int32)))] [(.long (1 : Int64)), (.long a)])) rfl (by rw [hml]; rfl) (argsL := [(.long a), (.long (1 : Int64))]) (rest := []) (lenOf pd_0 rfl) rfl (by show 2 * 0 + _ ≤ _; exact Nat.le_of_eq rfl) (hb hby at_70) (fun _ _ => ⟨rfl, e0, (by decide : 0 + 0 ≤ _), (by decide : 0 + 0 ≤ _)⟩)
        dsimp only [Pt.U, Pt.locs, Pt.cells, Pt.slots] at X4 l4 y4 z4 st4 hQ4
        subst l4 y4 z4
        obtain ⟨rfl, N4q, e4⟩ := hQ4
        have N4 := Fr.app N0 N4q
        refine Go.st st4 ?_
        show Go pg.tables ev below (T4.setTop (mkF mi 73 #[.val (.int md), .val (.long a), .second, .val (.long s), .second, .val (.int d), .val (.long (1 : Int64)), .second, .val (.long a), .second, .val (.int (if (a + (1 : Int64)) < (1 : Int64) then (0 : Int32) else (1 : Int32)))] [(.int (fG a (1 : Int64)))])) P
        refine Go.st (fun t_ k_ => XS.iload X4.here hx rfl (hb hby at_73) rfl k_) ?_
        show Go pg.tables ev below (T4.setTop (mkF mi 75 #[.val (.int md), .val (.long a), .second, .val (.long s), .second, .val (.int d), .val (.long (1 : Int64)), .second, .val (.long a), .second, .val (.int (if (a + (1 : Int64)) < (1 : Int64) then (0 : Int32) else (1 : Int32)))] [(.int (if (a + (1 : Int64)) < (1 : Int64) then (0 : Int32) else (1 : Int32))), (.int (fG a (1 : Int64)))])) P
        have dm5 : ∀ t_, Steps pg.tables ev below (T4.setTop (mkF mi 83 #[.val (.int md), .val (.long a), .second, .val (.long s), .second, .val (.int d), .val (.long (1 : Int64)), .second, .val (.long a), .second, .val (.int (if (a + (1 : Int64)) < (1 : Int64) then (0 : Int32) else (1 : Int32)))] [(.int (if (fG a (1 : Int64)) = (if (a + (1 : Int64)) < (1 : Int64) then (0 : Int32) else (1 : Int32)) then (1 : Int32) else (0 : Int32)))])) t_ → Steps pg.tables ev below (T4.setTop (mkF mi 75 #[.val (.int md), .val (.long a), .second, .val (.long s), .second, .val (.int d), .val (.long (1 : Int64)), .second, .val (.long a), .second, .val (.int (if (a + (1 : Int64)) < (1 : Int64) then (0 : Int32) else (1 : Int32)))] [(.int (if (a + (1 : Int64)) < (1 : Int64) then (0 : Int32) else (1 : Int32))), (.int (fG a (1 : Int64)))])) t_ := by
          intro t_ k_
          by_cases hd : (fG a (1 : Int64)) = (if (a + (1 : Int64)) < (1 : Int64) then (0 : Int32) else (1 : Int32))
          · refine XS.icmpNo X4.here hx rfl (hb hby at_75) rfl (teq hd).2 ?_
            show Steps pg.tables ev below (T4.setTop (mkF mi 78 #[.val (.int md), .val (.long a), .second, .val (.long s), .second, .val (.int d), .val (.long (1 : Int64)), .second, .val (.long a), .second, .val (.int (if (a + (1 : Int64)) < (1 : Int64) then (0 : Int32) else (1 : Int32)))] [])) t_
            refine XS.iconst X4.here hx rfl (hb hby at_78) ?_
            show Steps pg.tables ev below (T4.setTop (mkF mi 79 #[.val (.int md), .val (.long a), .second, .val (.long s), .second, .val (.int d), .val (.long (1 : Int64)), .second, .val (.long a), .second, .val (.int (if (a + (1 : Int64)) < (1 : Int64) then (0 : Int32) else (1 : Int32)))] [(.int (1 : Int32))])) t_
            refine XS.goto X4.here hx rfl (pc0 := 79) (pc' := 83) rfl (hb hby at_79) (by decide) (by decide) ?_
            show Steps pg.tables ev below (T4.setTop (mkF mi 83 #[.val (.int md), .val (.long a), .second, .val (.long s), .second, .val (.int d), .val (.long (1 : Int64)), .second, .val (.long a), .second, .val (.int (if (a + (1 : Int64)) < (1 : Int64) then (0 : Int32) else (1 : Int32)))] [(.int (1 : Int32))])) t_
            exact own_cst (if_pos hd) k_
          · refine XS.icmpYes X4.here hx rfl (pc0 := 75) (pc' := 82) rfl (hb hby at_75) rfl (feq hd).2 (by decide) (by decide) ?_
            show Steps pg.tables ev below (T4.setTop (mkF mi 82 #[.val (.int md), .val (.long a), .second, .val (.long s), .second, .val (.int d), .val (.long (1 : Int64)), .second, .val (.long a), .second, .val (.int (if (a + (1 : Int64)) < (1 : Int64) then (0 : Int32) else (1 : Int32)))] [])) t_
            refine XS.iconst X4.here hx rfl (hb hby at_82) ?_
            show Steps pg.tables ev below (T4.setTop (mkF mi 83 #[.val (.int md), .val (.long a), .second, .val (.long s), .second, .val (.int d), .val (.long (1 : Int64)), .second, .val (.long a), .second, .val (.int (if (a + (1 : Int64)) < (1 : Int64) then (0 : Int32) else (1 : Int32)))] [(.int (0 : Int32))])) t_
            exact own_cst (if_neg hd) k_
        refine Go.st dm5 ?_
        show Go pg.tables ev below (T4.setTop (mkF mi 83 #[.val (.int md), .val (.long a), .second, .val (.long s), .second, .val (.int d), .val (.long (1 : Int64)), .second, .val (.long a), .second, .val (.int (if (a + (1 : Int64)) < (1 : Int64) then (0 : Int32) else (1 : Int32)))] [(.int (if (fG a (1 : Int64)) = (if (a + (1 : Int64)) < (1 : Int64) then (0 : Int32) else (1 : Int32)) then (1 : Int32) else (0 : Int32)))])) P
        obtain ⟨fs, hr, hrun, hended, hW, hsame⟩ := X4.leave (v := some (.int (if (fG a (1 : Int64)) = (if (a + (1 : Int64)) < (1 : Int64) then (0 : Int32) else (1 : Int32)) then (1 : Int32) else (0 : Int32)))) (fun h => by rw [Bd.returns] at h; cases h) (BodyLoose.notSynchronized Bd)
        refine ⟨_, _, ?_, hP _ _ ⟨hrun, hended, _, _, rfl, ?_, ⟨_, rfl⟩, hW, hsame.mono (by decide) (by decide)⟩⟩
        · exact own_retN X4 hx (t := .boolean) Bd.returns (by simp) (own_nb rfl rfl) (hb hby at_83) hr
        · show (some (.int (if (fG a (1 : Int64)) = (if (a + (1 : Int64)) < (1 : Int64) then (0 : Int32) else (1 : Int32)) then (1 : Int32) else (0 : Int32))) : Option Value) = some (.int 1) ∧ Fr n0 _
          exact ⟨congrArg (fun z => some (Value.int z)) (show (if (fG a (1 : Int64)) = (if (a + (1 : Int64)) < (1 : Int64) then (0 : Int32) else (1 : Int32)) then (1 : Int32) else (0 : Int32)) = 1 from if_pos (by rw [own_law _ _ (by decide), if_neg hc46_3])), N4⟩
    · refine Go.st (fun t_ k_ => XS.ifNo X0.here hx rfl (hb hby at_23) rfl ((if0 _ _).trans (feq hc23_2).1) k_) ?_
      show Go pg.tables ev below (s₁.setTop (mkF mi 26 #[.val (.int md), .val (.long a), .second, .val (.long s), .second, .val (.int d), .val (.long (1 : Int64)), .second, .val (.long a), .second, .unset] [])) P
      refine Go.st (X0.ldc2Long hx hown (mvT hZ (hw _ (List.mem_of_getElem? (i := 0) rfl))) (g := (mkF mi 26 #[.val (.int md), .val (.long a), .second, .val (.long s), .second, .val (.int d), .val (.long (1 : Int64)), .second, .val (.long a), .second, .unset] [])) rfl (hb hby at_26)) ?_
      show Go pg.tables ev below (s₁.setTop (mkF mi 29 #[.val (.int md), .val (.long a), .second, .val (.long s), .second, .val (.int d), .val (.long (1 : Int64)), .second, .val (.long a), .second, .unset] [(.long (9223372036854775807 : Int64))])) P
      refine Go.st (fun t_ k_ => XS.lload X0.here hx rfl (hb hby at_29) rfl k_) ?_
      show Go pg.tables ev below (s₁.setTop (mkF mi 31 #[.val (.int md), .val (.long a), .second, .val (.long s), .second, .val (.int d), .val (.long (1 : Int64)), .second, .val (.long a), .second, .unset] [(.long (1 : Int64)), (.long (9223372036854775807 : Int64))])) P
      refine Go.st (fun t_ k_ => XS.lsub X0.here hx rfl (hb hby at_31) rfl k_) ?_
      show Go pg.tables ev below (s₁.setTop (mkF mi 32 #[.val (.int md), .val (.long a), .second, .val (.long s), .second, .val (.int d), .val (.long (1 : Int64)), .second, .val (.long a), .second, .unset] [(.long (9223372036854775806 : Int64))])) P
      refine Go.st (fun t_ k_ => XS.iload X0.here hx rfl (hb hby at_32) rfl k_) ?_
      show Go pg.tables ev below (s₁.setTop (mkF mi 34 #[.val (.int md), .val (.long a), .second, .val (.long s), .second, .val (.int d), .val (.long (1 : Int64)), .second, .val (.long a), .second, .unset] [(.int d), (.long (9223372036854775806 : Int64))])) P
      refine Go.st (fun t_ k_ => XS.iconst X0.here hx rfl (hb hby at_34) k_) ?_
      show Go pg.tables ev below (s₁.setTop (mkF mi 35 #[.val (.int md), .val (.long a), .second, .val (.long s), .second, .val (.int d), .val (.long (1 : Int64)), .second, .val (.long a), .second, .unset] [(.int (3 : Int32)), (.int d), (.long (9223372036854775806 : Int64))])) P
      refine Go.st (fun t_ k_ => XS.iand X0.here hx rfl (hb hby at_35) rfl k_) ?_
      show Go pg.tables ev below (s₁.setTop (mkF mi 36 #[.val (.int md), .val (.long a), .second, .val (.long s), .second, .val (.int d), .val (.long (1 : Int64)), .second, .val (.long a), .second, .unset] [(.int (d &&& (3 : Int32))), (.long (9223372036854775806 : Int64))])) P
      refine Go.st (fun t_ k_ => XS.iconst X0.here hx rfl (hb hby at_36) k_) ?_
      show Go pg.tables ev below (s₁.setTop (mkF mi 37 #[.val (.int md), .val (.long a), .second, .val (.long s), .second, .val (.int d), .val (.long (1 : Int64)), .second, .val (.long a), .second, .unset] [(.int (1 : Int32)), (.int (d &&& (3 : Int32))), (.long (9223372036854775806 : Int64))])) P
      refine Go.st (fun t_ k_ => XS.isub X0.here hx rfl (hb hby at_37) rfl k_) ?_
      show Go pg.tables ev below (s₁.setTop (mkF mi 38 #[.val (.int md), .val (.long a), .second, .val (.long s), .second, .val (.int d), .val (.long (1 : Int64)), .second, .val (.long a), .second, .unset] [(.int ((d &&& (3 : Int32)) - (1 : Int32))), (.long (9223372036854775806 : Int64))])) P
      refine Go.st (fun t_ k_ => XS.i2l X0.here hx rfl (hb hby at_38) rfl k_) ?_
      show Go pg.tables ev below (s₁.setTop (mkF mi 39 #[.val (.int md), .val (.long a), .second, .val (.long s), .second, .val (.int d), .val (.long (1 : Int64)), .second, .val (.long a), .second, .unset] [(.long (((d &&& (3 : Int32)) - (1 : Int32)).toInt64)), (.long (9223372036854775806 : Int64))])) P
      refine Go.st (fun t_ k_ => XS.ladd X0.here hx rfl (hb hby at_39) rfl k_) ?_
      show Go pg.tables ev below (s₁.setTop (mkF mi 40 #[.val (.int md), .val (.long a), .second, .val (.long s), .second, .val (.int d), .val (.long (1 : Int64)), .second, .val (.long a), .second, .unset] [(.long ((9223372036854775806 : Int64) + (((d &&& (3 : Int32)) - (1 : Int32)).toInt64)))])) P
      refine Go.st (fun t_ k_ => XS.lstore X0.here hx rfl (hb hby at_40) rfl (l' := #[.val (.int md), .val (.long a), .second, .val (.long s), .second, .val (.int d), .val (.long (1 : Int64)), .second, .val (.long ((9223372036854775806 : Int64) + (((d &&& (3 : Int32)) - (1 : Int32)).toInt64))), .second, .unset]) rfl k_) ?_
      show Go pg.tables ev below (s₁.setTop (mkF mi 42 #[.val (.int md), .val (.long a), .second, .val (.long s), .second, .val (.int d), .val (.long (1 : Int64)), .second, .val (.long ((9223372036854775806 : Int64) + (((d &&& (3 : Int32)) - (1 : Int32)).toInt64))), .second, .unset] [])) P
      refine Go.st (fun t_ k_ => XS.lload X0.here hx rfl (hb hby at_42) rfl k_) ?_
      show Go pg.tables ev below (s₁.setTop (mkF mi 44 #[.val (.int md), .val (.long a), .second, .val (.long s), .second, .val (.int d), .val (.long (1 : Int64)), .second, .val (.long ((9223372036854775806 : Int64) + (((d &&& (3 : Int32)) - (1 : Int32)).toInt64))), .second, .unset] [(.long ((9223372036854775806 : Int64) + (((d &&& (3 : Int32)) - (1 : Int32)).toInt64)))])) P
      refine Go.st (fun t_ k_ => XS.lconst X0.here hx rfl (hb hby at_44) k_) ?_
      show Go pg.tables ev below (s₁.setTop (mkF mi 45 #[.val (.int md), .val (.long a), .second, .val (.long s), .second, .val (.int d), .val (.long (1 : Int64)), .second, .val (.long ((9223372036854775806 : Int64) + (((d &&& (3 : Int32)) - (1 : Int32)).toInt64))), .second, .unset] [(.long (0 : Int64)), (.long ((9223372036854775806 : Int64) + (((d &&& (3 : Int32)) - (1 : Int32)).toInt64)))])) P
      refine Go.st (fun t_ k_ => XS.lcmp X0.here hx rfl (hb hby at_45) rfl k_) ?_
      show Go pg.tables ev below (s₁.setTop (mkF mi 46 #[.val (.int md), .val (.long a), .second, .val (.long s), .second, .val (.int d), .val (.long (1 : Int64)), .second, .val (.long ((9223372036854775806 : Int64) + (((d &&& (3 : Int32)) - (1 : Int32)).toInt64))), .second, .unset] [(.int (lcmpW ((9223372036854775806 : Int64) + (((d &&& (3 : Int32)) - (1 : Int32)).toInt64)) (0 : Int64)))])) P
      by_cases hc46_4 : ((9223372036854775806 : Int64) + (((d &&& (3 : Int32)) - (1 : Int32)).toInt64)) < (0 : Int64)
      · refine Go.st (fun t_ k_ => XS.ifYes X0.here hx rfl (pc0 := 46) (pc' := 63) rfl (hb hby at_46) rfl ((if0 _ _).trans (tlt (own_lt hc46_4)).1) (by decide) (by decide) k_) ?_
        show Go pg.tables ev below (s₁.setTop (mkF mi 63 #[.val (.int md), .val (.long a), .second, .val (.long s), .second, .val (.int d), .val (.long (1 : Int64)), .second, .val (.long ((9223372036854775806 : Int64) + (((d &&& (3 : Int32)) - (1 : Int32)).toInt64))), .second, .unset] [])) P
        refine Go.st (fun t_ k_ => XS.iconst X0.here hx rfl (hb hby at_63) k_) ?_
        show Go pg.tables ev below (s₁.setTop (mkF mi 64 #[.val (.int md), .val (.long a), .second, .val (.long s), .second, .val (.int d), .val (.long (1 : Int64)), .second, .val (.long ((9223372036854775806 : Int64) + (((d &&& (3 : Int32)) - (1 : Int32)).toInt64))), .second, .unset] [(.int (0 : Int32))])) P
        refine Go.st (fun t_ k_ => XS.istore X0.here hx rfl (hb hby at_64) rfl (l' := #[.val (.int md), .val (.long a), .second, .val (.long s), .second, .val (.int d), .val (.long (1 : Int64)), .second, .val (.long ((9223372036854775806 : Int64) + (((d &&& (3 : Int32)) - (1 : Int32)).toInt64))), .second, .val (.int (0 : Int32))]) rfl k_) ?_
        show Go pg.tables ev below (s₁.setTop (mkF mi 66 #[.val (.int md), .val (.long a), .second, .val (.long s), .second, .val (.int d), .val (.long (1 : Int64)), .second, .val (.long ((9223372036854775806 : Int64) + (((d &&& (3 : Int32)) - (1 : Int32)).toInt64))), .second, .val (.int (0 : Int32))] [])) P
        refine Go.st (fun t_ k_ => XS.lload X0.here hx rfl (hb hby at_66) rfl k_) ?_
        show Go pg.tables ev below (s₁.setTop (mkF mi 68 #[.val (.int md), .val (.long a), .second, .val (.long s), .second, .val (.int d), .val (.long (1 : Int64)), .second, .val (.long ((9223372036854775806 : Int64) + (((d &&& (3 : Int32)) - (1 : Int32)).toInt64))), .second, .val (.int (0 : Int32))] [(.long ((9223372036854775806 : Int64) + (((d &&& (3 : Int32)) - (1 : Int32)).toInt64)))])) P
        refine Go.st (fun t_ k_ => XS.lload X0.here hx rfl (hb hby at_68) rfl k_) ?_
        show Go pg.tables ev below (s₁.setTop (mkF mi 70 #[.val (.int md), .val (.long a), .second, .val (.long s), .second, .val (.int d), .val (.long (1 : Int64)), .second, .val (.long ((9223372036854775806 : Int64) + (((d &&& (3 : Int32)) - (1 : Int32)).toInt64))), .second, .val (.int (0 : Int32))] [(.long (1 : Int64)), (.long ((9223372036854775806 : Int64) + (((d &&& (3 : Int32)) - (1 : Int32)).toInt64)))])) P
        obtain ⟨_, _, ⟨T6, L6, k6, n6⟩, -, X6, ⟨Lc6, hQ6, l6, y6, z6⟩, st6⟩ := Jvm.LawKit.callS X0 hx (y := (⟨"com/example/hoarfrost/hoarfrost/SegmentStore", "givesStep", "(JJ)Z"⟩ : MethodName)) hown (mvT hZ (hw _ (List.mem_of_getElem? (i := 1) rfl))) (mvT hZ (hw _ (List.mem_of_getElem? (i := 2) rfl))) (mvT hZ (hw _ (List.mem_of_getElem? (i := 3) rfl))) (mvT hZ (hw _ (List.mem_of_getElem? (i := 4) rfl))) (by decide) (backOf (W := 0) (rmG l Z a0 hw [] ((9223372036854775806 : Int64) + (((d &&& (3 : Int32)) - (1 : Int32)).toInt64)) (1 : Int64) h0 n0 Z0) hZ (hw _ (List.mem_of_getElem? (i := 4) rfl)) (hw _ (List.mem_of_getElem? (i := 3) rfl)) (by decide) (by decide)) (g := (mkF mi 70 #[.val (.int md), .val (.long a), .second, .val (.long s), .second, .val (.int d), .val (.long (1 : Int64)), .second, .val (.long ((9223372036854775806 : Int64) + (((d &&& (3 : Int32)) - (1 : Int32)).toInt64))), .second, .val (.int (0 : Int32))] [(.long (1 : Int64)), (.long ((9223372036854775806 : Int64) + (((d &&& (3 : Int32)) - (1 : Int32)).toInt64)))])) rfl (by rw [hml]; rfl) (argsL := [(.long ((9223372036854775806 : Int64) + (((d &&& (3 : Int32)) - (1 : Int32)).toInt64))), (.long (1 : Int64))]) (rest := []) (lenOf pd_0 rfl) rfl (by show 2 * 0 + _ ≤ _; exact Nat.le_of_eq rfl) (hb hby at_70) (fun _ _ => ⟨rfl, e0, (by decide : 0 + 0 ≤ _), (by decide : 0 + 0 ≤ _)⟩)
        dsimp only [Pt.U, Pt.locs, Pt.cells, Pt.slots] at X6 l6 y6 z6 st6 hQ6
        subst l6 y6 z6
        obtain ⟨rfl, N6q, e6⟩ := hQ6
        have N6 := Fr.app N0 N6q
        refine Go.st st6 ?_
        show Go pg.tables ev below (T6.setTop (mkF mi 73 #[.val (.int md), .val (.long a), .second, .val (.long s), .second, .val (.int d), .val (.long (1 : Int64)), .second, .val (.long ((9223372036854775806 : Int64) + (((d &&& (3 : Int32)) - (1 : Int32)).toInt64))), .second, .val (.int (0 : Int32))] [(.int (fG ((9223372036854775806 : Int64) + (((d &&& (3 : Int32)) - (1 : Int32)).toInt64)) (1 : Int64)))])) P
        refine Go.st (fun t_ k_ => XS.iload X6.here hx rfl (hb hby at_73) rfl k_) ?_
        show Go pg.tables ev below (T6.setTop (mkF mi 75 #[.val (.int md), .val (.long a), .second, .val (.long s), .second, .val (.int d), .val (.long (1 : Int64)), .second, .val (.long ((9223372036854775806 : Int64) + (((d &&& (3 : Int32)) - (1 : Int32)).toInt64))), .second, .val (.int (0 : Int32))] [(.int (0 : Int32)), (.int (fG ((9223372036854775806 : Int64) + (((d &&& (3 : Int32)) - (1 : Int32)).toInt64)) (1 : Int64)))])) P
        have dm7 : ∀ t_, Steps pg.tables ev below (T6.setTop (mkF mi 83 #[.val (.int md), .val (.long a), .second, .val (.long s), .second, .val (.int d), .val (.long (1 : Int64)), .second, .val (.long ((9223372036854775806 : Int64) + (((d &&& (3 : Int32)) - (1 : Int32)).toInt64))), .second, .val (.int (0 : Int32))] [(.int (if (fG ((9223372036854775806 : Int64) + (((d &&& (3 : Int32)) - (1 : Int32)).toInt64)) (1 : Int64)) = (0 : Int32) then (1 : Int32) else (0 : Int32)))])) t_ → Steps pg.tables ev below (T6.setTop (mkF mi 75 #[.val (.int md), .val (.long a), .second, .val (.long s), .second, .val (.int d), .val (.long (1 : Int64)), .second, .val (.long ((9223372036854775806 : Int64) + (((d &&& (3 : Int32)) - (1 : Int32)).toInt64))), .second, .val (.int (0 : Int32))] [(.int (0 : Int32)), (.int (fG ((9223372036854775806 : Int64) + (((d &&& (3 : Int32)) - (1 : Int32)).toInt64)) (1 : Int64)))])) t_ := by
          intro t_ k_
          by_cases hd : (fG ((9223372036854775806 : Int64) + (((d &&& (3 : Int32)) - (1 : Int32)).toInt64)) (1 : Int64)) = (0 : Int32)
          · refine XS.icmpNo X6.here hx rfl (hb hby at_75) rfl (teq hd).2 ?_
            show Steps pg.tables ev below (T6.setTop (mkF mi 78 #[.val (.int md), .val (.long a), .second, .val (.long s), .second, .val (.int d), .val (.long (1 : Int64)), .second, .val (.long ((9223372036854775806 : Int64) + (((d &&& (3 : Int32)) - (1 : Int32)).toInt64))), .second, .val (.int (0 : Int32))] [])) t_
            refine XS.iconst X6.here hx rfl (hb hby at_78) ?_
            show Steps pg.tables ev below (T6.setTop (mkF mi 79 #[.val (.int md), .val (.long a), .second, .val (.long s), .second, .val (.int d), .val (.long (1 : Int64)), .second, .val (.long ((9223372036854775806 : Int64) + (((d &&& (3 : Int32)) - (1 : Int32)).toInt64))), .second, .val (.int (0 : Int32))] [(.int (1 : Int32))])) t_
            refine XS.goto X6.here hx rfl (pc0 := 79) (pc' := 83) rfl (hb hby at_79) (by decide) (by decide) ?_
            show Steps pg.tables ev below (T6.setTop (mkF mi 83 #[.val (.int md), .val (.long a), .second, .val (.long s), .second, .val (.int d), .val (.long (1 : Int64)), .second, .val (.long ((9223372036854775806 : Int64) + (((d &&& (3 : Int32)) - (1 : Int32)).toInt64))), .second, .val (.int (0 : Int32))] [(.int (1 : Int32))])) t_
            exact own_cst (if_pos hd) k_
          · refine XS.icmpYes X6.here hx rfl (pc0 := 75) (pc' := 82) rfl (hb hby at_75) rfl (feq hd).2 (by decide) (by decide) ?_
            show Steps pg.tables ev below (T6.setTop (mkF mi 82 #[.val (.int md), .val (.long a), .second, .val (.long s), .second, .val (.int d), .val (.long (1 : Int64)), .second, .val (.long ((9223372036854775806 : Int64) + (((d &&& (3 : Int32)) - (1 : Int32)).toInt64))), .second, .val (.int (0 : Int32))] [])) t_
            refine XS.iconst X6.here hx rfl (hb hby at_82) ?_
            show Steps pg.tables ev below (T6.setTop (mkF mi 83 #[.val (.int md), .val (.long a), .second, .val (.long s), .second, .val (.int d), .val (.long (1 : Int64)), .second, .val (.long ((9223372036854775806 : Int64) + (((d &&& (3 : Int32)) - (1 : Int32)).toInt64))), .second, .val (.int (0 : Int32))] [(.int (0 : Int32))])) t_
            exact own_cst (if_neg hd) k_
        refine Go.st dm7 ?_
        show Go pg.tables ev below (T6.setTop (mkF mi 83 #[.val (.int md), .val (.long a), .second, .val (.long s), .second, .val (.int d), .val (.long (1 : Int64)), .second, .val (.long ((9223372036854775806 : Int64) + (((d &&& (3 : Int32)) - (1 : Int32)).toInt64))), .second, .val (.int (0 : Int32))] [(.int (if (fG ((9223372036854775806 : Int64) + (((d &&& (3 : Int32)) - (1 : Int32)).toInt64)) (1 : Int64)) = (0 : Int32) then (1 : Int32) else (0 : Int32)))])) P
        obtain ⟨fs, hr, hrun, hended, hW, hsame⟩ := X6.leave (v := some (.int (if (fG ((9223372036854775806 : Int64) + (((d &&& (3 : Int32)) - (1 : Int32)).toInt64)) (1 : Int64)) = (0 : Int32) then (1 : Int32) else (0 : Int32)))) (fun h => by rw [Bd.returns] at h; cases h) (BodyLoose.notSynchronized Bd)
        refine ⟨_, _, ?_, hP _ _ ⟨hrun, hended, _, _, rfl, ?_, ⟨_, rfl⟩, hW, hsame.mono (by decide) (by decide)⟩⟩
        · exact own_retN X6 hx (t := .boolean) Bd.returns (by simp) (own_nb rfl rfl) (hb hby at_83) hr
        · show (some (.int (if (fG ((9223372036854775806 : Int64) + (((d &&& (3 : Int32)) - (1 : Int32)).toInt64)) (1 : Int64)) = (0 : Int32) then (1 : Int32) else (0 : Int32))) : Option Value) = some (.int 1) ∧ Fr n0 _
          exact ⟨congrArg (fun z => some (Value.int z)) (show (if (fG ((9223372036854775806 : Int64) + (((d &&& (3 : Int32)) - (1 : Int32)).toInt64)) (1 : Int64)) = (0 : Int32) then (1 : Int32) else (0 : Int32)) = 1 from if_pos (by rw [own_law _ _ (by decide), if_pos hc46_4])), N6⟩
      · refine Go.st (fun t_ k_ => XS.ifNo X0.here hx rfl (hb hby at_46) rfl ((if0 _ _).trans (flt (own_nlt hc46_4)).1) k_) ?_
        show Go pg.tables ev below (s₁.setTop (mkF mi 49 #[.val (.int md), .val (.long a), .second, .val (.long s), .second, .val (.int d), .val (.long (1 : Int64)), .second, .val (.long ((9223372036854775806 : Int64) + (((d &&& (3 : Int32)) - (1 : Int32)).toInt64))), .second, .unset] [])) P
        refine Go.st (fun t_ k_ => XS.lload X0.here hx rfl (hb hby at_49) rfl k_) ?_
        show Go pg.tables ev below (s₁.setTop (mkF mi 51 #[.val (.int md), .val (.long a), .second, .val (.long s), .second, .val (.int d), .val (.long (1 : Int64)), .second, .val (.long ((9223372036854775806 : Int64) + (((d &&& (3 : Int32)) - (1 : Int32)).toInt64))), .second, .unset] [(.long ((9223372036854775806 : Int64) + (((d &&& (3 : Int32)) - (1 : Int32)).toInt64)))])) P
        refine Go.st (fun t_ k_ => XS.lload X0.here hx rfl (hb hby at_51) rfl k_) ?_
        show Go pg.tables ev below (s₁.setTop (mkF mi 53 #[.val (.int md), .val (.long a), .second, .val (.long s), .second, .val (.int d), .val (.long (1 : Int64)), .second, .val (.long ((9223372036854775806 : Int64) + (((d &&& (3 : Int32)) - (1 : Int32)).toInt64))), .second, .unset] [(.long (1 : Int64)), (.long ((9223372036854775806 : Int64) + (((d &&& (3 : Int32)) - (1 : Int32)).toInt64)))])) P
        refine Go.st (fun t_ k_ => XS.ladd X0.here hx rfl (hb hby at_53) rfl k_) ?_
        show Go pg.tables ev below (s₁.setTop (mkF mi 54 #[.val (.int md), .val (.long a), .second, .val (.long s), .second, .val (.int d), .val (.long (1 : Int64)), .second, .val (.long ((9223372036854775806 : Int64) + (((d &&& (3 : Int32)) - (1 : Int32)).toInt64))), .second, .unset] [(.long (((9223372036854775806 : Int64) + (((d &&& (3 : Int32)) - (1 : Int32)).toInt64)) + (1 : Int64)))])) P
        refine Go.st (fun t_ k_ => XS.lconst X0.here hx rfl (hb hby at_54) k_) ?_
        show Go pg.tables ev below (s₁.setTop (mkF mi 55 #[.val (.int md), .val (.long a), .second, .val (.long s), .second, .val (.int d), .val (.long (1 : Int64)), .second, .val (.long ((9223372036854775806 : Int64) + (((d &&& (3 : Int32)) - (1 : Int32)).toInt64))), .second, .unset] [(.long (1 : Int64)), (.long (((9223372036854775806 : Int64) + (((d &&& (3 : Int32)) - (1 : Int32)).toInt64)) + (1 : Int64)))])) P
        refine Go.st (fun t_ k_ => XS.lcmp X0.here hx rfl (hb hby at_55) rfl k_) ?_
        show Go pg.tables ev below (s₁.setTop (mkF mi 56 #[.val (.int md), .val (.long a), .second, .val (.long s), .second, .val (.int d), .val (.long (1 : Int64)), .second, .val (.long ((9223372036854775806 : Int64) + (((d &&& (3 : Int32)) - (1 : Int32)).toInt64))), .second, .unset] [(.int (lcmpW (((9223372036854775806 : Int64) + (((d &&& (3 : Int32)) - (1 : Int32)).toInt64)) + (1 : Int64)) (1 : Int64)))])) P
        have dm8 : ∀ t_, Steps pg.tables ev below (s₁.setTop (mkF mi 64 #[.val (.int md), .val (.long a), .second, .val (.long s), .second, .val (.int d), .val (.long (1 : Int64)), .second, .val (.long ((9223372036854775806 : Int64) + (((d &&& (3 : Int32)) - (1 : Int32)).toInt64))), .second, .unset] [(.int (if (((9223372036854775806 : Int64) + (((d &&& (3 : Int32)) - (1 : Int32)).toInt64)) + (1 : Int64)) < (1 : Int64) then (0 : Int32) else (1 : Int32)))])) t_ → Steps pg.tables ev below (s₁.setTop (mkF mi 56 #[.val (.int md), .val (.long a), .second, .val (.long s), .second, .val (.int d), .val (.long (1 : Int64)), .second, .val (.long ((9223372036854775806 : Int64) + (((d &&& (3 : Int32)) - (1 : Int32)).toInt64))), .second, .unset] [(.int (lcmpW (((9223372036854775806 : Int64) + (((d &&& (3 : Int32)) - (1 : Int32)).toInt64)) + (1 : Int64)) (1 : Int64)))])) t_ := by
          intro t_ k_
          by_cases hd : (((9223372036854775806 : Int64) + (((d &&& (3 : Int32)) - (1 : Int32)).toInt64)) + (1 : Int64)) < (1 : Int64)
          · refine XS.ifYes X0.here hx rfl (pc0 := 56) (pc' := 63) rfl (hb hby at_56) rfl ((if0 _ _).trans (tlt (own_lt hd)).1) (by decide) (by decide) ?_
            show Steps pg.tables ev below (s₁.setTop (mkF mi 63 #[.val (.int md), .val (.long a), .second, .val (.long s), .second, .val (.int d), .val (.long (1 : Int64)), .second, .val (.long ((9223372036854775806 : Int64) + (((d &&& (3 : Int32)) - (1 : Int32)).toInt64))), .second, .unset] [])) t_
            refine XS.iconst X0.here hx rfl (hb hby at_63) ?_
            show Steps pg.tables ev below (s₁.setTop (mkF mi 64 #[.val (.int md), .val (.long a), .second, .val (.long s), .second, .val (.int d), .val (.long (1 : Int64)), .second, .val (.long ((9223372036854775806 : Int64) + (((d &&& (3 : Int32)) - (1 : Int32)).toInt64))), .second, .unset] [(.int (0 : Int32))])) t_
            exact own_cst (if_pos hd) k_
          · refine XS.ifNo X0.here hx rfl (hb hby at_56) rfl ((if0 _ _).trans (flt (own_nlt hd)).1) ?_
            show Steps pg.tables ev below (s₁.setTop (mkF mi 59 #[.val (.int md), .val (.long a), .second, .val (.long s), .second, .val (.int d), .val (.long (1 : Int64)), .second, .val (.long ((9223372036854775806 : Int64) + (((d &&& (3 : Int32)) - (1 : Int32)).toInt64))), .second, .unset] [])) t_
            refine XS.iconst X0.here hx rfl (hb hby at_59) ?_
            show Steps pg.tables ev below (s₁.setTop (mkF mi 60 #[.val (.int md), .val (.long a), .second, .val (.long s), .second, .val (.int d), .val (.long (1 : Int64)), .second, .val (.long ((9223372036854775806 : Int64) + (((d &&& (3 : Int32)) - (1 : Int32)).toInt64))), .second, .unset] [(.int (1 : Int32))])) t_
            refine XS.goto X0.here hx rfl (pc0 := 60) (pc' := 64) rfl (hb hby at_60) (by decide) (by decide) ?_
            show Steps pg.tables ev below (s₁.setTop (mkF mi 64 #[.val (.int md), .val (.long a), .second, .val (.long s), .second, .val (.int d), .val (.long (1 : Int64)), .second, .val (.long ((9223372036854775806 : Int64) + (((d &&& (3 : Int32)) - (1 : Int32)).toInt64))), .second, .unset] [(.int (1 : Int32))])) t_
            exact own_cst (if_neg hd) k_
        refine Go.st dm8 ?_
        show Go pg.tables ev below (s₁.setTop (mkF mi 64 #[.val (.int md), .val (.long a), .second, .val (.long s), .second, .val (.int d), .val (.long (1 : Int64)), .second, .val (.long ((9223372036854775806 : Int64) + (((d &&& (3 : Int32)) - (1 : Int32)).toInt64))), .second, .unset] [(.int (if (((9223372036854775806 : Int64) + (((d &&& (3 : Int32)) - (1 : Int32)).toInt64)) + (1 : Int64)) < (1 : Int64) then (0 : Int32) else (1 : Int32)))])) P
        refine Go.st (fun t_ k_ => XS.istore X0.here hx rfl (hb hby at_64) rfl (l' := #[.val (.int md), .val (.long a), .second, .val (.long s), .second, .val (.int d), .val (.long (1 : Int64)), .second, .val (.long ((9223372036854775806 : Int64) + (((d &&& (3 : Int32)) - (1 : Int32)).toInt64))), .second, .val (.int (if (((9223372036854775806 : Int64) + (((d &&& (3 : Int32)) - (1 : Int32)).toInt64)) + (1 : Int64)) < (1 : Int64) then (0 : Int32) else (1 : Int32)))]) rfl k_) ?_
        show Go pg.tables ev below (s₁.setTop (mkF mi 66 #[.val (.int md), .val (.long a), .second, .val (.long s), .second, .val (.int d), .val (.long (1 : Int64)), .second, .val (.long ((9223372036854775806 : Int64) + (((d &&& (3 : Int32)) - (1 : Int32)).toInt64))), .second, .val (.int (if (((9223372036854775806 : Int64) + (((d &&& (3 : Int32)) - (1 : Int32)).toInt64)) + (1 : Int64)) < (1 : Int64) then (0 : Int32) else (1 : Int32)))] [])) P
        refine Go.st (fun t_ k_ => XS.lload X0.here hx rfl (hb hby at_66) rfl k_) ?_
        show Go pg.tables ev below (s₁.setTop (mkF mi 68 #[.val (.int md), .val (.long a), .second, .val (.long s), .second, .val (.int d), .val (.long (1 : Int64)), .second, .val (.long ((9223372036854775806 : Int64) + (((d &&& (3 : Int32)) - (1 : Int32)).toInt64))), .second, .val (.int (if (((9223372036854775806 : Int64) + (((d &&& (3 : Int32)) - (1 : Int32)).toInt64)) + (1 : Int64)) < (1 : Int64) then (0 : Int32) else (1 : Int32)))] [(.long ((9223372036854775806 : Int64) + (((d &&& (3 : Int32)) - (1 : Int32)).toInt64)))])) P
        refine Go.st (fun t_ k_ => XS.lload X0.here hx rfl (hb hby at_68) rfl k_) ?_
        show Go pg.tables ev below (s₁.setTop (mkF mi 70 #[.val (.int md), .val (.long a), .second, .val (.long s), .second, .val (.int d), .val (.long (1 : Int64)), .second, .val (.long ((9223372036854775806 : Int64) + (((d &&& (3 : Int32)) - (1 : Int32)).toInt64))), .second, .val (.int (if (((9223372036854775806 : Int64) + (((d &&& (3 : Int32)) - (1 : Int32)).toInt64)) + (1 : Int64)) < (1 : Int64) then (0 : Int32) else (1 : Int32)))] [(.long (1 : Int64)), (.long ((9223372036854775806 : Int64) + (((d &&& (3 : Int32)) - (1 : Int32)).toInt64)))])) P
        obtain ⟨_, _, ⟨T9, L9, k9, n9⟩, -, X9, ⟨Lc9, hQ9, l9, y9, z9⟩, st9⟩ := Jvm.LawKit.callS X0 hx (y := (⟨"com/example/hoarfrost/hoarfrost/SegmentStore", "givesStep", "(JJ)Z"⟩ : MethodName)) hown (mvT hZ (hw _ (List.mem_of_getElem? (i := 1) rfl))) (mvT hZ (hw _ (List.mem_of_getElem? (i := 2) rfl))) (mvT hZ (hw _ (List.mem_of_getElem? (i := 3) rfl))) (mvT hZ (hw _ (List.mem_of_getElem? (i := 4) rfl))) (by decide) (backOf (W := 0) (rmG l Z a0 hw [] ((9223372036854775806 : Int64) + (((d &&& (3 : Int32)) - (1 : Int32)).toInt64)) (1 : Int64) h0 n0 Z0) hZ (hw _ (List.mem_of_getElem? (i := 4) rfl)) (hw _ (List.mem_of_getElem? (i := 3) rfl)) (by decide) (by decide)) (g := (mkF mi 70 #[.val (.int md), .val (.long a), .second, .val (.long s), .second, .val (.int d), .val (.long (1 : Int64)), .second, .val (.long ((9223372036854775806 : Int64) + (((d &&& (3 : Int32)) - (1 : Int32)).toInt64))), .second, .val (.int (if (((9223372036854775806 : Int64) + (((d &&& (3 : Int32)) - (1 : Int32)).toInt64)) + (1 : Int64)) < (1 : Int64) then (0 : Int32) else (1 : Int32)))] [(.long (1 : Int64)), (.long ((9223372036854775806 : Int64) + (((d &&& (3 : Int32)) - (1 : Int32)).toInt64)))])) rfl (by rw [hml]; rfl) (argsL := [(.long ((9223372036854775806 : Int64) + (((d &&& (3 : Int32)) - (1 : Int32)).toInt64))), (.long (1 : Int64))]) (rest := []) (lenOf pd_0 rfl) rfl (by show 2 * 0 + _ ≤ _; exact Nat.le_of_eq rfl) (hb hby at_70) (fun _ _ => ⟨rfl, e0, (by decide : 0 + 0 ≤ _), (by decide : 0 + 0 ≤ _)⟩)
        dsimp only [Pt.U, Pt.locs, Pt.cells, Pt.slots] at X9 l9 y9 z9 st9 hQ9
        subst l9 y9 z9
        obtain ⟨rfl, N9q, e9⟩ := hQ9
        have N9 := Fr.app N0 N9q
        refine Go.st st9 ?_
        show Go pg.tables ev below (T9.setTop (mkF mi 73 #[.val (.int md), .val (.long a), .second, .val (.long s), .second, .val (.int d), .val (.long (1 : Int64)), .second, .val (.long ((9223372036854775806 : Int64) + (((d &&& (3 : Int32)) - (1 : Int32)).toInt64))), .second, .val (.int (if (((9223372036854775806 : Int64) + (((d &&& (3 : Int32)) - (1 : Int32)).toInt64)) + (1 : Int64)) < (1 : Int64) then (0 : Int32) else (1 : Int32)))] [(.int (fG ((9223372036854775806 : Int64) + (((d &&& (3 : Int32)) - (1 : Int32)).toInt64)) (1 : Int64)))])) P
        refine Go.st (fun t_ k_ => XS.iload X9.here hx rfl (hb hby at_73) rfl k_) ?_
        show Go pg.tables ev below (T9.setTop (mkF mi 75 #[.val (.int md), .val (.long a), .second, .val (.long s), .second, .val (.int d), .val (.long (1 : Int64)), .second, .val (.long ((9223372036854775806 : Int64) + (((d &&& (3 : Int32)) - (1 : Int32)).toInt64))), .second, .val (.int (if (((9223372036854775806 : Int64) + (((d &&& (3 : Int32)) - (1 : Int32)).toInt64)) + (1 : Int64)) < (1 : Int64) then (0 : Int32) else (1 : Int32)))] [(.int (if (((9223372036854775806 : Int64) + (((d &&& (3 : Int32)) - (1 : Int32)).toInt64)) + (1 : Int64)) < (1 : Int64) then (0 : Int32) else (1 : Int32))), (.int (fG ((9223372036854775806 : Int64) + (((d &&& (3 : Int32)) - (1 : Int32)).toInt64)) (1 : Int64)))])) P
        have dm10 : ∀ t_, Steps pg.tables ev below (T9.setTop (mkF mi 83 #[.val (.int md), .val (.long a), .second, .val (.long s), .second, .val (.int d), .val (.long (1 : Int64)), .second, .val (.long ((9223372036854775806 : Int64) + (((d &&& (3 : Int32)) - (1 : Int32)).toInt64))), .second, .val (.int (if (((9223372036854775806 : Int64) + (((d &&& (3 : Int32)) - (1 : Int32)).toInt64)) + (1 : Int64)) < (1 : Int64) then (0 : Int32) else (1 : Int32)))] [(.int (if (fG ((9223372036854775806 : Int64) + (((d &&& (3 : Int32)) - (1 : Int32)).toInt64)) (1 : Int64)) = (if (((9223372036854775806 : Int64) + (((d &&& (3 : Int32)) - (1 : Int32)).toInt64)) + (1 : Int64)) < (1 : Int64) then (0 : Int32) else (1 : Int32)) then (1 : Int32) else (0 : Int32)))])) t_ → Steps pg.tables ev below (T9.setTop (mkF mi 75 #[.val (.int md), .val (.long a), .second, .val (.long s), .second, .val (.int d), .val (.long (1 : Int64)), .second, .val (.long ((9223372036854775806 : Int64) + (((d &&& (3 : Int32)) - (1 : Int32)).toInt64))), .second, .val (.int (if (((9223372036854775806 : Int64) + (((d &&& (3 : Int32)) - (1 : Int32)).toInt64)) + (1 : Int64)) < (1 : Int64) then (0 : Int32) else (1 : Int32)))] [(.int (if (((9223372036854775806 : Int64) + (((d &&& (3 : Int32)) - (1 : Int32)).toInt64)) + (1 : Int64)) < (1 : Int64) then (0 : Int32) else (1 : Int32))), (.int (fG ((9223372036854775806 : Int64) + (((d &&& (3 : Int32)) - (1 : Int32)).toInt64)) (1 : Int64)))])) t_ := by
          intro t_ k_
          by_cases hd : (fG ((9223372036854775806 : Int64) + (((d &&& (3 : Int32)) - (1 : Int32)).toInt64)) (1 : Int64)) = (if (((9223372036854775806 : Int64) + (((d &&& (3 : Int32)) - (1 : Int32)).toInt64)) + (1 : Int64)) < (1 : Int64) then (0 : Int32) else (1 : Int32))
          · refine XS.icmpNo X9.here hx rfl (hb hby at_75) rfl (teq hd).2 ?_
            show Steps pg.tables ev below (T9.setTop (mkF mi 78 #[.val (.int md), .val (.long a), .second, .val (.long s), .second, .val (.int d), .val (.long (1 : Int64)), .second, .val (.long ((9223372036854775806 : Int64) + (((d &&& (3 : Int32)) - (1 : Int32)).toInt64))), .second, .val (.int (if (((9223372036854775806 : Int64) + (((d &&& (3 : Int32)) - (1 : Int32)).toInt64)) + (1 : Int64)) < (1 : Int64) then (0 : Int32) else (1 : Int32)))] [])) t_
            refine XS.iconst X9.here hx rfl (hb hby at_78) ?_
            show Steps pg.tables ev below (T9.setTop (mkF mi 79 #[.val (.int md), .val (.long a), .second, .val (.long s), .second, .val (.int d), .val (.long (1 : Int64)), .second, .val (.long ((9223372036854775806 : Int64) + (((d &&& (3 : Int32)) - (1 : Int32)).toInt64))), .second, .val (.int (if (((9223372036854775806 : Int64) + (((d &&& (3 : Int32)) - (1 : Int32)).toInt64)) + (1 : Int64)) < (1 : Int64) then (0 : Int32) else (1 : Int32)))] [(.int (1 : Int32))])) t_
            refine XS.goto X9.here hx rfl (pc0 := 79) (pc' := 83) rfl (hb hby at_79) (by decide) (by decide) ?_
            show Steps pg.tables ev below (T9.setTop (mkF mi 83 #[.val (.int md), .val (.long a), .second, .val (.long s), .second, .val (.int d), .val (.long (1 : Int64)), .second, .val (.long ((9223372036854775806 : Int64) + (((d &&& (3 : Int32)) - (1 : Int32)).toInt64))), .second, .val (.int (if (((9223372036854775806 : Int64) + (((d &&& (3 : Int32)) - (1 : Int32)).toInt64)) + (1 : Int64)) < (1 : Int64) then (0 : Int32) else (1 : Int32)))] [(.int (1 : Int32))])) t_
            exact own_cst (if_pos hd) k_
          · refine XS.icmpYes X9.here hx rfl (pc0 := 75) (pc' := 82) rfl (hb hby at_75) rfl (feq hd).2 (by decide) (by decide) ?_
            show Steps pg.tables ev below (T9.setTop (mkF mi 82 #[.val (.int md), .val (.long a), .second, .val (.long s), .second, .val (.int d), .val (.long (1 : Int64)), .second, .val (.long ((9223372036854775806 : Int64) + (((d &&& (3 : Int32)) - (1 : Int32)).toInt64))), .second, .val (.int (if (((9223372036854775806 : Int64) + (((d &&& (3 : Int32)) - (1 : Int32)).toInt64)) + (1 : Int64)) < (1 : Int64) then (0 : Int32) else (1 : Int32)))] [])) t_
            refine XS.iconst X9.here hx rfl (hb hby at_82) ?_
            show Steps pg.tables ev below (T9.setTop (mkF mi 83 #[.val (.int md), .val (.long a), .second, .val (.long s), .second, .val (.int d), .val (.long (1 : Int64)), .second, .val (.long ((9223372036854775806 : Int64) + (((d &&& (3 : Int32)) - (1 : Int32)).toInt64))), .second, .val (.int (if (((9223372036854775806 : Int64) + (((d &&& (3 : Int32)) - (1 : Int32)).toInt64)) + (1 : Int64)) < (1 : Int64) then (0 : Int32) else (1 : Int32)))] [(.int (0 : Int32))])) t_
            exact own_cst (if_neg hd) k_
        refine Go.st dm10 ?_
        show Go pg.tables ev below (T9.setTop (mkF mi 83 #[.val (.int md), .val (.long a), .second, .val (.long s), .second, .val (.int d), .val (.long (1 : Int64)), .second, .val (.long ((9223372036854775806 : Int64) + (((d &&& (3 : Int32)) - (1 : Int32)).toInt64))), .second, .val (.int (if (((9223372036854775806 : Int64) + (((d &&& (3 : Int32)) - (1 : Int32)).toInt64)) + (1 : Int64)) < (1 : Int64) then (0 : Int32) else (1 : Int32)))] [(.int (if (fG ((9223372036854775806 : Int64) + (((d &&& (3 : Int32)) - (1 : Int32)).toInt64)) (1 : Int64)) = (if (((9223372036854775806 : Int64) + (((d &&& (3 : Int32)) - (1 : Int32)).toInt64)) + (1 : Int64)) < (1 : Int64) then (0 : Int32) else (1 : Int32)) then (1 : Int32) else (0 : Int32)))])) P
        obtain ⟨fs, hr, hrun, hended, hW, hsame⟩ := X9.leave (v := some (.int (if (fG ((9223372036854775806 : Int64) + (((d &&& (3 : Int32)) - (1 : Int32)).toInt64)) (1 : Int64)) = (if (((9223372036854775806 : Int64) + (((d &&& (3 : Int32)) - (1 : Int32)).toInt64)) + (1 : Int64)) < (1 : Int64) then (0 : Int32) else (1 : Int32)) then (1 : Int32) else (0 : Int32)))) (fun h => by rw [Bd.returns] at h; cases h) (BodyLoose.notSynchronized Bd)
        refine ⟨_, _, ?_, hP _ _ ⟨hrun, hended, _, _, rfl, ?_, ⟨_, rfl⟩, hW, hsame.mono (by decide) (by decide)⟩⟩
        · exact own_retN X9 hx (t := .boolean) Bd.returns (by simp) (own_nb rfl rfl) (hb hby at_83) hr
        · show (some (.int (if (fG ((9223372036854775806 : Int64) + (((d &&& (3 : Int32)) - (1 : Int32)).toInt64)) (1 : Int64)) = (if (((9223372036854775806 : Int64) + (((d &&& (3 : Int32)) - (1 : Int32)).toInt64)) + (1 : Int64)) < (1 : Int64) then (0 : Int32) else (1 : Int32)) then (1 : Int32) else (0 : Int32))) : Option Value) = some (.int 1) ∧ Fr n0 _
          exact ⟨congrArg (fun z => some (Value.int z)) (show (if (fG ((9223372036854775806 : Int64) + (((d &&& (3 : Int32)) - (1 : Int32)).toInt64)) (1 : Int64)) = (if (((9223372036854775806 : Int64) + (((d &&& (3 : Int32)) - (1 : Int32)).toInt64)) + (1 : Int64)) < (1 : Int64) then (0 : Int32) else (1 : Int32)) then (1 : Int32) else (0 : Int32)) = 1 from if_pos (by rw [own_law _ _ (by decide), if_neg hc46_4])), N9⟩
  · refine Go.st (fun t_ k_ => XS.ifYes X0.here hx rfl (pc0 := 11) (pc' := 17) rfl (hb hby at_11) rfl ((if0 _ _).trans (feq (own_neq hc11_1)).2) (by decide) (by decide) k_) ?_
    show Go pg.tables ev below (s₁.setTop (mkF mi 17 #[.val (.int md), .val (.long a), .second, .val (.long s), .second, .val (.int d), .val (.long (s &&& (9223372036854775807 : Int64))), .second, .unset, .unset, .unset] [])) P
    refine Go.st (fun t_ k_ => XS.lloadN X0.here hx rfl (hb hby at_17) rfl k_) ?_
    show Go pg.tables ev below (s₁.setTop (mkF mi 18 #[.val (.int md), .val (.long a), .second, .val (.long s), .second, .val (.int d), .val (.long (s &&& (9223372036854775807 : Int64))), .second, .unset, .unset, .unset] [(.long a)])) P
    refine Go.st (fun t_ k_ => XS.lstore X0.here hx rfl (hb hby at_18) rfl (l' := #[.val (.int md), .val (.long a), .second, .val (.long s), .second, .val (.int d), .val (.long (s &&& (9223372036854775807 : Int64))), .second, .val (.long a), .second, .unset]) rfl k_) ?_
    show Go pg.tables ev below (s₁.setTop (mkF mi 20 #[.val (.int md), .val (.long a), .second, .val (.long s), .second, .val (.int d), .val (.long (s &&& (9223372036854775807 : Int64))), .second, .val (.long a), .second, .unset] [])) P
    refine Go.st (fun t_ k_ => XS.iloadN X0.here hx rfl (hb hby at_20) rfl k_) ?_
    show Go pg.tables ev below (s₁.setTop (mkF mi 21 #[.val (.int md), .val (.long a), .second, .val (.long s), .second, .val (.int d), .val (.long (s &&& (9223372036854775807 : Int64))), .second, .val (.long a), .second, .unset] [(.int md)])) P
    refine Go.st (fun t_ k_ => XS.iconst X0.here hx rfl (hb hby at_21) k_) ?_
    show Go pg.tables ev below (s₁.setTop (mkF mi 22 #[.val (.int md), .val (.long a), .second, .val (.long s), .second, .val (.int d), .val (.long (s &&& (9223372036854775807 : Int64))), .second, .val (.long a), .second, .unset] [(.int (1 : Int32)), (.int md)])) P
    refine Go.st (fun t_ k_ => XS.iand X0.here hx rfl (hb hby at_22) rfl k_) ?_
    show Go pg.tables ev below (s₁.setTop (mkF mi 23 #[.val (.int md), .val (.long a), .second, .val (.long s), .second, .val (.int d), .val (.long (s &&& (9223372036854775807 : Int64))), .second, .val (.long a), .second, .unset] [(.int (md &&& (1 : Int32)))])) P
    by_cases hc23_5 : (md &&& (1 : Int32)) = (0 : Int32)
    · refine Go.st (fun t_ k_ => XS.ifYes X0.here hx rfl (pc0 := 23) (pc' := 42) rfl (hb hby at_23) rfl ((if0 _ _).trans (teq hc23_5).1) (by decide) (by decide) k_) ?_
      show Go pg.tables ev below (s₁.setTop (mkF mi 42 #[.val (.int md), .val (.long a), .second, .val (.long s), .second, .val (.int d), .val (.long (s &&& (9223372036854775807 : Int64))), .second, .val (.long a), .second, .unset] [])) P
      refine Go.st (fun t_ k_ => XS.lload X0.here hx rfl (hb hby at_42) rfl k_) ?_
      show Go pg.tables ev below (s₁.setTop (mkF mi 44 #[.val (.int md), .val (.long a), .second, .val (.long s), .second, .val (.int d), .val (.long (s &&& (9223372036854775807 : Int64))), .second, .val (.long a), .second, .unset] [(.long a)])) P
      refine Go.st (fun t_ k_ => XS.lconst X0.here hx rfl (hb hby at_44) k_) ?_
      show Go pg.tables ev below (s₁.setTop (mkF mi 45 #[.val (.int md), .val (.long a), .second, .val (.long s), .second, .val (.int d), .val (.long (s &&& (9223372036854775807 : Int64))), .second, .val (.long a), .second, .unset] [(.long (0 : Int64)), (.long a)])) P
      refine Go.st (fun t_ k_ => XS.lcmp X0.here hx rfl (hb hby at_45) rfl k_) ?_
      show Go pg.tables ev below (s₁.setTop (mkF mi 46 #[.val (.int md), .val (.long a), .second, .val (.long s), .second, .val (.int d), .val (.long (s &&& (9223372036854775807 : Int64))), .second, .val (.long a), .second, .unset] [(.int (lcmpW a (0 : Int64)))])) P
      by_cases hc46_6 : a < (0 : Int64)
      · refine Go.st (fun t_ k_ => XS.ifYes X0.here hx rfl (pc0 := 46) (pc' := 63) rfl (hb hby at_46) rfl ((if0 _ _).trans (tlt (own_lt hc46_6)).1) (by decide) (by decide) k_) ?_
        show Go pg.tables ev below (s₁.setTop (mkF mi 63 #[.val (.int md), .val (.long a), .second, .val (.long s), .second, .val (.int d), .val (.long (s &&& (9223372036854775807 : Int64))), .second, .val (.long a), .second, .unset] [])) P
        refine Go.st (fun t_ k_ => XS.iconst X0.here hx rfl (hb hby at_63) k_) ?_
        show Go pg.tables ev below (s₁.setTop (mkF mi 64 #[.val (.int md), .val (.long a), .second, .val (.long s), .second, .val (.int d), .val (.long (s &&& (9223372036854775807 : Int64))), .second, .val (.long a), .second, .unset] [(.int (0 : Int32))])) P
        refine Go.st (fun t_ k_ => XS.istore X0.here hx rfl (hb hby at_64) rfl (l' := #[.val (.int md), .val (.long a), .second, .val (.long s), .second, .val (.int d), .val (.long (s &&& (9223372036854775807 : Int64))), .second, .val (.long a), .second, .val (.int (0 : Int32))]) rfl k_) ?_
        show Go pg.tables ev below (s₁.setTop (mkF mi 66 #[.val (.int md), .val (.long a), .second, .val (.long s), .second, .val (.int d), .val (.long (s &&& (9223372036854775807 : Int64))), .second, .val (.long a), .second, .val (.int (0 : Int32))] [])) P
        refine Go.st (fun t_ k_ => XS.lload X0.here hx rfl (hb hby at_66) rfl k_) ?_
        show Go pg.tables ev below (s₁.setTop (mkF mi 68 #[.val (.int md), .val (.long a), .second, .val (.long s), .second, .val (.int d), .val (.long (s &&& (9223372036854775807 : Int64))), .second, .val (.long a), .second, .val (.int (0 : Int32))] [(.long a)])) P
        refine Go.st (fun t_ k_ => XS.lload X0.here hx rfl (hb hby at_68) rfl k_) ?_
        show Go pg.tables ev below (s₁.setTop (mkF mi 70 #[.val (.int md), .val (.long a), .second, .val (.long s), .second, .val (.int d), .val (.long (s &&& (9223372036854775807 : Int64))), .second, .val (.long a), .second, .val (.int (0 : Int32))] [(.long (s &&& (9223372036854775807 : Int64))), (.long a)])) P
        obtain ⟨_, _, ⟨T11, L11, k11, n11⟩, -, X11, ⟨Lc11, hQ11, l11, y11, z11⟩, st11⟩ := Jvm.LawKit.callS X0 hx (y := (⟨"com/example/hoarfrost/hoarfrost/SegmentStore", "givesStep", "(JJ)Z"⟩ : MethodName)) hown (mvT hZ (hw _ (List.mem_of_getElem? (i := 1) rfl))) (mvT hZ (hw _ (List.mem_of_getElem? (i := 2) rfl))) (mvT hZ (hw _ (List.mem_of_getElem? (i := 3) rfl))) (mvT hZ (hw _ (List.mem_of_getElem? (i := 4) rfl))) (by decide) (backOf (W := 0) (rmG l Z a0 hw [] a (s &&& (9223372036854775807 : Int64)) h0 n0 Z0) hZ (hw _ (List.mem_of_getElem? (i := 4) rfl)) (hw _ (List.mem_of_getElem? (i := 3) rfl)) (by decide) (by decide)) (g := (mkF mi 70 #[.val (.int md), .val (.long a), .second, .val (.long s), .second, .val (.int d), .val (.long (s &&& (9223372036854775807 : Int64))), .second, .val (.long a), .second, .val (.int (0 : Int32))] [(.long (s &&& (9223372036854775807 : Int64))), (.long a)])) rfl (by rw [hml]; rfl) (argsL := [(.long a), (.long (s &&& (9223372036854775807 : Int64)))]) (rest := []) (lenOf pd_0 rfl) rfl (by show 2 * 0 + _ ≤ _; exact Nat.le_of_eq rfl) (hb hby at_70) (fun _ _ => ⟨rfl, e0, (by decide : 0 + 0 ≤ _), (by decide : 0 + 0 ≤ _)⟩)
        dsimp only [Pt.U, Pt.locs, Pt.cells, Pt.slots] at X11 l11 y11 z11 st11 hQ11
        subst l11 y11 z11
        obtain ⟨rfl, N11q, e11⟩ := hQ11
        have N11 := Fr.app N0 N11q
        refine Go.st st11 ?_
        show Go pg.tables ev below (T11.setTop (mkF mi 73 #[.val (.int md), .val (.long a), .second, .val (.long s), .second, .val (.int d), .val (.long (s &&& (9223372036854775807 : Int64))), .second, .val (.long a), .second, .val (.int (0 : Int32))] [(.int (fG a (s &&& (9223372036854775807 : Int64))))])) P
        refine Go.st (fun t_ k_ => XS.iload X11.here hx rfl (hb hby at_73) rfl k_) ?_
        show Go pg.tables ev below (T11.setTop (mkF mi 75 #[.val (.int md), .val (.long a), .second, .val (.long s), .second, .val (.int d), .val (.long (s &&& (9223372036854775807 : Int64))), .second, .val (.long a), .second, .val (.int (0 : Int32))] [(.int (0 : Int32)), (.int (fG a (s &&& (9223372036854775807 : Int64))))])) P
        have dm12 : ∀ t_, Steps pg.tables ev below (T11.setTop (mkF mi 83 #[.val (.int md), .val (.long a), .second, .val (.long s), .second, .val (.int d), .val (.long (s &&& (9223372036854775807 : Int64))), .second, .val (.long a), .second, .val (.int (0 : Int32))] [(.int (if (fG a (s &&& (9223372036854775807 : Int64))) = (0 : Int32) then (1 : Int32) else (0 : Int32)))])) t_ → Steps pg.tables ev below (T11.setTop (mkF mi 75 #[.val (.int md), .val (.long a), .second, .val (.long s), .second, .val (.int d), .val (.long (s &&& (9223372036854775807 : Int64))), .second, .val (.long a), .second, .val (.int (0 : Int32))] [(.int (0 : Int32)), (.int (fG a (s &&& (9223372036854775807 : Int64))))])) t_ := by
          intro t_ k_
          by_cases hd : (fG a (s &&& (9223372036854775807 : Int64))) = (0 : Int32)
          · refine XS.icmpNo X11.here hx rfl (hb hby at_75) rfl (teq hd).2 ?_
            show Steps pg.tables ev below (T11.setTop (mkF mi 78 #[.val (.int md), .val (.long a), .second, .val (.long s), .second, .val (.int d), .val (.long (s &&& (9223372036854775807 : Int64))), .second, .val (.long a), .second, .val (.int (0 : Int32))] [])) t_
            refine XS.iconst X11.here hx rfl (hb hby at_78) ?_
            show Steps pg.tables ev below (T11.setTop (mkF mi 79 #[.val (.int md), .val (.long a), .second, .val (.long s), .second, .val (.int d), .val (.long (s &&& (9223372036854775807 : Int64))), .second, .val (.long a), .second, .val (.int (0 : Int32))] [(.int (1 : Int32))])) t_
            refine XS.goto X11.here hx rfl (pc0 := 79) (pc' := 83) rfl (hb hby at_79) (by decide) (by decide) ?_
            show Steps pg.tables ev below (T11.setTop (mkF mi 83 #[.val (.int md), .val (.long a), .second, .val (.long s), .second, .val (.int d), .val (.long (s &&& (9223372036854775807 : Int64))), .second, .val (.long a), .second, .val (.int (0 : Int32))] [(.int (1 : Int32))])) t_
            exact own_cst (if_pos hd) k_
          · refine XS.icmpYes X11.here hx rfl (pc0 := 75) (pc' := 82) rfl (hb hby at_75) rfl (feq hd).2 (by decide) (by decide) ?_
            show Steps pg.tables ev below (T11.setTop (mkF mi 82 #[.val (.int md), .val (.long a), .second, .val (.long s), .second, .val (.int d), .val (.long (s &&& (9223372036854775807 : Int64))), .second, .val (.long a), .second, .val (.int (0 : Int32))] [])) t_
            refine XS.iconst X11.here hx rfl (hb hby at_82) ?_
            show Steps pg.tables ev below (T11.setTop (mkF mi 83 #[.val (.int md), .val (.long a), .second, .val (.long s), .second, .val (.int d), .val (.long (s &&& (9223372036854775807 : Int64))), .second, .val (.long a), .second, .val (.int (0 : Int32))] [(.int (0 : Int32))])) t_
            exact own_cst (if_neg hd) k_
        refine Go.st dm12 ?_
        show Go pg.tables ev below (T11.setTop (mkF mi 83 #[.val (.int md), .val (.long a), .second, .val (.long s), .second, .val (.int d), .val (.long (s &&& (9223372036854775807 : Int64))), .second, .val (.long a), .second, .val (.int (0 : Int32))] [(.int (if (fG a (s &&& (9223372036854775807 : Int64))) = (0 : Int32) then (1 : Int32) else (0 : Int32)))])) P
        obtain ⟨fs, hr, hrun, hended, hW, hsame⟩ := X11.leave (v := some (.int (if (fG a (s &&& (9223372036854775807 : Int64))) = (0 : Int32) then (1 : Int32) else (0 : Int32)))) (fun h => by rw [Bd.returns] at h; cases h) (BodyLoose.notSynchronized Bd)
        refine ⟨_, _, ?_, hP _ _ ⟨hrun, hended, _, _, rfl, ?_, ⟨_, rfl⟩, hW, hsame.mono (by decide) (by decide)⟩⟩
        · exact own_retN X11 hx (t := .boolean) Bd.returns (by simp) (own_nb rfl rfl) (hb hby at_83) hr
        · show (some (.int (if (fG a (s &&& (9223372036854775807 : Int64))) = (0 : Int32) then (1 : Int32) else (0 : Int32))) : Option Value) = some (.int 1) ∧ Fr n0 _
          exact ⟨congrArg (fun z => some (Value.int z)) (show (if (fG a (s &&& (9223372036854775807 : Int64))) = (0 : Int32) then (1 : Int32) else (0 : Int32)) = 1 from if_pos (by rw [own_law _ _ (own_step s hc11_1), if_pos hc46_6])), N11⟩
      · refine Go.st (fun t_ k_ => XS.ifNo X0.here hx rfl (hb hby at_46) rfl ((if0 _ _).trans (flt (own_nlt hc46_6)).1) k_) ?_
        show Go pg.tables ev below (s₁.setTop (mkF mi 49 #[.val (.int md), .val (.long a), .second, .val (.long s), .second, .val (.int d), .val (.long (s &&& (9223372036854775807 : Int64))), .second, .val (.long a), .second, .unset] [])) P
        refine Go.st (fun t_ k_ => XS.lload X0.here hx rfl (hb hby at_49) rfl k_) ?_
        show Go pg.tables ev below (s₁.setTop (mkF mi 51 #[.val (.int md), .val (.long a), .second, .val (.long s), .second, .val (.int d), .val (.long (s &&& (9223372036854775807 : Int64))), .second, .val (.long a), .second, .unset] [(.long a)])) P
        refine Go.st (fun t_ k_ => XS.lload X0.here hx rfl (hb hby at_51) rfl k_) ?_
        show Go pg.tables ev below (s₁.setTop (mkF mi 53 #[.val (.int md), .val (.long a), .second, .val (.long s), .second, .val (.int d), .val (.long (s &&& (9223372036854775807 : Int64))), .second, .val (.long a), .second, .unset] [(.long (s &&& (9223372036854775807 : Int64))), (.long a)])) P
        refine Go.st (fun t_ k_ => XS.ladd X0.here hx rfl (hb hby at_53) rfl k_) ?_
        show Go pg.tables ev below (s₁.setTop (mkF mi 54 #[.val (.int md), .val (.long a), .second, .val (.long s), .second, .val (.int d), .val (.long (s &&& (9223372036854775807 : Int64))), .second, .val (.long a), .second, .unset] [(.long (a + (s &&& (9223372036854775807 : Int64))))])) P
        refine Go.st (fun t_ k_ => XS.lconst X0.here hx rfl (hb hby at_54) k_) ?_
        show Go pg.tables ev below (s₁.setTop (mkF mi 55 #[.val (.int md), .val (.long a), .second, .val (.long s), .second, .val (.int d), .val (.long (s &&& (9223372036854775807 : Int64))), .second, .val (.long a), .second, .unset] [(.long (1 : Int64)), (.long (a + (s &&& (9223372036854775807 : Int64))))])) P
        refine Go.st (fun t_ k_ => XS.lcmp X0.here hx rfl (hb hby at_55) rfl k_) ?_
        show Go pg.tables ev below (s₁.setTop (mkF mi 56 #[.val (.int md), .val (.long a), .second, .val (.long s), .second, .val (.int d), .val (.long (s &&& (9223372036854775807 : Int64))), .second, .val (.long a), .second, .unset] [(.int (lcmpW (a + (s &&& (9223372036854775807 : Int64))) (1 : Int64)))])) P
        have dm13 : ∀ t_, Steps pg.tables ev below (s₁.setTop (mkF mi 64 #[.val (.int md), .val (.long a), .second, .val (.long s), .second, .val (.int d), .val (.long (s &&& (9223372036854775807 : Int64))), .second, .val (.long a), .second, .unset] [(.int (if (a + (s &&& (9223372036854775807 : Int64))) < (1 : Int64) then (0 : Int32) else (1 : Int32)))])) t_ → Steps pg.tables ev below (s₁.setTop (mkF mi 56 #[.val (.int md), .val (.long a), .second, .val (.long s), .second, .val (.int d), .val (.long (s &&& (9223372036854775807 : Int64))), .second, .val (.long a), .second, .unset] [(.int (lcmpW (a + (s &&& (9223372036854775807 : Int64))) (1 : Int64)))])) t_ := by
          intro t_ k_
          by_cases hd : (a + (s &&& (9223372036854775807 : Int64))) < (1 : Int64)
          · refine XS.ifYes X0.here hx rfl (pc0 := 56) (pc' := 63) rfl (hb hby at_56) rfl ((if0 _ _).trans (tlt (own_lt hd)).1) (by decide) (by decide) ?_
            show Steps pg.tables ev below (s₁.setTop (mkF mi 63 #[.val (.int md), .val (.long a), .second, .val (.long s), .second, .val (.int d), .val (.long (s &&& (9223372036854775807 : Int64))), .second, .val (.long a), .second, .unset] [])) t_
            refine XS.iconst X0.here hx rfl (hb hby at_63) ?_
            show Steps pg.tables ev below (s₁.setTop (mkF mi 64 #[.val (.int md), .val (.long a), .second, .val (.long s), .second, .val (.int d), .val (.long (s &&& (9223372036854775807 : Int64))), .second, .val (.long a), .second, .unset] [(.int (0 : Int32))])) t_
            exact own_cst (if_pos hd) k_
          · refine XS.ifNo X0.here hx rfl (hb hby at_56) rfl ((if0 _ _).trans (flt (own_nlt hd)).1) ?_
            show Steps pg.tables ev below (s₁.setTop (mkF mi 59 #[.val (.int md), .val (.long a), .second, .val (.long s), .second, .val (.int d), .val (.long (s &&& (9223372036854775807 : Int64))), .second, .val (.long a), .second, .unset] [])) t_
            refine XS.iconst X0.here hx rfl (hb hby at_59) ?_
            show Steps pg.tables ev below (s₁.setTop (mkF mi 60 #[.val (.int md), .val (.long a), .second, .val (.long s), .second, .val (.int d), .val (.long (s &&& (9223372036854775807 : Int64))), .second, .val (.long a), .second, .unset] [(.int (1 : Int32))])) t_
            refine XS.goto X0.here hx rfl (pc0 := 60) (pc' := 64) rfl (hb hby at_60) (by decide) (by decide) ?_
            show Steps pg.tables ev below (s₁.setTop (mkF mi 64 #[.val (.int md), .val (.long a), .second, .val (.long s), .second, .val (.int d), .val (.long (s &&& (9223372036854775807 : Int64))), .second, .val (.long a), .second, .unset] [(.int (1 : Int32))])) t_
            exact own_cst (if_neg hd) k_
        refine Go.st dm13 ?_
        show Go pg.tables ev below (s₁.setTop (mkF mi 64 #[.val (.int md), .val (.long a), .second, .val (.long s), .second, .val (.int d), .val (.long (s &&& (9223372036854775807 : Int64))), .second, .val (.long a), .second, .unset] [(.int (if (a + (s &&& (9223372036854775807 : Int64))) < (1 : Int64) then (0 : Int32) else (1 : Int32)))])) P
        refine Go.st (fun t_ k_ => XS.istore X0.here hx rfl (hb hby at_64) rfl (l' := #[.val (.int md), .val (.long a), .second, .val (.long s), .second, .val (.int d), .val (.long (s &&& (9223372036854775807 : Int64))), .second, .val (.long a), .second, .val (.int (if (a + (s &&& (9223372036854775807 : Int64))) < (1 : Int64) then (0 : Int32) else (1 : Int32)))]) rfl k_) ?_
        show Go pg.tables ev below (s₁.setTop (mkF mi 66 #[.val (.int md), .val (.long a), .second, .val (.long s), .second, .val (.int d), .val (.long (s &&& (9223372036854775807 : Int64))), .second, .val (.long a), .second, .val (.int (if (a + (s &&& (9223372036854775807 : Int64))) < (1 : Int64) then (0 : Int32) else (1 : Int32)))] [])) P
        refine Go.st (fun t_ k_ => XS.lload X0.here hx rfl (hb hby at_66) rfl k_) ?_
        show Go pg.tables ev below (s₁.setTop (mkF mi 68 #[.val (.int md), .val (.long a), .second, .val (.long s), .second, .val (.int d), .val (.long (s &&& (9223372036854775807 : Int64))), .second, .val (.long a), .second, .val (.int (if (a + (s &&& (9223372036854775807 : Int64))) < (1 : Int64) then (0 : Int32) else (1 : Int32)))] [(.long a)])) P
        refine Go.st (fun t_ k_ => XS.lload X0.here hx rfl (hb hby at_68) rfl k_) ?_
        show Go pg.tables ev below (s₁.setTop (mkF mi 70 #[.val (.int md), .val (.long a), .second, .val (.long s), .second, .val (.int d), .val (.long (s &&& (9223372036854775807 : Int64))), .second, .val (.long a), .second, .val (.int (if (a + (s &&& (9223372036854775807 : Int64))) < (1 : Int64) then (0 : Int32) else (1 : Int32)))] [(.long (s &&& (9223372036854775807 : Int64))), (.long a)])) P
        obtain ⟨_, _, ⟨T14, L14, k14, n14⟩, -, X14, ⟨Lc14, hQ14, l14, y14, z14⟩, st14⟩ := Jvm.LawKit.callS X0 hx (y := (⟨"com/example/hoarfrost/hoarfrost/SegmentStore", "givesStep", "(JJ)Z"⟩ : MethodName)) hown (mvT hZ (hw _ (List.mem_of_getElem? (i := 1) rfl))) (mvT hZ (hw _ (List.mem_of_getElem? (i := 2) rfl))) (mvT hZ (hw _ (List.mem_of_getElem? (i := 3) rfl))) (mvT hZ (hw _ (List.mem_of_getElem? (i := 4) rfl))) (by decide) (backOf (W := 0) (rmG l Z a0 hw [] a (s &&& (9223372036854775807 : Int64)) h0 n0 Z0) hZ (hw _ (List.mem_of_getElem? (i := 4) rfl)) (hw _ (List.mem_of_getElem? (i := 3) rfl)) (by decide) (by decide)) (g := (mkF mi 70 #[.val (.int md), .val (.long a), .second, .val (.long s), .second, .val (.int d), .val (.long (s &&& (9223372036854775807 : Int64))), .second, .val (.long a), .second, .val (.int (if (a + (s &&& (9223372036854775807 : Int64))) < (1 : Int64) then (0 : Int32) else (1 : Int32)))] [(.long (s &&& (9223372036854775807 : Int64))), (.long a)])) rfl (by rw [hml]; rfl) (argsL := [(.long a), (.long (s &&& (9223372036854775807 : Int64)))]) (rest := []) (lenOf pd_0 rfl) rfl (by show 2 * 0 + _ ≤ _; exact Nat.le_of_eq rfl) (hb hby at_70) (fun _ _ => ⟨rfl, e0, (by decide : 0 + 0 ≤ _), (by decide : 0 + 0 ≤ _)⟩)
        dsimp only [Pt.U, Pt.locs, Pt.cells, Pt.slots] at X14 l14 y14 z14 st14 hQ14
        subst l14 y14 z14
        obtain ⟨rfl, N14q, e14⟩ := hQ14
        have N14 := Fr.app N0 N14q
        refine Go.st st14 ?_
        show Go pg.tables ev below (T14.setTop (mkF mi 73 #[.val (.int md), .val (.long a), .second, .val (.long s), .second, .val (.int d), .val (.long (s &&& (9223372036854775807 : Int64))), .second, .val (.long a), .second, .val (.int (if (a + (s &&& (9223372036854775807 : Int64))) < (1 : Int64) then (0 : Int32) else (1 : Int32)))] [(.int (fG a (s &&& (9223372036854775807 : Int64))))])) P
        refine Go.st (fun t_ k_ => XS.iload X14.here hx rfl (hb hby at_73) rfl k_) ?_
        show Go pg.tables ev below (T14.setTop (mkF mi 75 #[.val (.int md), .val (.long a), .second, .val (.long s), .second, .val (.int d), .val (.long (s &&& (9223372036854775807 : Int64))), .second, .val (.long a), .second, .val (.int (if (a + (s &&& (9223372036854775807 : Int64))) < (1 : Int64) then (0 : Int32) else (1 : Int32)))] [(.int (if (a + (s &&& (9223372036854775807 : Int64))) < (1 : Int64) then (0 : Int32) else (1 : Int32))), (.int (fG a (s &&& (9223372036854775807 : Int64))))])) P
        have dm15 : ∀ t_, Steps pg.tables ev below (T14.setTop (mkF mi 83 #[.val (.int md), .val (.long a), .second, .val (.long s), .second, .val (.int d), .val (.long (s &&& (9223372036854775807 : Int64))), .second, .val (.long a), .second, .val (.int (if (a + (s &&& (9223372036854775807 : Int64))) < (1 : Int64) then (0 : Int32) else (1 : Int32)))] [(.int (if (fG a (s &&& (9223372036854775807 : Int64))) = (if (a + (s &&& (9223372036854775807 : Int64))) < (1 : Int64) then (0 : Int32) else (1 : Int32)) then (1 : Int32) else (0 : Int32)))])) t_ → Steps pg.tables ev below (T14.setTop (mkF mi 75 #[.val (.int md), .val (.long a), .second, .val (.long s), .second, .val (.int d), .val (.long (s &&& (9223372036854775807 : Int64))), .second, .val (.long a), .second, .val (.int (if (a + (s &&& (9223372036854775807 : Int64))) < (1 : Int64) then (0 : Int32) else (1 : Int32)))] [(.int (if (a + (s &&& (9223372036854775807 : Int64))) < (1 : Int64) then (0 : Int32) else (1 : Int32))), (.int (fG a (s &&& (9223372036854775807 : Int64))))])) t_ := by
          intro t_ k_
          by_cases hd : (fG a (s &&& (9223372036854775807 : Int64))) = (if (a + (s &&& (9223372036854775807 : Int64))) < (1 : Int64) then (0 : Int32) else (1 : Int32))
          · refine XS.icmpNo X14.here hx rfl (hb hby at_75) rfl (teq hd).2 ?_
            show Steps pg.tables ev below (T14.setTop (mkF mi 78 #[.val (.int md), .val (.long a), .second, .val (.long s), .second, .val (.int d), .val (.long (s &&& (9223372036854775807 : Int64))), .second, .val (.long a), .second, .val (.int (if (a + (s &&& (9223372036854775807 : Int64))) < (1 : Int64) then (0 : Int32) else (1 : Int32)))] [])) t_
            refine XS.iconst X14.here hx rfl (hb hby at_78) ?_
            show Steps pg.tables ev below (T14.setTop (mkF mi 79 #[.val (.int md), .val (.long a), .second, .val (.long s), .second, .val (.int d), .val (.long (s &&& (9223372036854775807 : Int64))), .second, .val (.long a), .second, .val (.int (if (a + (s &&& (9223372036854775807 : Int64))) < (1 : Int64) then (0 : Int32) else (1 : Int32)))] [(.int (1 : Int32))])) t_
            refine XS.goto X14.here hx rfl (pc0 := 79) (pc' := 83) rfl (hb hby at_79) (by decide) (by decide) ?_
            show Steps pg.tables ev below (T14.setTop (mkF mi 83 #[.val (.int md), .val (.long a), .second, .val (.long s), .second, .val (.int d), .val (.long (s &&& (9223372036854775807 : Int64))), .second, .val (.long a), .second, .val (.int (if (a + (s &&& (9223372036854775807 : Int64))) < (1 : Int64) then (0 : Int32) else (1 : Int32)))] [(.int (1 : Int32))])) t_
            exact own_cst (if_pos hd) k_
          · refine XS.icmpYes X14.here hx rfl (pc0 := 75) (pc' := 82) rfl (hb hby at_75) rfl (feq hd).2 (by decide) (by decide) ?_
            show Steps pg.tables ev below (T14.setTop (mkF mi 82 #[.val (.int md), .val (.long a), .second, .val (.long s), .second, .val (.int d), .val (.long (s &&& (9223372036854775807 : Int64))), .second, .val (.long a), .second, .val (.int (if (a + (s &&& (9223372036854775807 : Int64))) < (1 : Int64) then (0 : Int32) else (1 : Int32)))] [])) t_
            refine XS.iconst X14.here hx rfl (hb hby at_82) ?_
            show Steps pg.tables ev below (T14.setTop (mkF mi 83 #[.val (.int md), .val (.long a), .second, .val (.long s), .second, .val (.int d), .val (.long (s &&& (9223372036854775807 : Int64))), .second, .val (.long a), .second, .val (.int (if (a + (s &&& (9223372036854775807 : Int64))) < (1 : Int64) then (0 : Int32) else (1 : Int32)))] [(.int (0 : Int32))])) t_
            exact own_cst (if_neg hd) k_
        refine Go.st dm15 ?_
        show Go pg.tables ev below (T14.setTop (mkF mi 83 #[.val (.int md), .val (.long a), .second, .val (.long s), .second, .val (.int d), .val (.long (s &&& (9223372036854775807 : Int64))), .second, .val (.long a), .second, .val (.int (if (a + (s &&& (9223372036854775807 : Int64))) < (1 : Int64) then (0 : Int32) else (1 : Int32)))] [(.int (if (fG a (s &&& (9223372036854775807 : Int64))) = (if (a + (s &&& (9223372036854775807 : Int64))) < (1 : Int64) then (0 : Int32) else (1 : Int32)) then (1 : Int32) else (0 : Int32)))])) P
        obtain ⟨fs, hr, hrun, hended, hW, hsame⟩ := X14.leave (v := some (.int (if (fG a (s &&& (9223372036854775807 : Int64))) = (if (a + (s &&& (9223372036854775807 : Int64))) < (1 : Int64) then (0 : Int32) else (1 : Int32)) then (1 : Int32) else (0 : Int32)))) (fun h => by rw [Bd.returns] at h; cases h) (BodyLoose.notSynchronized Bd)
        refine ⟨_, _, ?_, hP _ _ ⟨hrun, hended, _, _, rfl, ?_, ⟨_, rfl⟩, hW, hsame.mono (by decide) (by decide)⟩⟩
        · exact own_retN X14 hx (t := .boolean) Bd.returns (by simp) (own_nb rfl rfl) (hb hby at_83) hr
        · show (some (.int (if (fG a (s &&& (9223372036854775807 : Int64))) = (if (a + (s &&& (9223372036854775807 : Int64))) < (1 : Int64) then (0 : Int32) else (1 : Int32)) then (1 : Int32) else (0 : Int32))) : Option Value) = some (.int 1) ∧ Fr n0 _
          exact ⟨congrArg (fun z => some (Value.int z)) (show (if (fG a (s &&& (9223372036854775807 : Int64))) = (if (a + (s &&& (9223372036854775807 : Int64))) < (1 : Int64) then (0 : Int32) else (1 : Int32)) then (1 : Int32) else (0 : Int32)) = 1 from if_pos (by rw [own_law _ _ (own_step s hc11_1), if_neg hc46_6])), N14⟩
    · refine Go.st (fun t_ k_ => XS.ifNo X0.here hx rfl (hb hby at_23) rfl ((if0 _ _).trans (feq hc23_5).1) k_) ?_
      show Go pg.tables ev below (s₁.setTop (mkF mi 26 #[.val (.int md), .val (.long a), .second, .val (.long s), .second, .val (.int d), .val (.long (s &&& (9223372036854775807 : Int64))), .second, .val (.long a), .second, .unset] [])) P
      refine Go.st (X0.ldc2Long hx hown (mvT hZ (hw _ (List.mem_of_getElem? (i := 0) rfl))) (g := (mkF mi 26 #[.val (.int md), .val (.long a), .second, .val (.long s), .second, .val (.int d), .val (.long (s &&& (9223372036854775807 : Int64))), .second, .val (.long a), .second, .unset] [])) rfl (hb hby at_26)) ?_
      show Go pg.tables ev below (s₁.setTop (mkF mi 29 #[.val (.int md), .val (.long a), .second, .val (.long s), .second, .val (.int d), .val (.long (s &&& (9223372036854775807 : Int64))), .second, .val (.long a), .second, .unset] [(.long (9223372036854775807 : Int64))])) P
      refine Go.st (fun t_ k_ => XS.lload X0.here hx rfl (hb hby at_29) rfl k_) ?_
      show Go pg.tables ev below (s₁.setTop (mkF mi 31 #[.val (.int md), .val (.long a), .second, .val (.long s), .second, .val (.int d), .val (.long (s &&& (9223372036854775807 : Int64))), .second, .val (.long a), .second, .unset] [(.long (s &&& (9223372036854775807 : Int64))), (.long (9223372036854775807 : Int64))])) P
      refine Go.st (fun t_ k_ => XS.lsub X0.here hx rfl (hb hby at_31) rfl k_) ?_
      show Go pg.tables ev below (s₁.setTop (mkF mi 32 #[.val (.int md), .val (.long a), .second, .val (.long s), .second, .val (.int d), .val (.long (s &&& (9223372036854775807 : Int64))), .second, .val (.long a), .second, .unset] [(.long ((9223372036854775807 : Int64) - (s &&& (9223372036854775807 : Int64))))])) P
      refine Go.st (fun t_ k_ => XS.iload X0.here hx rfl (hb hby at_32) rfl k_) ?_
      show Go pg.tables ev below (s₁.setTop (mkF mi 34 #[.val (.int md), .val (.long a), .second, .val (.long s), .second, .val (.int d), .val (.long (s &&& (9223372036854775807 : Int64))), .second, .val (.long a), .second, .unset] [(.int d), (.long ((9223372036854775807 : Int64) - (s &&& (9223372036854775807 : Int64))))])) P
      refine Go.st (fun t_ k_ => XS.iconst X0.here hx rfl (hb hby at_34) k_) ?_
      show Go pg.tables ev below (s₁.setTop (mkF mi 35 #[.val (.int md), .val (.long a), .second, .val (.long s), .second, .val (.int d), .val (.long (s &&& (9223372036854775807 : Int64))), .second, .val (.long a), .second, .unset] [(.int (3 : Int32)), (.int d), (.long ((9223372036854775807 : Int64) - (s &&& (9223372036854775807 : Int64))))])) P
      refine Go.st (fun t_ k_ => XS.iand X0.here hx rfl (hb hby at_35) rfl k_) ?_
      show Go pg.tables ev below (s₁.setTop (mkF mi 36 #[.val (.int md), .val (.long a), .second, .val (.long s), .second, .val (.int d), .val (.long (s &&& (9223372036854775807 : Int64))), .second, .val (.long a), .second, .unset] [(.int (d &&& (3 : Int32))), (.long ((9223372036854775807 : Int64) - (s &&& (9223372036854775807 : Int64))))])) P
      refine Go.st (fun t_ k_ => XS.iconst X0.here hx rfl (hb hby at_36) k_) ?_
      show Go pg.tables ev below (s₁.setTop (mkF mi 37 #[.val (.int md), .val (.long a), .second, .val (.long s), .second, .val (.int d), .val (.long (s &&& (9223372036854775807 : Int64))), .second, .val (.long a), .second, .unset] [(.int (1 : Int32)), (.int (d &&& (3 : Int32))), (.long ((9223372036854775807 : Int64) - (s &&& (9223372036854775807 : Int64))))])) P
      refine Go.st (fun t_ k_ => XS.isub X0.here hx rfl (hb hby at_37) rfl k_) ?_
      show Go pg.tables ev below (s₁.setTop (mkF mi 38 #[.val (.int md), .val (.long a), .second, .val (.long s), .second, .val (.int d), .val (.long (s &&& (9223372036854775807 : Int64))), .second, .val (.long a), .second, .unset] [(.int ((d &&& (3 : Int32)) - (1 : Int32))), (.long ((9223372036854775807 : Int64) - (s &&& (9223372036854775807 : Int64))))])) P
      refine Go.st (fun t_ k_ => XS.i2l X0.here hx rfl (hb hby at_38) rfl k_) ?_
      show Go pg.tables ev below (s₁.setTop (mkF mi 39 #[.val (.int md), .val (.long a), .second, .val (.long s), .second, .val (.int d), .val (.long (s &&& (9223372036854775807 : Int64))), .second, .val (.long a), .second, .unset] [(.long (((d &&& (3 : Int32)) - (1 : Int32)).toInt64)), (.long ((9223372036854775807 : Int64) - (s &&& (9223372036854775807 : Int64))))])) P
      refine Go.st (fun t_ k_ => XS.ladd X0.here hx rfl (hb hby at_39) rfl k_) ?_
      show Go pg.tables ev below (s₁.setTop (mkF mi 40 #[.val (.int md), .val (.long a), .second, .val (.long s), .second, .val (.int d), .val (.long (s &&& (9223372036854775807 : Int64))), .second, .val (.long a), .second, .unset] [(.long (((9223372036854775807 : Int64) - (s &&& (9223372036854775807 : Int64))) + (((d &&& (3 : Int32)) - (1 : Int32)).toInt64)))])) P
      refine Go.st (fun t_ k_ => XS.lstore X0.here hx rfl (hb hby at_40) rfl (l' := #[.val (.int md), .val (.long a), .second, .val (.long s), .second, .val (.int d), .val (.long (s &&& (9223372036854775807 : Int64))), .second, .val (.long (((9223372036854775807 : Int64) - (s &&& (9223372036854775807 : Int64))) + (((d &&& (3 : Int32)) - (1 : Int32)).toInt64))), .second, .unset]) rfl k_) ?_
      show Go pg.tables ev below (s₁.setTop (mkF mi 42 #[.val (.int md), .val (.long a), .second, .val (.long s), .second, .val (.int d), .val (.long (s &&& (9223372036854775807 : Int64))), .second, .val (.long (((9223372036854775807 : Int64) - (s &&& (9223372036854775807 : Int64))) + (((d &&& (3 : Int32)) - (1 : Int32)).toInt64))), .second, .unset] [])) P
      refine Go.st (fun t_ k_ => XS.lload X0.here hx rfl (hb hby at_42) rfl k_) ?_
      show Go pg.tables ev below (s₁.setTop (mkF mi 44 #[.val (.int md), .val (.long a), .second, .val (.long s), .second, .val (.int d), .val (.long (s &&& (9223372036854775807 : Int64))), .second, .val (.long (((9223372036854775807 : Int64) - (s &&& (9223372036854775807 : Int64))) + (((d &&& (3 : Int32)) - (1 : Int32)).toInt64))), .second, .unset] [(.long (((9223372036854775807 : Int64) - (s &&& (9223372036854775807 : Int64))) + (((d &&& (3 : Int32)) - (1 : Int32)).toInt64)))])) P
      refine Go.st (fun t_ k_ => XS.lconst X0.here hx rfl (hb hby at_44) k_) ?_
      show Go pg.tables ev below (s₁.setTop (mkF mi 45 #[.val (.int md), .val (.long a), .second, .val (.long s), .second, .val (.int d), .val (.long (s &&& (9223372036854775807 : Int64))), .second, .val (.long (((9223372036854775807 : Int64) - (s &&& (9223372036854775807 : Int64))) + (((d &&& (3 : Int32)) - (1 : Int32)).toInt64))), .second, .unset] [(.long (0 : Int64)), (.long (((9223372036854775807 : Int64) - (s &&& (9223372036854775807 : Int64))) + (((d &&& (3 : Int32)) - (1 : Int32)).toInt64)))])) P
      refine Go.st (fun t_ k_ => XS.lcmp X0.here hx rfl (hb hby at_45) rfl k_) ?_
      show Go pg.tables ev below (s₁.setTop (mkF mi 46 #[.val (.int md), .val (.long a), .second, .val (.long s), .second, .val (.int d), .val (.long (s &&& (9223372036854775807 : Int64))), .second, .val (.long (((9223372036854775807 : Int64) - (s &&& (9223372036854775807 : Int64))) + (((d &&& (3 : Int32)) - (1 : Int32)).toInt64))), .second, .unset] [(.int (lcmpW (((9223372036854775807 : Int64) - (s &&& (9223372036854775807 : Int64))) + (((d &&& (3 : Int32)) - (1 : Int32)).toInt64)) (0 : Int64)))])) P
      by_cases hc46_7 : (((9223372036854775807 : Int64) - (s &&& (9223372036854775807 : Int64))) + (((d &&& (3 : Int32)) - (1 : Int32)).toInt64)) < (0 : Int64)
      · refine Go.st (fun t_ k_ => XS.ifYes X0.here hx rfl (pc0 := 46) (pc' := 63) rfl (hb hby at_46) rfl ((if0 _ _).trans (tlt (own_lt hc46_7)).1) (by decide) (by decide) k_) ?_
        show Go pg.tables ev below (s₁.setTop (mkF mi 63 #[.val (.int md), .val (.long a), .second, .val (.long s), .second, .val (.int d), .val (.long (s &&& (9223372036854775807 : Int64))), .second, .val (.long (((9223372036854775807 : Int64) - (s &&& (9223372036854775807 : Int64))) + (((d &&& (3 : Int32)) - (1 : Int32)).toInt64))), .second, .unset] [])) P
        refine Go.st (fun t_ k_ => XS.iconst X0.here hx rfl (hb hby at_63) k_) ?_
        show Go pg.tables ev below (s₁.setTop (mkF mi 64 #[.val (.int md), .val (.long a), .second, .val (.long s), .second, .val (.int d), .val (.long (s &&& (9223372036854775807 : Int64))), .second, .val (.long (((9223372036854775807 : Int64) - (s &&& (9223372036854775807 : Int64))) + (((d &&& (3 : Int32)) - (1 : Int32)).toInt64))), .second, .unset] [(.int (0 : Int32))])) P
        refine Go.st (fun t_ k_ => XS.istore X0.here hx rfl (hb hby at_64) rfl (l' := #[.val (.int md), .val (.long a), .second, .val (.long s), .second, .val (.int d), .val (.long (s &&& (9223372036854775807 : Int64))), .second, .val (.long (((9223372036854775807 : Int64) - (s &&& (9223372036854775807 : Int64))) + (((d &&& (3 : Int32)) - (1 : Int32)).toInt64))), .second, .val (.int (0 : Int32))]) rfl k_) ?_
        show Go pg.tables ev below (s₁.setTop (mkF mi 66 #[.val (.int md), .val (.long a), .second, .val (.long s), .second, .val (.int d), .val (.long (s &&& (9223372036854775807 : Int64))), .second, .val (.long (((9223372036854775807 : Int64) - (s &&& (9223372036854775807 : Int64))) + (((d &&& (3 : Int32)) - (1 : Int32)).toInt64))), .second, .val (.int (0 : Int32))] [])) P
        refine Go.st (fun t_ k_ => XS.lload X0.here hx rfl (hb hby at_66) rfl k_) ?_
        show Go pg.tables ev below (s₁.setTop (mkF mi 68 #[.val (.int md), .val (.long a), .second, .val (.long s), .second, .val (.int d), .val (.long (s &&& (9223372036854775807 : Int64))), .second, .val (.long (((9223372036854775807 : Int64) - (s &&& (9223372036854775807 : Int64))) + (((d &&& (3 : Int32)) - (1 : Int32)).toInt64))), .second, .val (.int (0 : Int32))] [(.long (((9223372036854775807 : Int64) - (s &&& (9223372036854775807 : Int64))) + (((d &&& (3 : Int32)) - (1 : Int32)).toInt64)))])) P
        refine Go.st (fun t_ k_ => XS.lload X0.here hx rfl (hb hby at_68) rfl k_) ?_
        show Go pg.tables ev below (s₁.setTop (mkF mi 70 #[.val (.int md), .val (.long a), .second, .val (.long s), .second, .val (.int d), .val (.long (s &&& (9223372036854775807 : Int64))), .second, .val (.long (((9223372036854775807 : Int64) - (s &&& (9223372036854775807 : Int64))) + (((d &&& (3 : Int32)) - (1 : Int32)).toInt64))), .second, .val (.int (0 : Int32))] [(.long (s &&& (9223372036854775807 : Int64))), (.long (((9223372036854775807 : Int64) - (s &&& (9223372036854775807 : Int64))) + (((d &&& (3 : Int32)) - (1 : Int32)).toInt64)))])) P
        obtain ⟨_, _, ⟨T16, L16, k16, n16⟩, -, X16, ⟨Lc16, hQ16, l16, y16, z16⟩, st16⟩ := Jvm.LawKit.callS X0 hx (y := (⟨"com/example/hoarfrost/hoarfrost/SegmentStore", "givesStep", "(JJ)Z"⟩ : MethodName)) hown (mvT hZ (hw _ (List.mem_of_getElem? (i := 1) rfl))) (mvT hZ (hw _ (List.mem_of_getElem? (i := 2) rfl))) (mvT hZ (hw _ (List.mem_of_getElem? (i := 3) rfl))) (mvT hZ (hw _ (List.mem_of_getElem? (i := 4) rfl))) (by decide) (backOf (W := 0) (rmG l Z a0 hw [] (((9223372036854775807 : Int64) - (s &&& (9223372036854775807 : Int64))) + (((d &&& (3 : Int32)) - (1 : Int32)).toInt64)) (s &&& (9223372036854775807 : Int64)) h0 n0 Z0) hZ (hw _ (List.mem_of_getElem? (i := 4) rfl)) (hw _ (List.mem_of_getElem? (i := 3) rfl)) (by decide) (by decide)) (g := (mkF mi 70 #[.val (.int md), .val (.long a), .second, .val (.long s), .second, .val (.int d), .val (.long (s &&& (9223372036854775807 : Int64))), .second, .val (.long (((9223372036854775807 : Int64) - (s &&& (9223372036854775807 : Int64))) + (((d &&& (3 : Int32)) - (1 : Int32)).toInt64))), .second, .val (.int (0 : Int32))] [(.long (s &&& (9223372036854775807 : Int64))), (.long (((9223372036854775807 : Int64) - (s &&& (9223372036854775807 : Int64))) + (((d &&& (3 : Int32)) - (1 : Int32)).toInt64)))])) rfl (by rw [hml]; rfl) (argsL := [(.long (((9223372036854775807 : Int64) - (s &&& (9223372036854775807 : Int64))) + (((d &&& (3 : Int32)) - (1 : Int32)).toInt64))), (.long (s &&& (9223372036854775807 : Int64)))]) (rest := []) (lenOf pd_0 rfl) rfl (by show 2 * 0 + _ ≤ _; exact Nat.le_of_eq rfl) (hb hby at_70) (fun _ _ => ⟨rfl, e0, (by decide : 0 + 0 ≤ _), (by decide : 0 + 0 ≤ _)⟩)
        dsimp only [Pt.U, Pt.locs, Pt.cells, Pt.slots] at X16 l16 y16 z16 st16 hQ16
        subst l16 y16 z16
        obtain ⟨rfl, N16q, e16⟩ := hQ16
        have N16 := Fr.app N0 N16q
        refine Go.st st16 ?_
        show Go pg.tables ev below (T16.setTop (mkF mi 73 #[.val (.int md), .val (.long a), .second, .val (.long s), .second, .val (.int d), .val (.long (s &&& (9223372036854775807 : Int64))), .second, .val (.long (((9223372036854775807 : Int64) - (s &&& (9223372036854775807 : Int64))) + (((d &&& (3 : Int32)) - (1 : Int32)).toInt64))), .second, .val (.int (0 : Int32))] [(.int (fG (((9223372036854775807 : Int64) - (s &&& (9223372036854775807 : Int64))) + (((d &&& (3 : Int32)) - (1 : Int32)).toInt64)) (s &&& (9223372036854775807 : Int64))))])) P
        refine Go.st (fun t_ k_ => XS.iload X16.here hx rfl (hb hby at_73) rfl k_) ?_
        show Go pg.tables ev below (T16.setTop (mkF mi 75 #[.val (.int md), .val (.long a), .second, .val (.long s), .second, .val (.int d), .val (.long (s &&& (9223372036854775807 : Int64))), .second, .val (.long (((9223372036854775807 : Int64) - (s &&& (9223372036854775807 : Int64))) + (((d &&& (3 : Int32)) - (1 : Int32)).toInt64))), .second, .val (.int (0 : Int32))] [(.int (0 : Int32)), (.int (fG (((9223372036854775807 : Int64) - (s &&& (9223372036854775807 : Int64))) + (((d &&& (3 : Int32)) - (1 : Int32)).toInt64)) (s &&& (9223372036854775807 : Int64))))])) P
        have dm17 : ∀ t_, Steps pg.tables ev below (T16.setTop (mkF mi 83 #[.val (.int md), .val (.long a), .second, .val (.long s), .second, .val (.int d), .val (.long (s &&& (9223372036854775807 : Int64))), .second, .val (.long (((9223372036854775807 : Int64) - (s &&& (9223372036854775807 : Int64))) + (((d &&& (3 : Int32)) - (1 : Int32)).toInt64))), .second, .val (.int (0 : Int32))] [(.int (if (fG (((9223372036854775807 : Int64) - (s &&& (9223372036854775807 : Int64))) + (((d &&& (3 : Int32)) - (1 : Int32)).toInt64)) (s &&& (9223372036854775807 : Int64))) = (0 : Int32) then (1 : Int32) else (0 : Int32)))])) t_ → Steps pg.tables ev below (T16.setTop (mkF mi 75 #[.val (.int md), .val (.long a), .second, .val (.long s), .second, .val (.int d), .val (.long (s &&& (9223372036854775807 : Int64))), .second, .val (.long (((9223372036854775807 : Int64) - (s &&& (9223372036854775807 : Int64))) + (((d &&& (3 : Int32)) - (1 : Int32)).toInt64))), .second, .val (.int (0 : Int32))] [(.int (0 : Int32)), (.int (fG (((9223372036854775807 : Int64) - (s &&& (9223372036854775807 : Int64))) + (((d &&& (3 : Int32)) - (1 : Int32)).toInt64)) (s &&& (9223372036854775807 : Int64))))])) t_ := by
          intro t_ k_
          by_cases hd : (fG (((9223372036854775807 : Int64) - (s &&& (9223372036854775807 : Int64))) + (((d &&& (3 : Int32)) - (1 : Int32)).toInt64)) (s &&& (9223372036854775807 : Int64))) = (0 : Int32)
          · refine XS.icmpNo X16.here hx rfl (hb hby at_75) rfl (teq hd).2 ?_
            show Steps pg.tables ev below (T16.setTop (mkF mi 78 #[.val (.int md), .val (.long a), .second, .val (.long s), .second, .val (.int d), .val (.long (s &&& (9223372036854775807 : Int64))), .second, .val (.long (((9223372036854775807 : Int64) - (s &&& (9223372036854775807 : Int64))) + (((d &&& (3 : Int32)) - (1 : Int32)).toInt64))), .second, .val (.int (0 : Int32))] [])) t_
            refine XS.iconst X16.here hx rfl (hb hby at_78) ?_
            show Steps pg.tables ev below (T16.setTop (mkF mi 79 #[.val (.int md), .val (.long a), .second, .val (.long s), .second, .val (.int d), .val (.long (s &&& (9223372036854775807 : Int64))), .second, .val (.long (((9223372036854775807 : Int64) - (s &&& (9223372036854775807 : Int64))) + (((d &&& (3 : Int32)) - (1 : Int32)).toInt64))), .second, .val (.int (0 : Int32))] [(.int (1 : Int32))])) t_
            refine XS.goto X16.here hx rfl (pc0 := 79) (pc' := 83) rfl (hb hby at_79) (by decide) (by decide) ?_
            show Steps pg.tables ev below (T16.setTop (mkF mi 83 #[.val (.int md), .val (.long a), .second, .val (.long s), .second, .val (.int d), .val (.long (s &&& (9223372036854775807 : Int64))), .second, .val (.long (((9223372036854775807 : Int64) - (s &&& (9223372036854775807 : Int64))) + (((d &&& (3 : Int32)) - (1 : Int32)).toInt64))), .second, .val (.int (0 : Int32))] [(.int (1 : Int32))])) t_
            exact own_cst (if_pos hd) k_
          · refine XS.icmpYes X16.here hx rfl (pc0 := 75) (pc' := 82) rfl (hb hby at_75) rfl (feq hd).2 (by decide) (by decide) ?_
            show Steps pg.tables ev below (T16.setTop (mkF mi 82 #[.val (.int md), .val (.long a), .second, .val (.long s), .second, .val (.int d), .val (.long (s &&& (9223372036854775807 : Int64))), .second, .val (.long (((9223372036854775807 : Int64) - (s &&& (9223372036854775807 : Int64))) + (((d &&& (3 : Int32)) - (1 : Int32)).toInt64))), .second, .val (.int (0 : Int32))] [])) t_
            refine XS.iconst X16.here hx rfl (hb hby at_82) ?_
            show Steps pg.tables ev below (T16.setTop (mkF mi 83 #[.val (.int md), .val (.long a), .second, .val (.long s), .second, .val (.int d), .val (.long (s &&& (9223372036854775807 : Int64))), .second, .val (.long (((9223372036854775807 : Int64) - (s &&& (9223372036854775807 : Int64))) + (((d &&& (3 : Int32)) - (1 : Int32)).toInt64))), .second, .val (.int (0 : Int32))] [(.int (0 : Int32))])) t_
            exact own_cst (if_neg hd) k_
        refine Go.st dm17 ?_
        show Go pg.tables ev below (T16.setTop (mkF mi 83 #[.val (.int md), .val (.long a), .second, .val (.long s), .second, .val (.int d), .val (.long (s &&& (9223372036854775807 : Int64))), .second, .val (.long (((9223372036854775807 : Int64) - (s &&& (9223372036854775807 : Int64))) + (((d &&& (3 : Int32)) - (1 : Int32)).toInt64))), .second, .val (.int (0 : Int32))] [(.int (if (fG (((9223372036854775807 : Int64) - (s &&& (9223372036854775807 : Int64))) + (((d &&& (3 : Int32)) - (1 : Int32)).toInt64)) (s &&& (9223372036854775807 : Int64))) = (0 : Int32) then (1 : Int32) else (0 : Int32)))])) P
        obtain ⟨fs, hr, hrun, hended, hW, hsame⟩ := X16.leave (v := some (.int (if (fG (((9223372036854775807 : Int64) - (s &&& (9223372036854775807 : Int64))) + (((d &&& (3 : Int32)) - (1 : Int32)).toInt64)) (s &&& (9223372036854775807 : Int64))) = (0 : Int32) then (1 : Int32) else (0 : Int32)))) (fun h => by rw [Bd.returns] at h; cases h) (BodyLoose.notSynchronized Bd)
        refine ⟨_, _, ?_, hP _ _ ⟨hrun, hended, _, _, rfl, ?_, ⟨_, rfl⟩, hW, hsame.mono (by decide) (by decide)⟩⟩
        · exact own_retN X16 hx (t := .boolean) Bd.returns (by simp) (own_nb rfl rfl) (hb hby at_83) hr
        · show (some (.int (if (fG (((9223372036854775807 : Int64) - (s &&& (9223372036854775807 : Int64))) + (((d &&& (3 : Int32)) - (1 : Int32)).toInt64)) (s &&& (9223372036854775807 : Int64))) = (0 : Int32) then (1 : Int32) else (0 : Int32))) : Option Value) = some (.int 1) ∧ Fr n0 _
          exact ⟨congrArg (fun z => some (Value.int z)) (show (if (fG (((9223372036854775807 : Int64) - (s &&& (9223372036854775807 : Int64))) + (((d &&& (3 : Int32)) - (1 : Int32)).toInt64)) (s &&& (9223372036854775807 : Int64))) = (0 : Int32) then (1 : Int32) else (0 : Int32)) = 1 from if_pos (by rw [own_law _ _ (own_step s hc11_1), if_pos hc46_7])), N16⟩
      · refine Go.st (fun t_ k_ => XS.ifNo X0.here hx rfl (hb hby at_46) rfl ((if0 _ _).trans (flt (own_nlt hc46_7)).1) k_) ?_
        show Go pg.tables ev below (s₁.setTop (mkF mi 49 #[.val (.int md), .val (.long a), .second, .val (.long s), .second, .val (.int d), .val (.long (s &&& (9223372036854775807 : Int64))), .second, .val (.long (((9223372036854775807 : Int64) - (s &&& (9223372036854775807 : Int64))) + (((d &&& (3 : Int32)) - (1 : Int32)).toInt64))), .second, .unset] [])) P
        refine Go.st (fun t_ k_ => XS.lload X0.here hx rfl (hb hby at_49) rfl k_) ?_
        show Go pg.tables ev below (s₁.setTop (mkF mi 51 #[.val (.int md), .val (.long a), .second, .val (.long s), .second, .val (.int d), .val (.long (s &&& (9223372036854775807 : Int64))), .second, .val (.long (((9223372036854775807 : Int64) - (s &&& (9223372036854775807 : Int64))) + (((d &&& (3 : Int32)) - (1 : Int32)).toInt64))), .second, .unset] [(.long (((9223372036854775807 : Int64) - (s &&& (9223372036854775807 : Int64))) + (((d &&& (3 : Int32)) - (1 : Int32)).toInt64)))])) P
        refine Go.st (fun t_ k_ => XS.lload X0.here hx rfl (hb hby at_51) rfl k_) ?_
        show Go pg.tables ev below (s₁.setTop (mkF mi 53 #[.val (.int md), .val (.long a), .second, .val (.long s), .second, .val (.int d), .val (.long (s &&& (9223372036854775807 : Int64))), .second, .val (.long (((9223372036854775807 : Int64) - (s &&& (9223372036854775807 : Int64))) + (((d &&& (3 : Int32)) - (1 : Int32)).toInt64))), .second, .unset] [(.long (s &&& (9223372036854775807 : Int64))), (.long (((9223372036854775807 : Int64) - (s &&& (9223372036854775807 : Int64))) + (((d &&& (3 : Int32)) - (1 : Int32)).toInt64)))])) P
        refine Go.st (fun t_ k_ => XS.ladd X0.here hx rfl (hb hby at_53) rfl k_) ?_
        show Go pg.tables ev below (s₁.setTop (mkF mi 54 #[.val (.int md), .val (.long a), .second, .val (.long s), .second, .val (.int d), .val (.long (s &&& (9223372036854775807 : Int64))), .second, .val (.long (((9223372036854775807 : Int64) - (s &&& (9223372036854775807 : Int64))) + (((d &&& (3 : Int32)) - (1 : Int32)).toInt64))), .second, .unset] [(.long ((((9223372036854775807 : Int64) - (s &&& (9223372036854775807 : Int64))) + (((d &&& (3 : Int32)) - (1 : Int32)).toInt64)) + (s &&& (9223372036854775807 : Int64))))])) P
        refine Go.st (fun t_ k_ => XS.lconst X0.here hx rfl (hb hby at_54) k_) ?_
        show Go pg.tables ev below (s₁.setTop (mkF mi 55 #[.val (.int md), .val (.long a), .second, .val (.long s), .second, .val (.int d), .val (.long (s &&& (9223372036854775807 : Int64))), .second, .val (.long (((9223372036854775807 : Int64) - (s &&& (9223372036854775807 : Int64))) + (((d &&& (3 : Int32)) - (1 : Int32)).toInt64))), .second, .unset] [(.long (1 : Int64)), (.long ((((9223372036854775807 : Int64) - (s &&& (9223372036854775807 : Int64))) + (((d &&& (3 : Int32)) - (1 : Int32)).toInt64)) + (s &&& (9223372036854775807 : Int64))))])) P
        refine Go.st (fun t_ k_ => XS.lcmp X0.here hx rfl (hb hby at_55) rfl k_) ?_
        show Go pg.tables ev below (s₁.setTop (mkF mi 56 #[.val (.int md), .val (.long a), .second, .val (.long s), .second, .val (.int d), .val (.long (s &&& (9223372036854775807 : Int64))), .second, .val (.long (((9223372036854775807 : Int64) - (s &&& (9223372036854775807 : Int64))) + (((d &&& (3 : Int32)) - (1 : Int32)).toInt64))), .second, .unset] [(.int (lcmpW ((((9223372036854775807 : Int64) - (s &&& (9223372036854775807 : Int64))) + (((d &&& (3 : Int32)) - (1 : Int32)).toInt64)) + (s &&& (9223372036854775807 : Int64))) (1 : Int64)))])) P
        have dm18 : ∀ t_, Steps pg.tables ev below (s₁.setTop (mkF mi 64 #[.val (.int md), .val (.long a), .second, .val (.long s), .second, .val (.int d), .val (.long (s &&& (9223372036854775807 : Int64))), .second, .val (.long (((9223372036854775807 : Int64) - (s &&& (9223372036854775807 : Int64))) + (((d &&& (3 : Int32)) - (1 : Int32)).toInt64))), .second, .unset] [(.int (if ((((9223372036854775807 : Int64) - (s &&& (9223372036854775807 : Int64))) + (((d &&& (3 : Int32)) - (1 : Int32)).toInt64)) + (s &&& (9223372036854775807 : Int64))) < (1 : Int64) then (0 : Int32) else (1 : Int32)))])) t_ → Steps pg.tables ev below (s₁.setTop (mkF mi 56 #[.val (.int md), .val (.long a), .second, .val (.long s), .second, .val (.int d), .val (.long (s &&& (9223372036854775807 : Int64))), .second, .val (.long (((9223372036854775807 : Int64) - (s &&& (9223372036854775807 : Int64))) + (((d &&& (3 : Int32)) - (1 : Int32)).toInt64))), .second, .unset] [(.int (lcmpW ((((9223372036854775807 : Int64) - (s &&& (9223372036854775807 : Int64))) + (((d &&& (3 : Int32)) - (1 : Int32)).toInt64)) + (s &&& (9223372036854775807 : Int64))) (1 : Int64)))])) t_ := by
          intro t_ k_
          by_cases hd : ((((9223372036854775807 : Int64) - (s &&& (9223372036854775807 : Int64))) + (((d &&& (3 : Int32)) - (1 : Int32)).toInt64)) + (s &&& (9223372036854775807 : Int64))) < (1 : Int64)
          · refine XS.ifYes X0.here hx rfl (pc0 := 56) (pc' := 63) rfl (hb hby at_56) rfl ((if0 _ _).trans (tlt (own_lt hd)).1) (by decide) (by decide) ?_
            show Steps pg.tables ev below (s₁.setTop (mkF mi 63 #[.val (.int md), .val (.long a), .second, .val (.long s), .second, .val (.int d), .val (.long (s &&& (9223372036854775807 : Int64))), .second, .val (.long (((9223372036854775807 : Int64) - (s &&& (9223372036854775807 : Int64))) + (((d &&& (3 : Int32)) - (1 : Int32)).toInt64))), .second, .unset] [])) t_
            refine XS.iconst X0.here hx rfl (hb hby at_63) ?_
            show Steps pg.tables ev below (s₁.setTop (mkF mi 64 #[.val (.int md), .val (.long a), .second, .val (.long s), .second, .val (.int d), .val (.long (s &&& (9223372036854775807 : Int64))), .second, .val (.long (((9223372036854775807 : Int64) - (s &&& (9223372036854775807 : Int64))) + (((d &&& (3 : Int32)) - (1 : Int32)).toInt64))), .second, .unset] [(.int (0 : Int32))])) t_
            exact own_cst (if_pos hd) k_
          · refine XS.ifNo X0.here hx rfl (hb hby at_56) rfl ((if0 _ _).trans (flt (own_nlt hd)).1) ?_
            show Steps pg.tables ev below (s₁.setTop (mkF mi 59 #[.val (.int md), .val (.long a), .second, .val (.long s), .second, .val (.int d), .val (.long (s &&& (9223372036854775807 : Int64))), .second, .val (.long (((9223372036854775807 : Int64) - (s &&& (9223372036854775807 : Int64))) + (((d &&& (3 : Int32)) - (1 : Int32)).toInt64))), .second, .unset] [])) t_
            refine XS.iconst X0.here hx rfl (hb hby at_59) ?_
            show Steps pg.tables ev below (s₁.setTop (mkF mi 60 #[.val (.int md), .val (.long a), .second, .val (.long s), .second, .val (.int d), .val (.long (s &&& (9223372036854775807 : Int64))), .second, .val (.long (((9223372036854775807 : Int64) - (s &&& (9223372036854775807 : Int64))) + (((d &&& (3 : Int32)) - (1 : Int32)).toInt64))), .second, .unset] [(.int (1 : Int32))])) t_
            refine XS.goto X0.here hx rfl (pc0 := 60) (pc' := 64) rfl (hb hby at_60) (by decide) (by decide) ?_
            show Steps pg.tables ev below (s₁.setTop (mkF mi 64 #[.val (.int md), .val (.long a), .second, .val (.long s), .second, .val (.int d), .val (.long (s &&& (9223372036854775807 : Int64))), .second, .val (.long (((9223372036854775807 : Int64) - (s &&& (9223372036854775807 : Int64))) + (((d &&& (3 : Int32)) - (1 : Int32)).toInt64))), .second, .unset] [(.int (1 : Int32))])) t_
            exact own_cst (if_neg hd) k_
        refine Go.st dm18 ?_
        show Go pg.tables ev below (s₁.setTop (mkF mi 64 #[.val (.int md), .val (.long a), .second, .val (.long s), .second, .val (.int d), .val (.long (s &&& (9223372036854775807 : Int64))), .second, .val (.long (((9223372036854775807 : Int64) - (s &&& (9223372036854775807 : Int64))) + (((d &&& (3 : Int32)) - (1 : Int32)).toInt64))), .second, .unset] [(.int (if ((((9223372036854775807 : Int64) - (s &&& (9223372036854775807 : Int64))) + (((d &&& (3 : Int32)) - (1 : Int32)).toInt64)) + (s &&& (9223372036854775807 : Int64))) < (1 : Int64) then (0 : Int32) else (1 : Int32)))])) P
        refine Go.st (fun t_ k_ => XS.istore X0.here hx rfl (hb hby at_64) rfl (l' := #[.val (.int md), .val (.long a), .second, .val (.long s), .second, .val (.int d), .val (.long (s &&& (9223372036854775807 : Int64))), .second, .val (.long (((9223372036854775807 : Int64) - (s &&& (9223372036854775807 : Int64))) + (((d &&& (3 : Int32)) - (1 : Int32)).toInt64))), .second, .val (.int (if ((((9223372036854775807 : Int64) - (s &&& (9223372036854775807 : Int64))) + (((d &&& (3 : Int32)) - (1 : Int32)).toInt64)) + (s &&& (9223372036854775807 : Int64))) < (1 : Int64) then (0 : Int32) else (1 : Int32)))]) rfl k_) ?_
        show Go pg.tables ev below (s₁.setTop (mkF mi 66 #[.val (.int md), .val (.long a), .second, .val (.long s), .second, .val (.int d), .val (.long (s &&& (9223372036854775807 : Int64))), .second, .val (.long (((9223372036854775807 : Int64) - (s &&& (9223372036854775807 : Int64))) + (((d &&& (3 : Int32)) - (1 : Int32)).toInt64))), .second, .val (.int (if ((((9223372036854775807 : Int64) - (s &&& (9223372036854775807 : Int64))) + (((d &&& (3 : Int32)) - (1 : Int32)).toInt64)) + (s &&& (9223372036854775807 : Int64))) < (1 : Int64) then (0 : Int32) else (1 : Int32)))] [])) P
        refine Go.st (fun t_ k_ => XS.lload X0.here hx rfl (hb hby at_66) rfl k_) ?_
        show Go pg.tables ev below (s₁.setTop (mkF mi 68 #[.val (.int md), .val (.long a), .second, .val (.long s), .second, .val (.int d), .val (.long (s &&& (9223372036854775807 : Int64))), .second, .val (.long (((9223372036854775807 : Int64) - (s &&& (9223372036854775807 : Int64))) + (((d &&& (3 : Int32)) - (1 : Int32)).toInt64))), .second, .val (.int (if ((((9223372036854775807 : Int64) - (s &&& (9223372036854775807 : Int64))) + (((d &&& (3 : Int32)) - (1 : Int32)).toInt64)) + (s &&& (9223372036854775807 : Int64))) < (1 : Int64) then (0 : Int32) else (1 : Int32)))] [(.long (((9223372036854775807 : Int64) - (s &&& (9223372036854775807 : Int64))) + (((d &&& (3 : Int32)) - (1 : Int32)).toInt64)))])) P
        refine Go.st (fun t_ k_ => XS.lload X0.here hx rfl (hb hby at_68) rfl k_) ?_
        show Go pg.tables ev below (s₁.setTop (mkF mi 70 #[.val (.int md), .val (.long a), .second, .val (.long s), .second, .val (.int d), .val (.long (s &&& (9223372036854775807 : Int64))), .second, .val (.long (((9223372036854775807 : Int64) - (s &&& (9223372036854775807 : Int64))) + (((d &&& (3 : Int32)) - (1 : Int32)).toInt64))), .second, .val (.int (if ((((9223372036854775807 : Int64) - (s &&& (9223372036854775807 : Int64))) + (((d &&& (3 : Int32)) - (1 : Int32)).toInt64)) + (s &&& (9223372036854775807 : Int64))) < (1 : Int64) then (0 : Int32) else (1 : Int32)))] [(.long (s &&& (9223372036854775807 : Int64))), (.long (((9223372036854775807 : Int64) - (s &&& (9223372036854775807 : Int64))) + (((d &&& (3 : Int32)) - (1 : Int32)).toInt64)))])) P
        obtain ⟨_, _, ⟨T19, L19, k19, n19⟩, -, X19, ⟨Lc19, hQ19, l19, y19, z19⟩, st19⟩ := Jvm.LawKit.callS X0 hx (y := (⟨"com/example/hoarfrost/hoarfrost/SegmentStore", "givesStep", "(JJ)Z"⟩ : MethodName)) hown (mvT hZ (hw _ (List.mem_of_getElem? (i := 1) rfl))) (mvT hZ (hw _ (List.mem_of_getElem? (i := 2) rfl))) (mvT hZ (hw _ (List.mem_of_getElem? (i := 3) rfl))) (mvT hZ (hw _ (List.mem_of_getElem? (i := 4) rfl))) (by decide) (backOf (W := 0) (rmG l Z a0 hw [] (((9223372036854775807 : Int64) - (s &&& (9223372036854775807 : Int64))) + (((d &&& (3 : Int32)) - (1 : Int32)).toInt64)) (s &&& (9223372036854775807 : Int64)) h0 n0 Z0) hZ (hw _ (List.mem_of_getElem? (i := 4) rfl)) (hw _ (List.mem_of_getElem? (i := 3) rfl)) (by decide) (by decide)) (g := (mkF mi 70 #[.val (.int md), .val (.long a), .second, .val (.long s), .second, .val (.int d), .val (.long (s &&& (9223372036854775807 : Int64))), .second, .val (.long (((9223372036854775807 : Int64) - (s &&& (9223372036854775807 : Int64))) + (((d &&& (3 : Int32)) - (1 : Int32)).toInt64))), .second, .val (.int (if ((((9223372036854775807 : Int64) - (s &&& (9223372036854775807 : Int64))) + (((d &&& (3 : Int32)) - (1 : Int32)).toInt64)) + (s &&& (9223372036854775807 : Int64))) < (1 : Int64) then (0 : Int32) else (1 : Int32)))] [(.long (s &&& (9223372036854775807 : Int64))), (.long (((9223372036854775807 : Int64) - (s &&& (9223372036854775807 : Int64))) + (((d &&& (3 : Int32)) - (1 : Int32)).toInt64)))])) rfl (by rw [hml]; rfl) (argsL := [(.long (((9223372036854775807 : Int64) - (s &&& (9223372036854775807 : Int64))) + (((d &&& (3 : Int32)) - (1 : Int32)).toInt64))), (.long (s &&& (9223372036854775807 : Int64)))]) (rest := []) (lenOf pd_0 rfl) rfl (by show 2 * 0 + _ ≤ _; exact Nat.le_of_eq rfl) (hb hby at_70) (fun _ _ => ⟨rfl, e0, (by decide : 0 + 0 ≤ _), (by decide : 0 + 0 ≤ _)⟩)
        dsimp only [Pt.U, Pt.locs, Pt.cells, Pt.slots] at X19 l19 y19 z19 st19 hQ19
        subst l19 y19 z19
        obtain ⟨rfl, N19q, e19⟩ := hQ19
        have N19 := Fr.app N0 N19q
        refine Go.st st19 ?_
        show Go pg.tables ev below (T19.setTop (mkF mi 73 #[.val (.int md), .val (.long a), .second, .val (.long s), .second, .val (.int d), .val (.long (s &&& (9223372036854775807 : Int64))), .second, .val (.long (((9223372036854775807 : Int64) - (s &&& (9223372036854775807 : Int64))) + (((d &&& (3 : Int32)) - (1 : Int32)).toInt64))), .second, .val (.int (if ((((9223372036854775807 : Int64) - (s &&& (9223372036854775807 : Int64))) + (((d &&& (3 : Int32)) - (1 : Int32)).toInt64)) + (s &&& (9223372036854775807 : Int64))) < (1 : Int64) then (0 : Int32) else (1 : Int32)))] [(.int (fG (((9223372036854775807 : Int64) - (s &&& (9223372036854775807 : Int64))) + (((d &&& (3 : Int32)) - (1 : Int32)).toInt64)) (s &&& (9223372036854775807 : Int64))))])) P
        refine Go.st (fun t_ k_ => XS.iload X19.here hx rfl (hb hby at_73) rfl k_) ?_
        show Go pg.tables ev below (T19.setTop (mkF mi 75 #[.val (.int md), .val (.long a), .second, .val (.long s), .second, .val (.int d), .val (.long (s &&& (9223372036854775807 : Int64))), .second, .val (.long (((9223372036854775807 : Int64) - (s &&& (9223372036854775807 : Int64))) + (((d &&& (3 : Int32)) - (1 : Int32)).toInt64))), .second, .val (.int (if ((((9223372036854775807 : Int64) - (s &&& (9223372036854775807 : Int64))) + (((d &&& (3 : Int32)) - (1 : Int32)).toInt64)) + (s &&& (9223372036854775807 : Int64))) < (1 : Int64) then (0 : Int32) else (1 : Int32)))] [(.int (if ((((9223372036854775807 : Int64) - (s &&& (9223372036854775807 : Int64))) + (((d &&& (3 : Int32)) - (1 : Int32)).toInt64)) + (s &&& (9223372036854775807 : Int64))) < (1 : Int64) then (0 : Int32) else (1 : Int32))), (.int (fG (((9223372036854775807 : Int64) - (s &&& (9223372036854775807 : Int64))) + (((d &&& (3 : Int32)) - (1 : Int32)).toInt64)) (s &&& (9223372036854775807 : Int64))))])) P
        have dm20 : ∀ t_, Steps pg.tables ev below (T19.setTop (mkF mi 83 #[.val (.int md), .val (.long a), .second, .val (.long s), .second, .val (.int d), .val (.long (s &&& (9223372036854775807 : Int64))), .second, .val (.long (((9223372036854775807 : Int64) - (s &&& (9223372036854775807 : Int64))) + (((d &&& (3 : Int32)) - (1 : Int32)).toInt64))), .second, .val (.int (if ((((9223372036854775807 : Int64) - (s &&& (9223372036854775807 : Int64))) + (((d &&& (3 : Int32)) - (1 : Int32)).toInt64)) + (s &&& (9223372036854775807 : Int64))) < (1 : Int64) then (0 : Int32) else (1 : Int32)))] [(.int (if (fG (((9223372036854775807 : Int64) - (s &&& (9223372036854775807 : Int64))) + (((d &&& (3 : Int32)) - (1 : Int32)).toInt64)) (s &&& (9223372036854775807 : Int64))) = (if ((((9223372036854775807 : Int64) - (s &&& (9223372036854775807 : Int64))) + (((d &&& (3 : Int32)) - (1 : Int32)).toInt64)) + (s &&& (9223372036854775807 : Int64))) < (1 : Int64) then (0 : Int32) else (1 : Int32)) then (1 : Int32) else (0 : Int32)))])) t_ → Steps pg.tables ev below (T19.setTop (mkF mi 75 #[.val (.int md), .val (.long a), .second, .val (.long s), .second, .val (.int d), .val (.long (s &&& (9223372036854775807 : Int64))), .second, .val (.long (((9223372036854775807 : Int64) - (s &&& (9223372036854775807 : Int64))) + (((d &&& (3 : Int32)) - (1 : Int32)).toInt64))), .second, .val (.int (if ((((9223372036854775807 : Int64) - (s &&& (9223372036854775807 : Int64))) + (((d &&& (3 : Int32)) - (1 : Int32)).toInt64)) + (s &&& (9223372036854775807 : Int64))) < (1 : Int64) then (0 : Int32) else (1 : Int32)))] [(.int (if ((((9223372036854775807 : Int64) - (s &&& (9223372036854775807 : Int64))) + (((d &&& (3 : Int32)) - (1 : Int32)).toInt64)) + (s &&& (9223372036854775807 : Int64))) < (1 : Int64) then (0 : Int32) else (1 : Int32))), (.int (fG (((9223372036854775807 : Int64) - (s &&& (9223372036854775807 : Int64))) + (((d &&& (3 : Int32)) - (1 : Int32)).toInt64)) (s &&& (9223372036854775807 : Int64))))])) t_ := by
          intro t_ k_
          by_cases hd : (fG (((9223372036854775807 : Int64) - (s &&& (9223372036854775807 : Int64))) + (((d &&& (3 : Int32)) - (1 : Int32)).toInt64)) (s &&& (9223372036854775807 : Int64))) = (if ((((9223372036854775807 : Int64) - (s &&& (9223372036854775807 : Int64))) + (((d &&& (3 : Int32)) - (1 : Int32)).toInt64)) + (s &&& (9223372036854775807 : Int64))) < (1 : Int64) then (0 : Int32) else (1 : Int32))
          · refine XS.icmpNo X19.here hx rfl (hb hby at_75) rfl (teq hd).2 ?_
            show Steps pg.tables ev below (T19.setTop (mkF mi 78 #[.val (.int md), .val (.long a), .second, .val (.long s), .second, .val (.int d), .val (.long (s &&& (9223372036854775807 : Int64))), .second, .val (.long (((9223372036854775807 : Int64) - (s &&& (9223372036854775807 : Int64))) + (((d &&& (3 : Int32)) - (1 : Int32)).toInt64))), .second, .val (.int (if ((((9223372036854775807 : Int64) - (s &&& (9223372036854775807 : Int64))) + (((d &&& (3 : Int32)) - (1 : Int32)).toInt64)) + (s &&& (9223372036854775807 : Int64))) < (1 : Int64) then (0 : Int32) else (1 : Int32)))] [])) t_
            refine XS.iconst X19.here hx rfl (hb hby at_78) ?_
            show Steps pg.tables ev below (T19.setTop (mkF mi 79 #[.val (.int md), .val (.long a), .second, .val (.long s), .second, .val (.int d), .val (.long (s &&& (9223372036854775807 : Int64))), .second, .val (.long (((9223372036854775807 : Int64) - (s &&& (9223372036854775807 : Int64))) + (((d &&& (3 : Int32)) - (1 : Int32)).toInt64))), .second, .val (.int (if ((((9223372036854775807 : Int64) - (s &&& (9223372036854775807 : Int64))) + (((d &&& (3 : Int32)) - (1 : Int32)).toInt64)) + (s &&& (9223372036854775807 : Int64))) < (1 : Int64) then (0 : Int32) else (1 : Int32)))] [(.int (1 : Int32))])) t_
            refine XS.goto X19.here hx rfl (pc0 := 79) (pc' := 83) rfl (hb hby at_79) (by decide) (by decide) ?_
            show Steps pg.tables ev below (T19.setTop (mkF mi 83 #[.val (.int md), .val (.long a), .second, .val (.long s), .second, .val (.int d), .val (.long (s &&& (9223372036854775807 : Int64))), .second, .val (.long (((9223372036854775807 : Int64) - (s &&& (9223372036854775807 : Int64))) + (((d &&& (3 : Int32)) - (1 : Int32)).toInt64))), .second, .val (.int (if ((((9223372036854775807 : Int64) - (s &&& (9223372036854775807 : Int64))) + (((d &&& (3 : Int32)) - (1 : Int32)).toInt64)) + (s &&& (9223372036854775807 : Int64))) < (1 : Int64) then (0 : Int32) else (1 : Int32)))] [(.int (1 : Int32))])) t_
            exact own_cst (if_pos hd) k_
          · refine XS.icmpYes X19.here hx rfl (pc0 := 75) (pc' := 82) rfl (hb hby at_75) rfl (feq hd).2 (by decide) (by decide) ?_
            show Steps pg.tables ev below (T19.setTop (mkF mi 82 #[.val (.int md), .val (.long a), .second, .val (.long s), .second, .val (.int d), .val (.long (s &&& (9223372036854775807 : Int64))), .second, .val (.long (((9223372036854775807 : Int64) - (s &&& (9223372036854775807 : Int64))) + (((d &&& (3 : Int32)) - (1 : Int32)).toInt64))), .second, .val (.int (if ((((9223372036854775807 : Int64) - (s &&& (9223372036854775807 : Int64))) + (((d &&& (3 : Int32)) - (1 : Int32)).toInt64)) + (s &&& (9223372036854775807 : Int64))) < (1 : Int64) then (0 : Int32) else (1 : Int32)))] [])) t_
            refine XS.iconst X19.here hx rfl (hb hby at_82) ?_
            show Steps pg.tables ev below (T19.setTop (mkF mi 83 #[.val (.int md), .val (.long a), .second, .val (.long s), .second, .val (.int d), .val (.long (s &&& (9223372036854775807 : Int64))), .second, .val (.long (((9223372036854775807 : Int64) - (s &&& (9223372036854775807 : Int64))) + (((d &&& (3 : Int32)) - (1 : Int32)).toInt64))), .second, .val (.int (if ((((9223372036854775807 : Int64) - (s &&& (9223372036854775807 : Int64))) + (((d &&& (3 : Int32)) - (1 : Int32)).toInt64)) + (s &&& (9223372036854775807 : Int64))) < (1 : Int64) then (0 : Int32) else (1 : Int32)))] [(.int (0 : Int32))])) t_
            exact own_cst (if_neg hd) k_
        refine Go.st dm20 ?_
        show Go pg.tables ev below (T19.setTop (mkF mi 83 #[.val (.int md), .val (.long a), .second, .val (.long s), .second, .val (.int d), .val (.long (s &&& (9223372036854775807 : Int64))), .second, .val (.long (((9223372036854775807 : Int64) - (s &&& (9223372036854775807 : Int64))) + (((d &&& (3 : Int32)) - (1 : Int32)).toInt64))), .second, .val (.int (if ((((9223372036854775807 : Int64) - (s &&& (9223372036854775807 : Int64))) + (((d &&& (3 : Int32)) - (1 : Int32)).toInt64)) + (s &&& (9223372036854775807 : Int64))) < (1 : Int64) then (0 : Int32) else (1 : Int32)))] [(.int (if (fG (((9223372036854775807 : Int64) - (s &&& (9223372036854775807 : Int64))) + (((d &&& (3 : Int32)) - (1 : Int32)).toInt64)) (s &&& (9223372036854775807 : Int64))) = (if ((((9223372036854775807 : Int64) - (s &&& (9223372036854775807 : Int64))) + (((d &&& (3 : Int32)) - (1 : Int32)).toInt64)) + (s &&& (9223372036854775807 : Int64))) < (1 : Int64) then (0 : Int32) else (1 : Int32)) then (1 : Int32) else (0 : Int32)))])) P
        obtain ⟨fs, hr, hrun, hended, hW, hsame⟩ := X19.leave (v := some (.int (if (fG (((9223372036854775807 : Int64) - (s &&& (9223372036854775807 : Int64))) + (((d &&& (3 : Int32)) - (1 : Int32)).toInt64)) (s &&& (9223372036854775807 : Int64))) = (if ((((9223372036854775807 : Int64) - (s &&& (9223372036854775807 : Int64))) + (((d &&& (3 : Int32)) - (1 : Int32)).toInt64)) + (s &&& (9223372036854775807 : Int64))) < (1 : Int64) then (0 : Int32) else (1 : Int32)) then (1 : Int32) else (0 : Int32)))) (fun h => by rw [Bd.returns] at h; cases h) (BodyLoose.notSynchronized Bd)
        refine ⟨_, _, ?_, hP _ _ ⟨hrun, hended, _, _, rfl, ?_, ⟨_, rfl⟩, hW, hsame.mono (by decide) (by decide)⟩⟩
        · exact own_retN X19 hx (t := .boolean) Bd.returns (by simp) (own_nb rfl rfl) (hb hby at_83) hr
        · show (some (.int (if (fG (((9223372036854775807 : Int64) - (s &&& (9223372036854775807 : Int64))) + (((d &&& (3 : Int32)) - (1 : Int32)).toInt64)) (s &&& (9223372036854775807 : Int64))) = (if ((((9223372036854775807 : Int64) - (s &&& (9223372036854775807 : Int64))) + (((d &&& (3 : Int32)) - (1 : Int32)).toInt64)) + (s &&& (9223372036854775807 : Int64))) < (1 : Int64) then (0 : Int32) else (1 : Int32)) then (1 : Int32) else (0 : Int32))) : Option Value) = some (.int 1) ∧ Fr n0 _
          exact ⟨congrArg (fun z => some (Value.int z)) (show (if (fG (((9223372036854775807 : Int64) - (s &&& (9223372036854775807 : Int64))) + (((d &&& (3 : Int32)) - (1 : Int32)).toInt64)) (s &&& (9223372036854775807 : Int64))) = (if ((((9223372036854775807 : Int64) - (s &&& (9223372036854775807 : Int64))) + (((d &&& (3 : Int32)) - (1 : Int32)).toInt64)) + (s &&& (9223372036854775807 : Int64))) < (1 : Int64) then (0 : Int32) else (1 : Int32)) then (1 : Int32) else (0 : Int32)) = 1 from if_pos (by rw [own_law _ _ (own_step s hc11_1), if_neg hc46_7])), N19⟩
set_option maxRecDepth 65536 in
set_option maxHeartbeats 40000000 in
theorem comes_1 {Post : Tables → Env → Array Value → State → Outcome → State → Prop} (hpost : ∀ tb e args s v u, (limb_1_1.after args s (.returned v) u = true ∧ limb_1_2.after args s (.returned v) u = true ∧ True) → FrameEnd s (.returned v) u (Jvm.fieldLocs frame_1_writes args s ++ Jvm.arrayLocs frame_1_arrays args s ++ Jvm.staticLocs frame_1_statics s) 0 0 → Post tb e args s (.returned v) u) :
    ArmFor flags0 classFile x code maxLocals ret World_1 tables_1 room_1 Calls_1 rest_1 Pre_1 Post := by
  intro l hfl _ _ p e ha hc hk s m args below hf hA hF happ hP
  obtain ⟨hcalls, hrest, hpre⟩ := hP
  obtain ⟨-, -, -, hnamed, -, -, -, hat⟩ := (Spec.applies_iff hf).mp happ
  obtain ⟨hg, hn⟩ := and_e (Cond.before_iff.mp (show (Jvm.Cond.and given_1 narrow_1).before args s = true from hpre))
  obtain ⟨g1, g2⟩ := and_e hg
  obtain ⟨g3, g4⟩ := and_e g2
  obtain ⟨g5, g6⟩ := and_e g4
  obtain ⟨g7, g8⟩ := and_e g6
  obtain ⟨w0, w1, w2, w3, rfl⟩ : ∃ w0 w1 w2 w3 : Value, args = #[w0, w1, w2, w3] := by
    have hs : args.size = 4 := by simpa [Cond.value, given_1] using g1
    obtain ⟨L⟩ := args
    match L, hs with
    | [w0, w1, w2, w3], _ => exact ⟨w0, w1, w2, w3, rfl⟩
  have hw := fun d (hd : d ∈ tables_1) => atoms_spec (ws := Jvm.Cond.code x code maxLocals ret :: tables_1) hat d (List.mem_cons_of_mem _ hd)
  have hfit : Fit s := fun {y c} hc i hi => by
    obtain ⟨ha, rfl⟩ := Array.getElem?_eq_some_iff.mp hc
    have q := List.all_eq_true.mp ((Array.all_eq_true_iff_forall_mem.mp hF) _ (Array.getElem_mem ha)) i (List.mem_range.mpr hi)
    simpa [Array.getElem?_eq_getElem hi] using q
  obtain ⟨i0, ei0⟩ := is_v g3
  obtain rfl : w0 = (.int i0) := Option.some.inj ei0
  obtain ⟨i1, ei1⟩ := isL_v g5
  obtain rfl : w1 = (.long i1) := Option.some.inj ei1
  obtain ⟨i2, ei2⟩ := isL_v g7
  obtain rfl : w2 = (.long i2) := Option.some.inj ei2
  obtain ⟨i3, ei3⟩ := is_v g8
  obtain rfl : w3 = (.int i3) := Option.some.inj ei3
  obtain ⟨n, o, h1, h2, h3, _, L, rfl, ⟨rfl, N⟩, hq⟩ := rm0 l s _ hw tables_1 i0 i1 i2 i3  s.heap s.heap.size (Nat.le_refl _)  p e ha hc hk s m _ below hf ((Spec.applies_iff_loose hf).mp happ).1 ⟨rfl, State.Warmed39.refl s, rfl⟩ trivial
  refine ⟨n, _, h1, h2, h3, hpost _ _ _ _ _ _ ⟨Cond.after_iff.mpr rfl, Cond.after_iff.mpr (eq_i res_at (Term.int_eval (1)) rfl), trivial⟩ ⟨hq.1, hq.2.1, (hq.2.2.sift fun y hy => Or.inr (N y hy)).mono (by decide) (by decide)⟩⟩
theorem main_1_1 : Claimed_1_1 := comes_1 fun _ _ _ _ _ _ h hF => ⟨h.1, hF⟩
theorem main_1_2 : Claimed_1_2 := comes_1 fun _ _ _ _ _ _ h hF => ⟨h.2.1, hF⟩
end Jvm.Pilot.@@N@@
namespace Jvm.Pilot.@@N@@
open Jvm Jvm.ClassFile Sem Op Lib Jvm.Free Jvm.Stand Jvm.Pilot.@@N@@.Jvm.D
/-! MADE BY PROGRAM (witnessworld.py) out of the Statement's table words and the real class files: 9 classes; the members and pool entries that the words name. The judged class is class 1, her method 1. -/
namespace start1
open Jvm.ClassFile
def u (s : String) : CpInfo := .utf8 (stringToUtf16 s)
/-- a pool by its gaps: so many unusable entries, then the entry; so many at the end -/
def gap : Nat → List CpInfo → List CpInfo
  | 0, r => r
  | n + 1, r => .unusable :: gap n r
def poolList (es : List (Nat × CpInfo)) (last : Nat) : List CpInfo := es.foldr (fun e r => gap e.1 (e.2 :: r)) (gap last [])
def pool (es : List (Nat × CpInfo)) (last : Nat) : Array CpInfo := ⟨poolList es last⟩
def fileOf (pool : Array CpInfo) (this : Nat) (attrs : Array Attribute := #[]) (ms : Array MethodInfo := #[]) (fl : Nat := 33) (sup : Nat := 0) (ifs : Array Nat := #[]) (fds : Array FieldInfo := #[]) : ClassFile where
  minorVersion := 0
  majorVersion := 65
  constantPool := pool
  accessFlags := fl
  thisClass := this
  superClass := sup
  interfaces := ifs
  fields := fds
  methods := ms
  attributes := attrs
def plain (name : String) (sup : Option ClassId) : Class where
  name := name
  kind := .ordinary
  loader := none
  accessFlags := 33
  super := sup
  interfaces := #[]
  cf := none
  fields := #[]
  methods := #[]
  instanceTypes := #[]
  staticTypes := #[]
  resolved := #[]
  callSites := []
  init := .initialized
  statics := none
  mirror := none

def pool0 : Array CpInfo := pool [(5, u "<init>"), (0, u "()V"), (1, .class_ 10), (1, u "java/lang/Object")] 113

def k0m0 : Method := { name := "<init>", desc := "()V", sig := { parameters := [], returnType := none }, accessFlags := 1, code := none }
/-- java/lang/Object -/
def k0 : Class := { plain "java/lang/Object" none with
  accessFlags := 33
  interfaces := #[]
  cf := some (fileOf pool0 8 #[] #[{ accessFlags := 1, nameIndex := 5, descriptorIndex := 6, attributes := #[] }] 33 0 #[] #[])
  fields := #[]
  methods := #[k0m0]
  instanceTypes := #[]
  staticTypes := #[]
  resolved := Array.replicate 124 none
  statics := none }

def pool1 : Array CpInfo := pool [(2, .class_ 4), (1, u "java/lang/Object"), (0, u "<init>"), (0, u "()V"), (2, .long 9223372036854775807), (1, .methodref 12 13), (0, .class_ 14), (0, .nameAndType 15 16), (0, u "com/example/hoarfrost/hoarfrost/SegmentStore"), (0, u "givesStep"), (0, u "(JJ)Z"), (0, .class_ 18), (0, u "com/example/hoarfrost/hoarfrost/SegmentStoreGivesStepPinLaw"), (2, u "law"), (0, u "(IJJI)Z")] 3

def k1m0 : Method := { name := "<init>", desc := "()V", sig := { parameters := [], returnType := none }, accessFlags := 2, code := none }
def k1c1 : Code := { maxStack := 4, maxLocals := 11, code := code, exceptionTable := #[], attributes := #[] }
def k1m1 : Method := { name := "law", desc := "(IJJI)Z", sig := { parameters := [.int, .long, .long, .int], returnType := some .boolean }, accessFlags := 9, code := some k1c1 }
/-- com/example/hoarfrost/hoarfrost/SegmentStoreGivesStepPinLaw -/
def k1 : Class := { plain "com/example/hoarfrost/hoarfrost/SegmentStoreGivesStepPinLaw" (some 0) with
  accessFlags := 49
  interfaces := #[]
  cf := some (fileOf pool1 17 #[] #[{ accessFlags := 2, nameIndex := 5, descriptorIndex := 6, attributes := #[] }, { accessFlags := 9, nameIndex := 21, descriptorIndex := 22, attributes := #[] }] 49 2 #[] #[])
  fields := #[]
  methods := #[k1m0, k1m1]
  instanceTypes := #[]
  staticTypes := #[]
  resolved := Array.replicate 26 none
  statics := none }

def pool2 : Array CpInfo := pool [(2, .class_ 4), (1, u "java/lang/Object"), (0, u "<init>"), (0, u "()V"), (1, .class_ 10), (1, u "com/example/hoarfrost/hoarfrost/SegmentStore"), (26, .long 9223372036854775807), (12, u "MAX_NAME"), (0, u "I"), (10, u "givesStep"), (0, u "(JJ)Z")] 32

def k2m0 : Method := { name := "<init>", desc := "()V", sig := { parameters := [], returnType := none }, accessFlags := 0, code := none }
def k2c1 : Code := { maxStack := 6, maxLocals := 4, code := prog_25_method_7_code, exceptionTable := #[], attributes := #[] }
def k2m1 : Method := { name := "givesStep", desc := "(JJ)Z", sig := { parameters := [.long, .long], returnType := some .boolean }, accessFlags := 8, code := some k2c1 }
/-- com/example/hoarfrost/hoarfrost/SegmentStore -/
def k2 : Class := { plain "com/example/hoarfrost/hoarfrost/SegmentStore" (some 0) with
  accessFlags := 1057
  interfaces := #[]
  cf := some (fileOf pool2 8 #[] #[{ accessFlags := 0, nameIndex := 5, descriptorIndex := 6, attributes := #[] }, { accessFlags := 8, nameIndex := 62, descriptorIndex := 63, attributes := #[] }] 1057 2 #[] #[{ accessFlags := 24, nameIndex := 50, descriptorIndex := 51, attributes := #[] }])
  fields := #[{ name := "MAX_NAME", type := .int, accessFlags := 24, slot := 0, constantValue := 0 }]
  methods := #[k2m0, k2m1]
  instanceTypes := #[]
  staticTypes := #[.int]
  resolved := Array.replicate 96 none
  statics := none }

def pool3 : Array CpInfo := pool [(1, u "java/lang/Cloneable"), (0, .class_ 1), (0, u "java/lang/Object"), (0, .class_ 3)] 3

/-- java/lang/Cloneable -/
def k3 : Class := { plain "java/lang/Cloneable" (some 0) with
  accessFlags := 1537
  interfaces := #[]
  cf := some (fileOf pool3 2 #[] #[] 1537 4 #[] #[])
  fields := #[]
  methods := #[]
  instanceTypes := #[]
  staticTypes := #[]
  resolved := Array.replicate 8 none
  statics := none }

def pool4 : Array CpInfo := pool [(1, u "java/io/Serializable"), (0, .class_ 1), (0, u "java/lang/Object"), (0, .class_ 3)] 3

/-- java/io/Serializable -/
def k4 : Class := { plain "java/io/Serializable" (some 0) with
  accessFlags := 1537
  interfaces := #[]
  cf := some (fileOf pool4 2 #[] #[] 1537 4 #[] #[])
  fields := #[]
  methods := #[]
  instanceTypes := #[]
  staticTypes := #[]
  resolved := Array.replicate 8 none
  statics := none }

/-- the primitive byte -/
def k5 : Class := { plain "byte" none with kind := .primitive 'B', accessFlags := 0x411 }
/-- [B -/
def k6 : Class := { plain "[B" (some 0) with kind := .array 5 .byte, interfaces := #[3, 4], accessFlags := 1041 }

/-- the primitive int -/
def k7 : Class := { plain "int" none with kind := .primitive 'I', accessFlags := 0x411 }
/-- [I -/
def k8 : Class := { plain "[I" (some 0) with kind := .array 7 .int, interfaces := #[3, 4], accessFlags := 1041 }

def heap : Heap := #[]
def classes : Array Class := #[k0, k1, k2, k3, k4, k5, k6, k7, k8]
def interned : List (Array UInt16 × Addr) := []
def slotsUsed : Nat := 0
def theMethod : MethodId := ⟨1, 1⟩
def args0 : Array Value := #[.int 1, .long 5, .long 3, .int 2]
def aboutOver (below : List Frame) : State where
  vm := { classes := classes, interned := interned.toArray }
  heap := heap
  slotsUsed := slotsUsed
  threads := #[{ frames := .invoking theMethod args0 :: below }]
def below0 : List Frame := [.native { method := ⟨0, 0⟩, args := #[] }]
def about1 : State := aboutOver below0
def p0 : Program := .bare "" "" ""
def e0 : Env := launch0.env 0 0 0
theorem w_frames : about1.frames = Frame.invoking theMethod args0 :: below0 := rfl
set_option maxRecDepth 65536 in
theorem w_args : argsFit about1.vm theMethod args0 = true := by decide +kernel
set_option maxRecDepth 65536 in
theorem w_heap : heapFits about1 = true := by decide +kernel
set_option maxRecDepth 65536 in
theorem w_runnable : about1.curStatus? = some .runnable := by decide +kernel
set_option maxRecDepth 65536 in
theorem w_alone : about1.alone = true := by decide +kernel
set_option maxRecDepth 65536 in
theorem w_named : about1.methodNamed? x = some theMethod := by decide +kernel
set_option maxRecDepth 65536 in
theorem w_hears : about1.hears theMethod below0 = true := by decide +kernel
set_option maxRecDepth 65536 in
theorem w_ripe : about1.ripe theMethod args0 below0 = true := by decide +kernel
theorem w_running : about1.status = .running := rfl
set_option maxRecDepth 65536 in
theorem w_room : about1.hasRoom e0.platform room_1 = true :=
  launch0.hasRoom_least _ room_1 (by decide +kernel) (by decide +kernel) (by decide +kernel) (by decide +kernel) (by decide +kernel) (by decide +kernel)
theorem allAtoms_all (ts : List Jvm.Cond) (a : Array Jvm.Value) (st : Jvm.State) : (allAtoms ts).before a st = ts.all (fun c => c.before a st) := by
  induction ts with
  | nil => rfl
  | cons c t ih =>
    show (Jvm.Cond.and c (allAtoms t)).before a st = _
    rw [Jvm.Cond.before_and, ih, List.all_cons]
def words1 : List Jvm.Cond := Jvm.Cond.code x code maxLocals ret :: tables_1
/-- a 'code' word, met by the world's own term for the bytes: nothing is compared byte by byte -/
theorem code_word {y : MethodName} {bytes : ByteArray} {mx : Nat} {rt : Option FieldType} {a : Array Value} {s : State} {m : MethodId} {meth : Method} {c : Code} (h1 : s.methodNamed? y = some m) (h2 : s.vm.method? m = some meth) (h3 : meth.code = some c) (h4 : c.code = bytes)
    (h5 : (c.maxLocals == mx && c.exceptionTable.isEmpty && decide (c.maxStack ≤ mostOperands) && decide (meth.sig.returnType = rt) && !meth.locks && decide (parseMethodDescriptor y.desc = some meth.sig)) = true) : (Jvm.Cond.code y bytes mx rt).before a s = true := by
  simp only [Bool.and_eq_true, beq_iff_eq, Bool.not_eq_true', decide_eq_true_eq] at h5
  obtain ⟨⟨⟨⟨⟨g1, g2⟩, g3⟩, g4⟩, g5⟩, g6⟩ := h5
  simp [Cond.before, Cond.holds, Cond.value, h1, h2, h3, h4, g1, g2, g3, g4, g5, g6]
def isCode : Jvm.Cond → Bool
  | .code _ _ _ _ => true
  | _ => false
theorem all_split {L : List Jvm.Cond} {P : Jvm.Cond → Bool} (h1 : L.all (fun c => isCode c || P c) = true) (h2 : ∀ c ∈ L.filter isCode, P c = true) : L.all P = true := by
  refine List.all_eq_true.mpr fun c hc => ?_
  have h := List.all_eq_true.mp h1 c hc
  rcases Bool.eq_false_or_eq_true (isCode c) with hi | hi
  · exact h2 c (List.mem_filter.mpr ⟨hc, hi⟩)
  · simpa [hi] using h
set_option maxRecDepth 65536 in
theorem w_c0 : (Jvm.Cond.code x code maxLocals ret).before args0 about1 = true := code_word (m := ⟨1, 1⟩) (meth := k1m1) (c := k1c1) (by decide +kernel) rfl rfl rfl (by decide +kernel)
set_option maxRecDepth 65536 in
theorem w_c1 : (Jvm.Cond.code ({ cls := "com/example/hoarfrost/hoarfrost/SegmentStore", name := "givesStep", desc := "(JJ)Z" } : Jvm.MethodName) prog_25_method_7_code (4 : Nat) (Option.some Jvm.ClassFile.FieldType.boolean)).before args0 about1 = true := code_word (m := ⟨2, 1⟩) (meth := k2m1) (c := k2c1) (by decide +kernel) rfl rfl rfl (by decide +kernel)
def codes1 : List Jvm.Cond := [Jvm.Cond.code x code maxLocals ret, Jvm.Cond.code ({ cls := "com/example/hoarfrost/hoarfrost/SegmentStore", name := "givesStep", desc := "(JJ)Z" } : Jvm.MethodName) prog_25_method_7_code (4 : Nat) (Option.some Jvm.ClassFile.FieldType.boolean)]
set_option maxRecDepth 65536 in
theorem codes_eq : words1.filter isCode = codes1 := rfl
theorem w_codes : ∀ c ∈ words1.filter isCode, c.before args0 about1 = true := by
  rw [codes_eq]
  intro c hc
  simp only [codes1, List.mem_cons, List.not_mem_nil, or_false] at hc
  rcases hc with rfl | rfl
  · exact w_c0
  · exact w_c1
set_option maxRecDepth 65536 in
theorem w_t1 : words1.all (fun c => isCode c || c.before args0 about1) = true := by decide +kernel
theorem w_tables : (allAtoms (Jvm.Cond.code x code maxLocals ret :: tables_1)).before args0 about1 = true := by
  rw [allAtoms_all]
  show words1.all (fun c => c.before args0 about1) = true
  refine all_split ?_ w_codes
  rw [w_t1]
set_option maxRecDepth 65536 in
theorem w_case : (Jvm.Cond.and given_1 narrow_1).before args0 about1 = true := by decide +kernel
theorem w_applies : (headSpec (Jvm.Cond.code x code maxLocals ret :: tables_1) room_1).applies x e0.platform about1 = true :=
  (Spec.applies_iff w_frames).mpr ⟨w_running, w_runnable, w_alone, w_named, w_hears, w_ripe, w_room, w_tables⟩
theorem atStart : AtStart classFile x code maxLocals ret World_1 tables_1 room_1 Calls_1 rest_1 Pre_1 launch0 p0 e0 about1 theMethod args0 below0 :=
  ⟨lists_1, trivial, launch0.admits_env _ _ _, launch0.least_env, fairChoices_fair.cas, fairChoices_fair.clock, w_frames, w_args, w_heap, w_applies, trivial, trivial, w_case⟩
end start1
theorem witness_1 : WitnessClaimed_1 := ⟨start1.p0, start1.e0, start1.about1, start1.theMethod, start1.args0, start1.below0, start1.atStart⟩
end Jvm.Pilot.@@N@@
