import JvmDerived
import JvmDerived.Pilot.@@N@@Statement
import JvmDerived.Pilot.@@N@@Code
set_option linter.unusedVariables false
set_option linter.unusedSimpArgs false
namespace Jvm.RoadKit
open Sem ClassFile Op Lib Jvm.Stand Jvm.Free Jvm.LawKit
section New
variable {p : Program} {l : Launch} {e : Env} {R : Room} {s : State} {m : MethodId} {args : Array Value} {below : List Frame} {meth : Method} {c : Code} {T : State} {locs : List Loc} {cells slots : Nat}
theorem retI (X : Stand p l e R s m args below meth c T locs cells slots) (hx : p.tables.exec = Jvm.exec) {pc : Nat} {Ls : Array Slot} {z : Int32} {rest : List Value} (hret : meth.sig.returnType = some .int) (hd : decode c.code pc = .ok (.ireturn, 1)) {fs : List Frame}
    (hl : ∀ (f : JFrame) (acts : List Action), f.method = m → f.locked = none → f.entered = [] → (doReturn e (T.setTop f) acts (some (.int z))).1 = T.setFrames fs) : Steps p.tables e below (T.setTop (mkF m pc Ls (.int z :: rest))) (T.setFrames fs) := by
  have hm' : T.vm.method? m = some meth := X.method'
  have hn : narrow .int (.int z) = .int z := rfl
  show Steps p.tables e below (T.setTop { method := m, pc := pc, locals := Ls, stack := _ :: rest, locked := none }) _
  jvm_step X.here [X.here.top, hx, hd, hm', hret, hn]
  first | (intro acts; rw [hl _ acts rfl rfl rfl]) | rw [hl _ _ rfl rfl rfl]
  exact Steps.refl _
theorem own_nb {t : FieldType} {c : Prop} [Decidable c] {a b : Int32} (ha : nar t a = a) (hb : nar t b = b) : nar t (if c then a else b) = (if c then a else b) := by
  by_cases h : c
  · rw [if_pos h]; exact ha
  · rw [if_neg h]; exact hb
theorem own_retN (X : Stand p l e R s m args below meth c T locs cells slots) (hx : p.tables.exec = Jvm.exec) {pc : Nat} {Ls : Array Slot} {z : Int32} {t : FieldType} {rest : List Value} (hret : meth.sig.returnType = some t) (ht : t = .boolean ∨ t = .byte ∨ t = .char ∨ t = .short) (hz : nar t z = z)
    (hd : decode c.code pc = .ok (.ireturn, 1)) {fs : List Frame} (hl : ∀ (f : JFrame) (acts : List Action), f.method = m → f.locked = none → f.entered = [] → (doReturn e (T.setTop f) acts (some (.int z))).1 = T.setFrames fs) :
    Steps p.tables e below (T.setTop (mkF m pc Ls (.int z :: rest))) (T.setFrames fs) := retN X hx hret ht hd (by rw [hz]; exact hl)
end New
end Jvm.RoadKit
namespace Jvm.Pilot.@@N@@
open Jvm Jvm.ClassFile Sem Op Lib Jvm.Free Jvm.Stand Jvm.LawKit Jvm.RoadKit Bundle Jvm.Pilot.@@N@@.Jvm.D
/-- from the state A the run comes to some end that P takes -/
def Go (tb : Tables) (e : Env) (below : List Frame) (A : State) (P : State → Outcome → Prop) : Prop := ∃ t o, Steps tb e below A t ∧ P t o
theorem Go.st {tb : Tables} {e : Env} {below : List Frame} {A B : State} {P : State → Outcome → Prop} (h : ∀ t, Steps tb e below A t → Steps tb e below B t) (k : Go tb e below A P) : Go tb e below B P := by
  obtain ⟨t, o, h1, h2⟩ := k; exact ⟨t, o, h t h1, h2⟩
theorem Go.tr {tb : Tables} {e : Env} {below : List Frame} {A B : State} {P : State → Outcome → Prop} (h : Steps tb e below B A) (k : Go tb e below A P) : Go tb e below B P := by
  obtain ⟨t, o, h1, h2⟩ := k; exact ⟨t, o, h.trans h1, h2⟩
theorem Go.start {tb : Tables} {e : Env} {below : List Frame} {A : State} {P0 : State → Outcome → Prop} (h : ∀ P : State → Outcome → Prop, (∀ t o, P0 t o → P t o) → Go tb e below A P) : ∃ t o, Steps tb e below A t ∧ P0 t o := h P0 (fun _ _ q => q)
theorem own_cat {v : Value} (h : v.isRef = true) : v.category = 1 := by rcases ref_cases h with rfl | ⟨_, rfl⟩ <;> rfl
theorem own_cst {tb : Tables} {e : Env} {below : List Frame} {T : State} {m : MethodId} {J : Nat} {Ls : Array Slot} {a b : Int32} {rest : List Value} {t : State} (h : a = b) (k : Steps tb e below (T.setTop (mkF m J Ls (.int a :: rest))) t) : Steps tb e below (T.setTop (mkF m J Ls (.int b :: rest))) t := h ▸ k
theorem own_lt {x y : Int64} (h : x < y) : lcmpW x y < 0 := (lw_lt x y).mpr h
theorem own_nlt {x y : Int64} (h : ¬ x < y) : ¬ lcmpW x y < 0 := fun q => h ((lw_lt x y).mp q)
theorem own_gt {x y : Int64} (h : y < x) : 0 < lcmpW x y := (lw_gt x y).mpr h
theorem own_ngt {x y : Int64} (h : ¬ y < x) : ¬ 0 < lcmpW x y := fun q => h ((lw_gt x y).mp q)
theorem own_eq {x y : Int64} (h : x = y) : lcmpW x y = 0 := (lw_eq x y).mpr h
theorem own_neq {x y : Int64} (h : ¬ x = y) : ¬ lcmpW x y = 0 := fun q => h ((lw_eq x y).mp q)
theorem d_prog_8_method_1_0 : decode prog_8_method_1_code 0 = .ok (.aload_n 0, 1) := by decide +kernel
theorem d_prog_8_method_1_1 : decode prog_8_method_1_code 1 = .ok (.invokespecial 1, 3) := by decide +kernel
theorem d_prog_8_method_1_4 : decode prog_8_method_1_code 4 = .ok (.return_, 1) := by decide +kernel
theorem pn_0 : plainName "com/example/corduroy/corduroy/HoldBudget" = true := by first | (simp [plainName, overriddenIn]; done) | decide +kernel
theorem ef_rmI (mi : MethodId) (o : Addr) : entryFrame mi #[(.ref o)] 1 = mkF mi 0 #[.val (.ref o)] [] := by first | (simp [entryFrame, mkF, argsToLocals, Value.category]; done) | rfl
def Q_rmI (Z : State) (o : Addr) (h0 : Heap) (n0 : Nat) (vv_ : Option Value) (hh_ : Heap) (LL_ : List Loc) : Prop := vv_ = none ∧ Fr n0 LL_ ∧ hh_ = h0
set_option maxRecDepth 65536 in
set_option maxHeartbeats 40000000 in
theorem rmI (l : Launch) (Z : State) (a0 : Array Value) (hw : ∀ d ∈ tables_1, d.before a0 Z = true) (ws : List Jvm.Cond) (o : Addr) (h0 : Heap) (n0 : Nat) (Z0 : n0 ≤ h0.size) :
    MetFree l (⟨"com/example/corduroy/corduroy/HoldBudget", "<init>", "()V"⟩ : MethodName) (head1 (Jvm.Cond.code (⟨"com/example/corduroy/corduroy/HoldBudget", "<init>", "()V"⟩ : MethodName) prog_8_method_1_code 1 none :: ws) ({ frames := 1, cells := 0, slots := 0, locals := 12 } : Room)) (fun aa_ U => aa_ = #[(.ref o)] ∧ Z.Warmed39 U.vm ∧ U.heap = h0) (fun _ _ _ _ _ => True) (fun _ U oo_ UV_ => ∃ vv_ LL_, oo_ = .returned vv_ ∧ Q_rmI Z o h0 n0 vv_ UV_.heap LL_ ∧ FrameEnd U oo_ UV_ LL_ ({ frames := 1, cells := 0, slots := 0, locals := 12 } : Room).cells ({ frames := 1, cells := 0, slots := 0, locals := 12 } : Room).slots) := by
  refine MetFree.of_bodySF (plainFor_of_name pn_0) hisR ?_
  intro pg ev si mi args below meth ci s₁ Bd hml0 hP0 hK
  obtain ⟨rfl, hZ, hh⟩ := hP0
  have hx := Bd.exec
  have hby := Bd.bytes
  have hml : ci.maxLocals = 1 := hml0
  have hown : si.vm.findClass "com/example/corduroy/corduroy/HoldBudget" = some mi.cls := findClass_of_methodNamed Bd.named
  have hnm := (name_of_methodNamed Bd.named Bd.method).1
  have X0 : Stand pg l ev ({ frames := 1, cells := 0, slots := 0, locals := 12 } : Room) si mi #[(.ref o)] below meth ci s₁ [] 0 0 := Stand.of_body Bd
  have e0 : s₁.heap = h0 := by rw [← hh, Bd.state]; rfl
  have N0 := Fr.nil n0
  refine Go.start (fun P hP => ?_)
  refine Go.st (fun t_ k_ => castTop (ef_rmI mi o) k_) (A := s₁.setTop (mkF mi 0 #[.val (.ref o)] [])) ?_
  show Go pg.tables ev below (s₁.setTop (mkF mi 0 #[.val (.ref o)] [])) P
  refine Go.st (fun t_ k_ => XS.aloadN X0.here hx rfl (hb hby d_prog_8_method_1_0) rfl rfl k_) ?_
  show Go pg.tables ev below (s₁.setTop (mkF mi 1 #[.val (.ref o)] [(.ref o)])) P
  obtain ⟨T1, X1, e1, st1⟩ := initO X0 hx hZ hown (hw _ (List.mem_of_getElem? (i := 6) rfl)) (hw _ (List.mem_of_getElem? (i := 7) rfl)) (hw _ (List.mem_of_getElem? (i := 8) rfl)) e0 (g := (mkF mi 1 #[.val (.ref o)] [(.ref o)])) rfl (by rw [hml]; rfl) rfl (hb hby d_prog_8_method_1_1) (by decide) (W := 0) (by show 2 * 0 + _ ≤ _; exact Nat.le_of_eq rfl) (by decide)
  refine Go.st st1 ?_
  show Go pg.tables ev below (T1.setTop (mkF mi 4 #[.val (.ref o)] [])) P
  obtain ⟨fs, hr, hrun, hended, hW, hsame⟩ := X1.leave (v := none) (fun _ => rfl) (BodyLoose.notSynchronized Bd)
  refine ⟨_, _, ?_, hP _ _ ⟨hrun, hended, _, _, rfl, ?_, ⟨_, rfl⟩, hW, hsame.mono (by decide) (by decide)⟩⟩
  · exact X1.returnOut hx Bd.returns (hb hby d_prog_8_method_1_4) hr
  · show (none : Option Value) = none ∧ Fr n0 _ ∧ T1.heap = h0
    rw [e1]
    exact ⟨rfl, N0, rfl⟩
theorem d_prog_8_method_4_0 : decode prog_8_method_4_code 0 = .ok (.aload_n 0, 1) := by decide +kernel
theorem d_prog_8_method_4_1 : decode prog_8_method_4_code 1 = .ok (.getfield 7, 3) := by decide +kernel
theorem d_prog_8_method_4_4 : decode prog_8_method_4_code 4 = .ok (.ldc2_w 13, 3) := by decide +kernel
theorem d_prog_8_method_4_7 : decode prog_8_method_4_code 7 = .ok (.lcmp, 1) := by decide +kernel
theorem d_prog_8_method_4_8 : decode prog_8_method_4_code 8 = .ok (.ifCond .lt 7, 3) := by decide +kernel
theorem d_prog_8_method_4_15 : decode prog_8_method_4_code 15 = .ok (.iconst 0, 1) := by decide +kernel
theorem d_prog_8_method_4_11 : decode prog_8_method_4_code 11 = .ok (.iconst 1, 1) := by decide +kernel
theorem d_prog_8_method_4_12 : decode prog_8_method_4_code 12 = .ok (.goto 4, 3) := by decide +kernel
theorem d_prog_8_method_4_16 : decode prog_8_method_4_code 16 = .ok (.ireturn, 1) := by decide +kernel
theorem ef_rmS (mi : MethodId) (o : Addr) (u : Int64) : entryFrame mi #[(.ref o)] 1 = mkF mi 0 #[.val (.ref o)] [] := by first | (simp [entryFrame, mkF, argsToLocals, Value.category]; done) | rfl
def Q_rmS (Z : State) (o : Addr) (u : Int64) (h0 : Heap) (n0 : Nat) (vv_ : Option Value) (hh_ : Heap) (LL_ : List Loc) : Prop := vv_ = some (.int (if u < (8388608 : Int64) then (0 : Int32) else (1 : Int32))) ∧ Fr n0 LL_ ∧ hh_ = h0
set_option maxRecDepth 65536 in
set_option maxHeartbeats 40000000 in
theorem rmS (l : Launch) (Z : State) (a0 : Array Value) (hw : ∀ d ∈ tables_1, d.before a0 Z = true) (ws : List Jvm.Cond) (o : Addr) (u : Int64) (h0 : Heap) (n0 : Nat) (Z0 : n0 ≤ h0.size) (F0 : Fld Z h0 o "com/example/corduroy/corduroy/HoldBudget" "heldBytes" "J" (.long u)) :
    MetFree l (⟨"com/example/corduroy/corduroy/HoldBudget", "isSpent", "()Z"⟩ : MethodName) (head1 (Jvm.Cond.code (⟨"com/example/corduroy/corduroy/HoldBudget", "isSpent", "()Z"⟩ : MethodName) prog_8_method_4_code 1 (some .boolean) :: ws) ({ frames := 0, cells := 0, slots := 0, locals := 0 } : Room)) (fun aa_ U => aa_ = #[(.ref o)] ∧ Z.Warmed39 U.vm ∧ U.heap = h0) (fun _ _ _ _ _ => True) (fun _ U oo_ UV_ => ∃ vv_ LL_, oo_ = .returned vv_ ∧ Q_rmS Z o u h0 n0 vv_ UV_.heap LL_ ∧ FrameEnd U oo_ UV_ LL_ ({ frames := 0, cells := 0, slots := 0, locals := 0 } : Room).cells ({ frames := 0, cells := 0, slots := 0, locals := 0 } : Room).slots) := by
  refine MetFree.of_bodySF (plainFor_of_name pn_0) hisR ?_
  intro pg ev si mi args below meth ci s₁ Bd hml0 hP0 hK
  obtain ⟨rfl, hZ, hh⟩ := hP0
  have hx := Bd.exec
  have hby := Bd.bytes
  have hml : ci.maxLocals = 1 := hml0
  have hown : si.vm.findClass "com/example/corduroy/corduroy/HoldBudget" = some mi.cls := findClass_of_methodNamed Bd.named
  have hnm := (name_of_methodNamed Bd.named Bd.method).1
  have X0 : Stand pg l ev ({ frames := 0, cells := 0, slots := 0, locals := 0 } : Room) si mi #[(.ref o)] below meth ci s₁ [] 0 0 := Stand.of_body Bd
  have e0 : s₁.heap = h0 := by rw [← hh, Bd.state]; rfl
  have N0 := Fr.nil n0
  refine Go.start (fun P hP => ?_)
  refine Go.st (fun t_ k_ => castTop (ef_rmS mi o u) k_) (A := s₁.setTop (mkF mi 0 #[.val (.ref o)] [])) ?_
  show Go pg.tables ev below (s₁.setTop (mkF mi 0 #[.val (.ref o)] [])) P
  refine Go.st (fun t_ k_ => XS.aloadN X0.here hx rfl (hb hby d_prog_8_method_4_0) rfl rfl k_) ?_
  show Go pg.tables ev below (s₁.setTop (mkF mi 1 #[.val (.ref o)] [(.ref o)])) P
  obtain ⟨T1, X1, e1, st1⟩ := getF X0 hx hZ hown (host := "") (Or.inl (hw _ (List.mem_of_getElem? (i := 14) rfl))) Via.refl e0 F0 (g := (mkF mi 1 #[.val (.ref o)] [(.ref o)])) rfl rfl (hb hby d_prog_8_method_4_1)
  refine Go.st st1 ?_
  show Go pg.tables ev below (T1.setTop (mkF mi 4 #[.val (.ref o)] [(.long u)])) P
  refine Go.st (X1.ldc2Long hx hown (mvT hZ (hw _ (List.mem_of_getElem? (i := 16) rfl))) (g := (mkF mi 4 #[.val (.ref o)] [(.long u)])) rfl (hb hby d_prog_8_method_4_4)) ?_
  show Go pg.tables ev below (T1.setTop (mkF mi 7 #[.val (.ref o)] [(.long (8388608 : Int64)), (.long u)])) P
  refine Go.st (fun t_ k_ => XS.lcmp X1.here hx rfl (hb hby d_prog_8_method_4_7) rfl k_) ?_
  show Go pg.tables ev below (T1.setTop (mkF mi 8 #[.val (.ref o)] [(.int (lcmpW u (8388608 : Int64)))])) P
  have dm2 : ∀ t_, Steps pg.tables ev below (T1.setTop (mkF mi 16 #[.val (.ref o)] [(.int (if u < (8388608 : Int64) then (0 : Int32) else (1 : Int32)))])) t_ → Steps pg.tables ev below (T1.setTop (mkF mi 8 #[.val (.ref o)] [(.int (lcmpW u (8388608 : Int64)))])) t_ := by
    intro t_ k_
    by_cases hd : u < (8388608 : Int64)
    · refine XS.ifYes X1.here hx rfl (pc0 := 8) (pc' := 15) rfl (hb hby d_prog_8_method_4_8) rfl ((if0 _ _).trans (tlt (own_lt hd)).1) (by decide) (by decide) ?_
      show Steps pg.tables ev below (T1.setTop (mkF mi 15 #[.val (.ref o)] [])) t_
      refine XS.iconst X1.here hx rfl (hb hby d_prog_8_method_4_15) ?_
      show Steps pg.tables ev below (T1.setTop (mkF mi 16 #[.val (.ref o)] [(.int (0 : Int32))])) t_
      exact own_cst (if_pos hd) k_
    · refine XS.ifNo X1.here hx rfl (hb hby d_prog_8_method_4_8) rfl ((if0 _ _).trans (flt (own_nlt hd)).1) ?_
      show Steps pg.tables ev below (T1.setTop (mkF mi 11 #[.val (.ref o)] [])) t_
      refine XS.iconst X1.here hx rfl (hb hby d_prog_8_method_4_11) ?_
      show Steps pg.tables ev below (T1.setTop (mkF mi 12 #[.val (.ref o)] [(.int (1 : Int32))])) t_
      refine XS.goto X1.here hx rfl (pc0 := 12) (pc' := 16) rfl (hb hby d_prog_8_method_4_12) (by decide) (by decide) ?_
      show Steps pg.tables ev below (T1.setTop (mkF mi 16 #[.val (.ref o)] [(.int (1 : Int32))])) t_
      exact own_cst (if_neg hd) k_
  refine Go.st dm2 ?_
  show Go pg.tables ev below (T1.setTop (mkF mi 16 #[.val (.ref o)] [(.int (if u < (8388608 : Int64) then (0 : Int32) else (1 : Int32)))])) P
  obtain ⟨fs, hr, hrun, hended, hW, hsame⟩ := X1.leave (v := some (.int (if u < (8388608 : Int64) then (0 : Int32) else (1 : Int32)))) (fun h => by rw [Bd.returns] at h; cases h) (BodyLoose.notSynchronized Bd)
  refine ⟨_, _, ?_, hP _ _ ⟨hrun, hended, _, _, rfl, ?_, ⟨_, rfl⟩, hW, hsame.mono (by decide) (by decide)⟩⟩
  · exact own_retN X1 hx (t := .boolean) Bd.returns (by simp) (own_nb rfl rfl) (hb hby d_prog_8_method_4_16) hr
  · show (some (.int (if u < (8388608 : Int64) then (0 : Int32) else (1 : Int32))) : Option Value) = some (.int (if u < (8388608 : Int64) then (0 : Int32) else (1 : Int32))) ∧ Fr n0 _ ∧ T1.heap = h0
    rw [e1]
    exact ⟨rfl, N0, rfl⟩
theorem d_prog_8_method_2_0 : decode prog_8_method_2_code 0 = .ok (.aload_n 0, 1) := by decide +kernel
theorem d_prog_8_method_2_1 : decode prog_8_method_2_code 1 = .ok (.dup, 1) := by decide +kernel
theorem d_prog_8_method_2_2 : decode prog_8_method_2_code 2 = .ok (.getfield 7, 3) := by decide +kernel
theorem d_prog_8_method_2_5 : decode prog_8_method_2_code 5 = .ok (.lload_n 1, 1) := by decide +kernel
theorem d_prog_8_method_2_6 : decode prog_8_method_2_code 6 = .ok (.ladd, 1) := by decide +kernel
theorem d_prog_8_method_2_7 : decode prog_8_method_2_code 7 = .ok (.putfield 7, 3) := by decide +kernel
theorem d_prog_8_method_2_10 : decode prog_8_method_2_code 10 = .ok (.return_, 1) := by decide +kernel
theorem ef_rmH (mi : MethodId) (o : Addr) (q : Int64) (u : Int64) : entryFrame mi #[(.ref o), (.long q)] 3 = mkF mi 0 #[.val (.ref o), .val (.long q), .second] [] := by first | (simp [entryFrame, mkF, argsToLocals, Value.category]; done) | rfl
def Q_rmH (Z : State) (o : Addr) (q : Int64) (u : Int64) (h0 : Heap) (n0 : Nat) (vv_ : Option Value) (hh_ : Heap) (LL_ : List Loc) : Prop := vv_ = none ∧ Fr n0 LL_ ∧ Keep h0 hh_ [o] ∧ Fld Z hh_ o "com/example/corduroy/corduroy/HoldBudget" "heldBytes" "J" (.long (u + q))
set_option maxRecDepth 65536 in
set_option maxHeartbeats 40000000 in
theorem rmH (l : Launch) (Z : State) (a0 : Array Value) (hw : ∀ d ∈ tables_1, d.before a0 Z = true) (ws : List Jvm.Cond) (o : Addr) (q : Int64) (u : Int64) (h0 : Heap) (n0 : Nat) (Z0 : n0 ≤ h0.size) (F0 : Fld Z h0 o "com/example/corduroy/corduroy/HoldBudget" "heldBytes" "J" (.long u)) (E0 : Exa Z h0 o "com/example/corduroy/corduroy/HoldBudget") (ge0 : n0 ≤ o) :
    MetFree l (⟨"com/example/corduroy/corduroy/HoldBudget", "hold", "(J)V"⟩ : MethodName) (head1 (Jvm.Cond.code (⟨"com/example/corduroy/corduroy/HoldBudget", "hold", "(J)V"⟩ : MethodName) prog_8_method_2_code 3 none :: ws) ({ frames := 0, cells := 0, slots := 0, locals := 0 } : Room)) (fun aa_ U => aa_ = #[(.ref o), (.long q)] ∧ Z.Warmed39 U.vm ∧ U.heap = h0) (fun _ _ _ _ _ => True) (fun _ U oo_ UV_ => ∃ vv_ LL_, oo_ = .returned vv_ ∧ Q_rmH Z o q u h0 n0 vv_ UV_.heap LL_ ∧ FrameEnd U oo_ UV_ LL_ ({ frames := 0, cells := 0, slots := 0, locals := 0 } : Room).cells ({ frames := 0, cells := 0, slots := 0, locals := 0 } : Room).slots) := by
  refine MetFree.of_bodySF (plainFor_of_name pn_0) hisR ?_
  intro pg ev si mi args below meth ci s₁ Bd hml0 hP0 hK
  obtain ⟨rfl, hZ, hh⟩ := hP0
  have hx := Bd.exec
  have hby := Bd.bytes
  have hml : ci.maxLocals = 3 := hml0
  have hown : si.vm.findClass "com/example/corduroy/corduroy/HoldBudget" = some mi.cls := findClass_of_methodNamed Bd.named
  have hnm := (name_of_methodNamed Bd.named Bd.method).1
  have X0 : Stand pg l ev ({ frames := 0, cells := 0, slots := 0, locals := 0 } : Room) si mi #[(.ref o), (.long q)] below meth ci s₁ [] 0 0 := Stand.of_body Bd
  have e0 : s₁.heap = h0 := by rw [← hh, Bd.state]; rfl
  have N0 := Fr.nil n0
  refine Go.start (fun P hP => ?_)
  refine Go.st (fun t_ k_ => castTop (ef_rmH mi o q u) k_) (A := s₁.setTop (mkF mi 0 #[.val (.ref o), .val (.long q), .second] [])) ?_
  show Go pg.tables ev below (s₁.setTop (mkF mi 0 #[.val (.ref o), .val (.long q), .second] [])) P
  refine Go.st (fun t_ k_ => XS.aloadN X0.here hx rfl (hb hby d_prog_8_method_2_0) rfl rfl k_) ?_
  show Go pg.tables ev below (s₁.setTop (mkF mi 1 #[.val (.ref o), .val (.long q), .second] [(.ref o)])) P
  refine Go.st (fun t_ k_ => XS.dup X0.here hx rfl (hb hby d_prog_8_method_2_1) rfl rfl k_) ?_
  show Go pg.tables ev below (s₁.setTop (mkF mi 2 #[.val (.ref o), .val (.long q), .second] [(.ref o), (.ref o)])) P
  obtain ⟨T1, X1, e1, st1⟩ := getF X0 hx hZ hown (host := "") (Or.inl (hw _ (List.mem_of_getElem? (i := 14) rfl))) Via.refl e0 F0 (g := (mkF mi 2 #[.val (.ref o), .val (.long q), .second] [(.ref o), (.ref o)])) rfl rfl (hb hby d_prog_8_method_2_2)
  refine Go.st st1 ?_
  show Go pg.tables ev below (T1.setTop (mkF mi 5 #[.val (.ref o), .val (.long q), .second] [(.long u), (.ref o)])) P
  refine Go.st (fun t_ k_ => XS.lloadN X1.here hx rfl (hb hby d_prog_8_method_2_5) rfl k_) ?_
  show Go pg.tables ev below (T1.setTop (mkF mi 6 #[.val (.ref o), .val (.long q), .second] [(.long q), (.long u), (.ref o)])) P
  refine Go.st (fun t_ k_ => XS.ladd X1.here hx rfl (hb hby d_prog_8_method_2_6) rfl k_) ?_
  show Go pg.tables ev below (T1.setTop (mkF mi 7 #[.val (.ref o), .val (.long q), .second] [(.long (u + q)), (.ref o)])) P
  obtain ⟨T2, h2, X2, e2, W2, st2⟩ := putF X1 hx hZ hown (host := "") (Or.inl (hw _ (List.mem_of_getElem? (i := 14) rfl))) Via.refl e1 F0 E0 (Or.inl (hw _ (List.mem_of_getElem? (i := 15) rfl))) (hw _ (List.mem_of_getElem? (i := 1) rfl)) (ty := .long) (by decide) rfl rfl (g := (mkF mi 7 #[.val (.ref o), .val (.long q), .second] [(.long (u + q)), (.ref o)])) rfl rfl (hb hby d_prog_8_method_2_7)
  have Zs3 : n0 ≤ h2.size := Nat.le_trans Z0 (Keep.of_wr W2).1
  have KC3 : Keep h0 h2 [o] := (Keep.refl h0 [o]).wr W2 (Or.inl (List.mem_of_getElem? (i := 0) rfl))
  have N3 := Fr.snoc X2 N0 ge0
  have F2 : Fld Z h2 o "com/example/corduroy/corduroy/HoldBudget" "heldBytes" "J" (.long (u + q)) := F0.same W2
  refine Go.st st2 ?_
  show Go pg.tables ev below (T2.setTop (mkF mi 10 #[.val (.ref o), .val (.long q), .second] [])) P
  obtain ⟨fs, hr, hrun, hended, hW, hsame⟩ := X2.leave (v := none) (fun _ => rfl) (BodyLoose.notSynchronized Bd)
  refine ⟨_, _, ?_, hP _ _ ⟨hrun, hended, _, _, rfl, ?_, ⟨_, rfl⟩, hW, hsame.mono (by decide) (by decide)⟩⟩
  · exact X2.returnOut hx Bd.returns (hb hby d_prog_8_method_2_10) hr
  · show (none : Option Value) = none ∧ Fr n0 _ ∧ Keep h0 T2.heap [o] ∧ Fld Z T2.heap o "com/example/corduroy/corduroy/HoldBudget" "heldBytes" "J" (.long (u + q))
    rw [e2]
    exact ⟨rfl, N3, KC3, F2⟩
theorem d_prog_8_method_3_0 : decode prog_8_method_3_code 0 = .ok (.aload_n 0, 1) := by decide +kernel
theorem d_prog_8_method_3_1 : decode prog_8_method_3_code 1 = .ok (.dup, 1) := by decide +kernel
theorem d_prog_8_method_3_2 : decode prog_8_method_3_code 2 = .ok (.getfield 7, 3) := by decide +kernel
theorem d_prog_8_method_3_5 : decode prog_8_method_3_code 5 = .ok (.lload_n 1, 1) := by decide +kernel
theorem d_prog_8_method_3_6 : decode prog_8_method_3_code 6 = .ok (.lsub, 1) := by decide +kernel
theorem d_prog_8_method_3_7 : decode prog_8_method_3_code 7 = .ok (.putfield 7, 3) := by decide +kernel
theorem d_prog_8_method_3_10 : decode prog_8_method_3_code 10 = .ok (.return_, 1) := by decide +kernel
theorem ef_rmR (mi : MethodId) (o : Addr) (q : Int64) (u : Int64) : entryFrame mi #[(.ref o), (.long q)] 3 = mkF mi 0 #[.val (.ref o), .val (.long q), .second] [] := by first | (simp [entryFrame, mkF, argsToLocals, Value.category]; done) | rfl
def Q_rmR (Z : State) (o : Addr) (q : Int64) (u : Int64) (h0 : Heap) (n0 : Nat) (vv_ : Option Value) (hh_ : Heap) (LL_ : List Loc) : Prop := vv_ = none ∧ Fr n0 LL_ ∧ Keep h0 hh_ [o] ∧ Fld Z hh_ o "com/example/corduroy/corduroy/HoldBudget" "heldBytes" "J" (.long (u - q))
set_option maxRecDepth 65536 in
set_option maxHeartbeats 40000000 in
theorem rmR (l : Launch) (Z : State) (a0 : Array Value) (hw : ∀ d ∈ tables_1, d.before a0 Z = true) (ws : List Jvm.Cond) (o : Addr) (q : Int64) (u : Int64) (h0 : Heap) (n0 : Nat) (Z0 : n0 ≤ h0.size) (F0 : Fld Z h0 o "com/example/corduroy/corduroy/HoldBudget" "heldBytes" "J" (.long u)) (E0 : Exa Z h0 o "com/example/corduroy/corduroy/HoldBudget") (ge0 : n0 ≤ o) :
    MetFree l (⟨"com/example/corduroy/corduroy/HoldBudget", "release", "(J)V"⟩ : MethodName) (head1 (Jvm.Cond.code (⟨"com/example/corduroy/corduroy/HoldBudget", "release", "(J)V"⟩ : MethodName) prog_8_method_3_code 3 none :: ws) ({ frames := 0, cells := 0, slots := 0, locals := 0 } : Room)) (fun aa_ U => aa_ = #[(.ref o), (.long q)] ∧ Z.Warmed39 U.vm ∧ U.heap = h0) (fun _ _ _ _ _ => True) (fun _ U oo_ UV_ => ∃ vv_ LL_, oo_ = .returned vv_ ∧ Q_rmR Z o q u h0 n0 vv_ UV_.heap LL_ ∧ FrameEnd U oo_ UV_ LL_ ({ frames := 0, cells := 0, slots := 0, locals := 0 } : Room).cells ({ frames := 0, cells := 0, slots := 0, locals := 0 } : Room).slots) := by
  refine MetFree.of_bodySF (plainFor_of_name pn_0) hisR ?_
  intro pg ev si mi args below meth ci s₁ Bd hml0 hP0 hK
  obtain ⟨rfl, hZ, hh⟩ := hP0
  have hx := Bd.exec
  have hby := Bd.bytes
  have hml : ci.maxLocals = 3 := hml0
  have hown : si.vm.findClass "com/example/corduroy/corduroy/HoldBudget" = some mi.cls := findClass_of_methodNamed Bd.named
  have hnm := (name_of_methodNamed Bd.named Bd.method).1
  have X0 : Stand pg l ev ({ frames := 0, cells := 0, slots := 0, locals := 0 } : Room) si mi #[(.ref o), (.long q)] below meth ci s₁ [] 0 0 := Stand.of_body Bd
  have e0 : s₁.heap = h0 := by rw [← hh, Bd.state]; rfl
  have N0 := Fr.nil n0
  refine Go.start (fun P hP => ?_)
  refine Go.st (fun t_ k_ => castTop (ef_rmR mi o q u) k_) (A := s₁.setTop (mkF mi 0 #[.val (.ref o), .val (.long q), .second] [])) ?_
  show Go pg.tables ev below (s₁.setTop (mkF mi 0 #[.val (.ref o), .val (.long q), .second] [])) P
  refine Go.st (fun t_ k_ => XS.aloadN X0.here hx rfl (hb hby d_prog_8_method_3_0) rfl rfl k_) ?_
  show Go pg.tables ev below (s₁.setTop (mkF mi 1 #[.val (.ref o), .val (.long q), .second] [(.ref o)])) P
  refine Go.st (fun t_ k_ => XS.dup X0.here hx rfl (hb hby d_prog_8_method_3_1) rfl rfl k_) ?_
  show Go pg.tables ev below (s₁.setTop (mkF mi 2 #[.val (.ref o), .val (.long q), .second] [(.ref o), (.ref o)])) P
  obtain ⟨T1, X1, e1, st1⟩ := getF X0 hx hZ hown (host := "") (Or.inl (hw _ (List.mem_of_getElem? (i := 14) rfl))) Via.refl e0 F0 (g := (mkF mi 2 #[.val (.ref o), .val (.long q), .second] [(.ref o), (.ref o)])) rfl rfl (hb hby d_prog_8_method_3_2)
  refine Go.st st1 ?_
  show Go pg.tables ev below (T1.setTop (mkF mi 5 #[.val (.ref o), .val (.long q), .second] [(.long u), (.ref o)])) P
  refine Go.st (fun t_ k_ => XS.lloadN X1.here hx rfl (hb hby d_prog_8_method_3_5) rfl k_) ?_
  show Go pg.tables ev below (T1.setTop (mkF mi 6 #[.val (.ref o), .val (.long q), .second] [(.long q), (.long u), (.ref o)])) P
  refine Go.st (fun t_ k_ => XS.lsub X1.here hx rfl (hb hby d_prog_8_method_3_6) rfl k_) ?_
  show Go pg.tables ev below (T1.setTop (mkF mi 7 #[.val (.ref o), .val (.long q), .second] [(.long (u - q)), (.ref o)])) P
  obtain ⟨T2, h2, X2, e2, W2, st2⟩ := putF X1 hx hZ hown (host := "") (Or.inl (hw _ (List.mem_of_getElem? (i := 14) rfl))) Via.refl e1 F0 E0 (Or.inl (hw _ (List.mem_of_getElem? (i := 15) rfl))) (hw _ (List.mem_of_getElem? (i := 1) rfl)) (ty := .long) (by decide) rfl rfl (g := (mkF mi 7 #[.val (.ref o), .val (.long q), .second] [(.long (u - q)), (.ref o)])) rfl rfl (hb hby d_prog_8_method_3_7)
  have Zs3 : n0 ≤ h2.size := Nat.le_trans Z0 (Keep.of_wr W2).1
  have KC3 : Keep h0 h2 [o] := (Keep.refl h0 [o]).wr W2 (Or.inl (List.mem_of_getElem? (i := 0) rfl))
  have N3 := Fr.snoc X2 N0 ge0
  have F2 : Fld Z h2 o "com/example/corduroy/corduroy/HoldBudget" "heldBytes" "J" (.long (u - q)) := F0.same W2
  refine Go.st st2 ?_
  show Go pg.tables ev below (T2.setTop (mkF mi 10 #[.val (.ref o), .val (.long q), .second] [])) P
  obtain ⟨fs, hr, hrun, hended, hW, hsame⟩ := X2.leave (v := none) (fun _ => rfl) (BodyLoose.notSynchronized Bd)
  refine ⟨_, _, ?_, hP _ _ ⟨hrun, hended, _, _, rfl, ?_, ⟨_, rfl⟩, hW, hsame.mono (by decide) (by decide)⟩⟩
  · exact X2.returnOut hx Bd.returns (hb hby d_prog_8_method_3_10) hr
  · show (none : Option Value) = none ∧ Fr n0 _ ∧ Keep h0 T2.heap [o] ∧ Fld Z T2.heap o "com/example/corduroy/corduroy/HoldBudget" "heldBytes" "J" (.long (u - q))
    rw [e2]
    exact ⟨rfl, N3, KC3, F2⟩
theorem own_d (d : Int32) : (if ((8388608 : Int64) + (d.toInt64)) < (8388608 : Int64) then (0 : Int32) else (1 : Int32)) = (if d < (0 : Int32) then (0 : Int32) else (1 : Int32)) := by
  have e1 := c_ladd 8388608 d.toInt64
  have e2 := c_i2l d
  have l1 : (8388608 : Int64).toInt = 8388608 := rfl
  have l2 : (0 : Int32).toInt = 0 := rfl
  have b1 := Int32.le_toInt d
  have b2 := Int32.toInt_lt d
  have b3 := Int64.le_toInt (8388608 + d.toInt64)
  have b4 := Int64.toInt_lt (8388608 + d.toInt64)
  generalize 8388608 + d.toInt64 = u at *
  generalize d.toInt64 = v at *
  repeat' split
  all_goals first | rfl | (exfalso; simp only [Int64.lt_iff_toInt_lt, Int32.lt_iff_toInt_lt] at *; omega)
theorem pd_0 : parseMethodDescriptor "()V" = some ⟨[], none⟩ := by decide +kernel
theorem pd_1 : parseMethodDescriptor "()Z" = some ⟨[], some .boolean⟩ := by decide +kernel
theorem pd_2 : parseMethodDescriptor "(J)V" = some ⟨[.long], none⟩ := by decide +kernel
theorem pn_1 : plainName "com/example/corduroy/corduroy/HoldBudgetIsSpentPinLaw" = true := by first | (simp [plainName, overriddenIn]; done) | decide +kernel
theorem ef_rm0 (mi : MethodId) (a : Int64) (b : Int64) (d : Int32) : entryFrame mi #[(.long a), (.long b), (.int d)] maxLocals = mkF mi 0 #[.val (.long a), .second, .val (.long b), .second, .val (.int d), .unset, .unset, .unset, .unset, .unset, .unset, .unset, .unset, .unset] [] := by first | (simp [entryFrame, mkF, argsToLocals, Value.category, maxLocals]; done) | rfl
def Q_rm0 (Z : State) (a : Int64) (b : Int64) (d : Int32) (h0 : Heap) (n0 : Nat) (vv_ : Option Value) (hh_ : Heap) (LL_ : List Loc) : Prop := vv_ = some (.int 1) ∧ Fr n0 LL_
set_option maxRecDepth 65536 in
set_option maxHeartbeats 40000000 in
theorem rm0 (l : Launch) (Z : State) (a0 : Array Value) (hw : ∀ d ∈ tables_1, d.before a0 Z = true) (ws : List Jvm.Cond) (a : Int64) (b : Int64) (d : Int32) (h0 : Heap) (n0 : Nat) (Z0 : n0 ≤ h0.size) :
    MetFree l x (head1 (Jvm.Cond.code x code maxLocals ret :: ws) room_1) (fun aa_ U => aa_ = #[(.long a), (.long b), (.int d)] ∧ Z.Warmed39 U.vm ∧ U.heap = h0) (fun _ _ _ _ _ => True) (fun _ U oo_ UV_ => ∃ vv_ LL_, oo_ = .returned vv_ ∧ Q_rm0 Z a b d h0 n0 vv_ UV_.heap LL_ ∧ FrameEnd U oo_ UV_ LL_ room_1.cells room_1.slots) := by
  refine MetFree.of_bodySF (plainFor_of_name pn_1) hisR ?_
  intro pg ev si mi args below meth ci s₁ Bd hml0 hP0 hK
  obtain ⟨rfl, hZ, hh⟩ := hP0
  have hx := Bd.exec
  have hby := Bd.bytes
  have hml : ci.maxLocals = 14 := hml0
  have hown : si.vm.findClass "com/example/corduroy/corduroy/HoldBudgetIsSpentPinLaw" = some mi.cls := findClass_of_methodNamed Bd.named
  have hnm := (name_of_methodNamed Bd.named Bd.method).1
  have X0 : Stand pg l ev room_1 si mi #[(.long a), (.long b), (.int d)] below meth ci s₁ [] 0 0 := Stand.of_body Bd
  have e0 : s₁.heap = h0 := by rw [← hh, Bd.state]; rfl
  have N0 := Fr.nil n0
  refine Go.start (fun P hP => ?_)
  refine Go.st (fun t_ k_ => castTop (ef_rm0 mi a b d) k_) (A := s₁.setTop (mkF mi 0 #[.val (.long a), .second, .val (.long b), .second, .val (.int d), .unset, .unset, .unset, .unset, .unset, .unset, .unset, .unset, .unset] [])) ?_
  show Go pg.tables ev below (s₁.setTop (mkF mi 0 #[.val (.long a), .second, .val (.long b), .second, .val (.int d), .unset, .unset, .unset, .unset, .unset, .unset, .unset, .unset, .unset] [])) P
  obtain ⟨T1, h1, X1, e1, E1, A1, D1, -, st1⟩ := newO X0 hx hZ hown (hw _ (List.mem_of_getElem? (i := 0) rfl)) (hw _ (List.mem_of_getElem? (i := 1) rfl)) (hw _ (List.mem_of_getElem? (i := 2) rfl)) e0 (g := (mkF mi 0 #[.val (.long a), .second, .val (.long b), .second, .val (.int d), .unset, .unset, .unset, .unset, .unset, .unset, .unset, .unset, .unset] [])) rfl (hb hby at_0) (by decide) (by decide)
  obtain ⟨b1, g1⟩ : ∃ z, z = h0.size := ⟨_, rfl⟩
  rw [← g1] at A1 D1 st1
  have Zs2 : n0 ≤ h1.size := Nat.le_trans Z0 E1.1
  have g_b1 : n0 ≤ b1 := Nat.le_trans Z0 (Nat.le_of_eq g1.symm)
  have F1_15 : Fld Z h1 b1 "com/example/corduroy/corduroy/HoldBudget" "heldBytes" "J" (.long (0 : Int64)) := D1 (Or.inl (hw _ (List.mem_of_getElem? (i := 15) rfl))) (ty := .long) (by decide)
  refine Go.st st1 ?_
  show Go pg.tables ev below (T1.setTop (mkF mi 3 #[.val (.long a), .second, .val (.long b), .second, .val (.int d), .unset, .unset, .unset, .unset, .unset, .unset, .unset, .unset, .unset] [(.ref b1)])) P
  refine Go.st (fun t_ k_ => XS.dup X1.here hx rfl (hb hby at_3) rfl rfl k_) ?_
  show Go pg.tables ev below (T1.setTop (mkF mi 4 #[.val (.long a), .second, .val (.long b), .second, .val (.int d), .unset, .unset, .unset, .unset, .unset, .unset, .unset, .unset, .unset] [(.ref b1), (.ref b1)])) P
  obtain ⟨_, _, ⟨T3, L3, k3, n3⟩, -, X3, ⟨Lc3, hQ3, l3, y3, z3⟩, st3⟩ := X1.specialBack hx (y := (⟨"com/example/corduroy/corduroy/HoldBudget", "<init>", "()V"⟩ : MethodName)) rfl hown (mvT hZ (hw _ (List.mem_of_getElem? (i := 3) rfl))) (mvT hZ (hw _ (List.mem_of_getElem? (i := 4) rfl))) (mvT hZ (hw _ (List.mem_of_getElem? (i := 5) rfl))) (by decide) (backOf (W := 1) (rmI l Z a0 hw [] b1 h1 n0 Zs2) hZ (hw _ (List.mem_of_getElem? (i := 5) rfl)) (hw _ (List.mem_of_getElem? (i := 2) rfl)) (by decide) (by decide)) (g := (mkF mi 4 #[.val (.long a), .second, .val (.long b), .second, .val (.int d), .unset, .unset, .unset, .unset, .unset, .unset, .unset, .unset, .unset] [(.ref b1), (.ref b1)])) rfl (by rw [hml]; rfl) (Steps.refl _) (a := b1) (argsL := []) (rest := [(.ref b1)]) (lenOf pd_0 rfl) rfl (by show 2 * 0 + _ ≤ _; exact Nat.le_of_eq rfl) (hb hby at_4) (fun _ _ => ⟨rfl, e1, (by decide : 1 + 0 ≤ _), (by decide : 1 + 0 ≤ _)⟩)
  dsimp only [Pt.U, Pt.locs, Pt.cells, Pt.slots] at X3 l3 y3 z3 st3 hQ3
  subst l3 y3 z3
  obtain ⟨rfl, N3q, e3⟩ := hQ3
  have N3 := Fr.app N0 N3q
  refine Go.tr st3 ?_
  show Go pg.tables ev below (T3.setTop (mkF mi 7 #[.val (.long a), .second, .val (.long b), .second, .val (.int d), .unset, .unset, .unset, .unset, .unset, .unset, .unset, .unset, .unset] [(.ref b1)])) P
  refine Go.st (fun t_ k_ => XS.astore X3.here hx rfl (hb hby at_7) rfl rfl (l' := #[.val (.long a), .second, .val (.long b), .second, .val (.int d), .val (.ref b1), .unset, .unset, .unset, .unset, .unset, .unset, .unset, .unset]) rfl k_) ?_
  show Go pg.tables ev below (T3.setTop (mkF mi 9 #[.val (.long a), .second, .val (.long b), .second, .val (.int d), .val (.ref b1), .unset, .unset, .unset, .unset, .unset, .unset, .unset, .unset] [])) P
  refine Go.st (fun t_ k_ => XS.aload X3.here hx rfl (hb hby at_9) rfl rfl k_) ?_
  show Go pg.tables ev below (T3.setTop (mkF mi 11 #[.val (.long a), .second, .val (.long b), .second, .val (.int d), .val (.ref b1), .unset, .unset, .unset, .unset, .unset, .unset, .unset, .unset] [(.ref b1)])) P
  obtain ⟨cq4, kq4, q4a, q4b, q4c⟩ := isOf hZ e3 A1
  obtain ⟨_, _, ⟨T4, L4, k4, n4⟩, -, X4, ⟨Lc4, hQ4, l4, y4, z4⟩, st4⟩ := X3.virtualBack hx (y := (⟨"com/example/corduroy/corduroy/HoldBudget", "isSpent", "()Z"⟩ : MethodName)) (z := (⟨"com/example/corduroy/corduroy/HoldBudget", "isSpent", "()Z"⟩ : MethodName)) hown (mvT hZ (hw _ (List.mem_of_getElem? (i := 9) rfl))) (mvT hZ (hw _ (List.mem_of_getElem? (i := 10) rfl))) (notFace_of_selects (args := #[]) (mvT hZ (hw _ (List.mem_of_getElem? (i := 12) rfl)))) (mvT hZ (hw _ (List.mem_of_getElem? (i := 12) rfl))) (mvT hZ (hw _ (List.mem_of_getElem? (i := 11) rfl))) (by decide) (backOf (W := 0) (rmS l Z a0 hw [] b1 (0 : Int64) h1 n0 Zs2 F1_15) hZ (hw _ (List.mem_of_getElem? (i := 13) rfl)) (hw _ (List.mem_of_getElem? (i := 2) rfl)) (by decide) (by decide)) q4a q4c (g := (mkF mi 11 #[.val (.long a), .second, .val (.long b), .second, .val (.int d), .val (.ref b1), .unset, .unset, .unset, .unset, .unset, .unset, .unset, .unset] [(.ref b1)])) rfl (by rw [hml]; rfl) (Steps.refl _) (argsL := []) (rest := []) (lenOf pd_1 rfl) rfl (by show 2 * 0 + _ ≤ _; exact Nat.le_of_eq rfl) (hb hby at_11) (fun _ _ => ⟨rfl, e3, (by decide : 1 + 0 ≤ _), (by decide : 1 + 0 ≤ _)⟩)
  dsimp only [Pt.U, Pt.locs, Pt.cells, Pt.slots] at X4 l4 y4 z4 st4 hQ4
  subst l4 y4 z4
  obtain ⟨rfl, N4q, e4⟩ := hQ4
  have N4 := Fr.app N3 N4q
  refine Go.tr st4 ?_
  show Go pg.tables ev below (T4.setTop (mkF mi 14 #[.val (.long a), .second, .val (.long b), .second, .val (.int d), .val (.ref b1), .unset, .unset, .unset, .unset, .unset, .unset, .unset, .unset] [(.int (if (0 : Int64) < (8388608 : Int64) then (0 : Int32) else (1 : Int32)))])) P
  refine Go.st (fun t_ k_ => XS.istore X4.here hx rfl (hb hby at_14) rfl (l' := #[.val (.long a), .second, .val (.long b), .second, .val (.int d), .val (.ref b1), .val (.int (if (0 : Int64) < (8388608 : Int64) then (0 : Int32) else (1 : Int32))), .unset, .unset, .unset, .unset, .unset, .unset, .unset]) rfl k_) ?_
  show Go pg.tables ev below (T4.setTop (mkF mi 16 #[.val (.long a), .second, .val (.long b), .second, .val (.int d), .val (.ref b1), .val (.int (if (0 : Int64) < (8388608 : Int64) then (0 : Int32) else (1 : Int32))), .unset, .unset, .unset, .unset, .unset, .unset, .unset] [])) P
  refine Go.st (fun t_ k_ => XS.aload X4.here hx rfl (hb hby at_16) rfl rfl k_) ?_
  show Go pg.tables ev below (T4.setTop (mkF mi 18 #[.val (.long a), .second, .val (.long b), .second, .val (.int d), .val (.ref b1), .val (.int (if (0 : Int64) < (8388608 : Int64) then (0 : Int32) else (1 : Int32))), .unset, .unset, .unset, .unset, .unset, .unset, .unset] [(.ref b1)])) P
  refine Go.st (fun t_ k_ => XS.lloadN X4.here hx rfl (hb hby at_18) rfl k_) ?_
  show Go pg.tables ev below (T4.setTop (mkF mi 19 #[.val (.long a), .second, .val (.long b), .second, .val (.int d), .val (.ref b1), .val (.int (if (0 : Int64) < (8388608 : Int64) then (0 : Int32) else (1 : Int32))), .unset, .unset, .unset, .unset, .unset, .unset, .unset] [(.long a), (.ref b1)])) P
  obtain ⟨cq5, kq5, q5a, q5b, q5c⟩ := isOf hZ e4 A1
  obtain ⟨_, _, ⟨T5, L5, k5, n5⟩, -, X5, ⟨Lc5, hQ5, l5, y5, z5⟩, st5⟩ := X4.virtualBack hx (y := (⟨"com/example/corduroy/corduroy/HoldBudget", "hold", "(J)V"⟩ : MethodName)) (z := (⟨"com/example/corduroy/corduroy/HoldBudget", "hold", "(J)V"⟩ : MethodName)) hown (mvT hZ (hw _ (List.mem_of_getElem? (i := 17) rfl))) (mvT hZ (hw _ (List.mem_of_getElem? (i := 18) rfl))) (notFace_of_selects (args := #[]) (mvT hZ (hw _ (List.mem_of_getElem? (i := 20) rfl)))) (mvT hZ (hw _ (List.mem_of_getElem? (i := 20) rfl))) (mvT hZ (hw _ (List.mem_of_getElem? (i := 19) rfl))) (by decide) (backOf (W := 0) (rmH l Z a0 hw [] b1 a (0 : Int64) h1 n0 Zs2 F1_15 A1 g_b1) hZ (hw _ (List.mem_of_getElem? (i := 21) rfl)) (hw _ (List.mem_of_getElem? (i := 2) rfl)) (by decide) (by decide)) q5a q5c (g := (mkF mi 19 #[.val (.long a), .second, .val (.long b), .second, .val (.int d), .val (.ref b1), .val (.int (if (0 : Int64) < (8388608 : Int64) then (0 : Int32) else (1 : Int32))), .unset, .unset, .unset, .unset, .unset, .unset, .unset] [(.long a), (.ref b1)])) rfl (by rw [hml]; rfl) (Steps.refl _) (argsL := [(.long a)]) (rest := []) (lenOf pd_2 rfl) rfl (by show 2 * 0 + _ ≤ _; exact Nat.le_of_eq rfl) (hb hby at_19) (fun _ _ => ⟨rfl, e4, (by decide : 1 + 0 ≤ _), (by decide : 1 + 0 ≤ _)⟩)
  dsimp only [Pt.U, Pt.locs, Pt.cells, Pt.slots] at X5 l5 y5 z5 st5 hQ5
  subst l5 y5 z5
  obtain ⟨h5, e5⟩ : ∃ z, T5.heap = z := ⟨_, rfl⟩
  rw [e5] at hQ5
  obtain ⟨rfl, N5q, K5, F5⟩ := hQ5
  have N5 := Fr.app N4 N5q
  have Zs6 : n0 ≤ h5.size := Nat.le_trans Zs2 K5.1
  rw [Int64.zero_add] at F5
  refine Go.tr st5 ?_
  show Go pg.tables ev below (T5.setTop (mkF mi 22 #[.val (.long a), .second, .val (.long b), .second, .val (.int d), .val (.ref b1), .val (.int (if (0 : Int64) < (8388608 : Int64) then (0 : Int32) else (1 : Int32))), .unset, .unset, .unset, .unset, .unset, .unset, .unset] [])) P
  refine Go.st (fun t_ k_ => XS.aload X5.here hx rfl (hb hby at_22) rfl rfl k_) ?_
  show Go pg.tables ev below (T5.setTop (mkF mi 24 #[.val (.long a), .second, .val (.long b), .second, .val (.int d), .val (.ref b1), .val (.int (if (0 : Int64) < (8388608 : Int64) then (0 : Int32) else (1 : Int32))), .unset, .unset, .unset, .unset, .unset, .unset, .unset] [(.ref b1)])) P
  have f8 := (A1.keep K5)
  obtain ⟨cq7, kq7, q7a, q7b, q7c⟩ := isOf hZ e5 f8
  obtain ⟨_, _, ⟨T7, L7, k7, n7⟩, -, X7, ⟨Lc7, hQ7, l7, y7, z7⟩, st7⟩ := X5.virtualBack hx (y := (⟨"com/example/corduroy/corduroy/HoldBudget", "isSpent", "()Z"⟩ : MethodName)) (z := (⟨"com/example/corduroy/corduroy/HoldBudget", "isSpent", "()Z"⟩ : MethodName)) hown (mvT hZ (hw _ (List.mem_of_getElem? (i := 9) rfl))) (mvT hZ (hw _ (List.mem_of_getElem? (i := 10) rfl))) (notFace_of_selects (args := #[]) (mvT hZ (hw _ (List.mem_of_getElem? (i := 12) rfl)))) (mvT hZ (hw _ (List.mem_of_getElem? (i := 12) rfl))) (mvT hZ (hw _ (List.mem_of_getElem? (i := 11) rfl))) (by decide) (backOf (W := 0) (rmS l Z a0 hw [] b1 a h5 n0 Zs6 F5) hZ (hw _ (List.mem_of_getElem? (i := 13) rfl)) (hw _ (List.mem_of_getElem? (i := 2) rfl)) (by decide) (by decide)) q7a q7c (g := (mkF mi 24 #[.val (.long a), .second, .val (.long b), .second, .val (.int d), .val (.ref b1), .val (.int (if (0 : Int64) < (8388608 : Int64) then (0 : Int32) else (1 : Int32))), .unset, .unset, .unset, .unset, .unset, .unset, .unset] [(.ref b1)])) rfl (by rw [hml]; rfl) (Steps.refl _) (argsL := []) (rest := []) (lenOf pd_1 rfl) rfl (by show 2 * 0 + _ ≤ _; exact Nat.le_of_eq rfl) (hb hby at_24) (fun _ _ => ⟨rfl, e5, (by decide : 1 + 0 ≤ _), (by decide : 1 + 0 ≤ _)⟩)
  dsimp only [Pt.U, Pt.locs, Pt.cells, Pt.slots] at X7 l7 y7 z7 st7 hQ7
  subst l7 y7 z7
  obtain ⟨rfl, N7q, e7⟩ := hQ7
  have N7 := Fr.app N5 N7q
  refine Go.tr st7 ?_
  show Go pg.tables ev below (T7.setTop (mkF mi 27 #[.val (.long a), .second, .val (.long b), .second, .val (.int d), .val (.ref b1), .val (.int (if (0 : Int64) < (8388608 : Int64) then (0 : Int32) else (1 : Int32))), .unset, .unset, .unset, .unset, .unset, .unset, .unset] [(.int (if a < (8388608 : Int64) then (0 : Int32) else (1 : Int32)))])) P
  refine Go.st (fun t_ k_ => XS.istore X7.here hx rfl (hb hby at_27) rfl (l' := #[.val (.long a), .second, .val (.long b), .second, .val (.int d), .val (.ref b1), .val (.int (if (0 : Int64) < (8388608 : Int64) then (0 : Int32) else (1 : Int32))), .val (.int (if a < (8388608 : Int64) then (0 : Int32) else (1 : Int32))), .unset, .unset, .unset, .unset, .unset, .unset]) rfl k_) ?_
  show Go pg.tables ev below (T7.setTop (mkF mi 29 #[.val (.long a), .second, .val (.long b), .second, .val (.int d), .val (.ref b1), .val (.int (if (0 : Int64) < (8388608 : Int64) then (0 : Int32) else (1 : Int32))), .val (.int (if a < (8388608 : Int64) then (0 : Int32) else (1 : Int32))), .unset, .unset, .unset, .unset, .unset, .unset] [])) P
  refine Go.st (fun t_ k_ => XS.aload X7.here hx rfl (hb hby at_29) rfl rfl k_) ?_
  show Go pg.tables ev below (T7.setTop (mkF mi 31 #[.val (.long a), .second, .val (.long b), .second, .val (.int d), .val (.ref b1), .val (.int (if (0 : Int64) < (8388608 : Int64) then (0 : Int32) else (1 : Int32))), .val (.int (if a < (8388608 : Int64) then (0 : Int32) else (1 : Int32))), .unset, .unset, .unset, .unset, .unset, .unset] [(.ref b1)])) P
  refine Go.st (fun t_ k_ => XS.lloadN X7.here hx rfl (hb hby at_31) rfl k_) ?_
  show Go pg.tables ev below (T7.setTop (mkF mi 32 #[.val (.long a), .second, .val (.long b), .second, .val (.int d), .val (.ref b1), .val (.int (if (0 : Int64) < (8388608 : Int64) then (0 : Int32) else (1 : Int32))), .val (.int (if a < (8388608 : Int64) then (0 : Int32) else (1 : Int32))), .unset, .unset, .unset, .unset, .unset, .unset] [(.long b), (.ref b1)])) P
  obtain ⟨cq9, kq9, q9a, q9b, q9c⟩ := isOf hZ e7 f8
  obtain ⟨_, _, ⟨T9, L9, k9, n9⟩, -, X9, ⟨Lc9, hQ9, l9, y9, z9⟩, st9⟩ := X7.virtualBack hx (y := (⟨"com/example/corduroy/corduroy/HoldBudget", "release", "(J)V"⟩ : MethodName)) (z := (⟨"com/example/corduroy/corduroy/HoldBudget", "release", "(J)V"⟩ : MethodName)) hown (mvT hZ (hw _ (List.mem_of_getElem? (i := 22) rfl))) (mvT hZ (hw _ (List.mem_of_getElem? (i := 23) rfl))) (notFace_of_selects (args := #[]) (mvT hZ (hw _ (List.mem_of_getElem? (i := 25) rfl)))) (mvT hZ (hw _ (List.mem_of_getElem? (i := 25) rfl))) (mvT hZ (hw _ (List.mem_of_getElem? (i := 24) rfl))) (by decide) (backOf (W := 0) (rmR l Z a0 hw [] b1 b a h5 n0 Zs6 F5 f8 g_b1) hZ (hw _ (List.mem_of_getElem? (i := 26) rfl)) (hw _ (List.mem_of_getElem? (i := 2) rfl)) (by decide) (by decide)) q9a q9c (g := (mkF mi 32 #[.val (.long a), .second, .val (.long b), .second, .val (.int d), .val (.ref b1), .val (.int (if (0 : Int64) < (8388608 : Int64) then (0 : Int32) else (1 : Int32))), .val (.int (if a < (8388608 : Int64) then (0 : Int32) else (1 : Int32))), .unset, .unset, .unset, .unset, .unset, .unset] [(.long b), (.ref b1)])) rfl (by rw [hml]; rfl) (Steps.refl _) (argsL := [(.long b)]) (rest := []) (lenOf pd_2 rfl) rfl (by show 2 * 0 + _ ≤ _; exact Nat.le_of_eq rfl) (hb hby at_32) (fun _ _ => ⟨rfl, e7, (by decide : 1 + 0 ≤ _), (by decide : 1 + 0 ≤ _)⟩)
  dsimp only [Pt.U, Pt.locs, Pt.cells, Pt.slots] at X9 l9 y9 z9 st9 hQ9
  subst l9 y9 z9
  obtain ⟨h9, e9⟩ : ∃ z, T9.heap = z := ⟨_, rfl⟩
  rw [e9] at hQ9
  obtain ⟨rfl, N9q, K9, F9⟩ := hQ9
  have N9 := Fr.app N7 N9q
  have Zs10 : n0 ≤ h9.size := Nat.le_trans Zs6 K9.1
  refine Go.tr st9 ?_
  show Go pg.tables ev below (T9.setTop (mkF mi 35 #[.val (.long a), .second, .val (.long b), .second, .val (.int d), .val (.ref b1), .val (.int (if (0 : Int64) < (8388608 : Int64) then (0 : Int32) else (1 : Int32))), .val (.int (if a < (8388608 : Int64) then (0 : Int32) else (1 : Int32))), .unset, .unset, .unset, .unset, .unset, .unset] [])) P
  refine Go.st (fun t_ k_ => XS.aload X9.here hx rfl (hb hby at_35) rfl rfl k_) ?_
  show Go pg.tables ev below (T9.setTop (mkF mi 37 #[.val (.long a), .second, .val (.long b), .second, .val (.int d), .val (.ref b1), .val (.int (if (0 : Int64) < (8388608 : Int64) then (0 : Int32) else (1 : Int32))), .val (.int (if a < (8388608 : Int64) then (0 : Int32) else (1 : Int32))), .unset, .unset, .unset, .unset, .unset, .unset] [(.ref b1)])) P
  have f12 := (f8.keep K9)
  obtain ⟨cq11, kq11, q11a, q11b, q11c⟩ := isOf hZ e9 f12
  obtain ⟨_, _, ⟨T11, L11, k11, n11⟩, -, X11, ⟨Lc11, hQ11, l11, y11, z11⟩, st11⟩ := X9.virtualBack hx (y := (⟨"com/example/corduroy/corduroy/HoldBudget", "isSpent", "()Z"⟩ : MethodName)) (z := (⟨"com/example/corduroy/corduroy/HoldBudget", "isSpent", "()Z"⟩ : MethodName)) hown (mvT hZ (hw _ (List.mem_of_getElem? (i := 9) rfl))) (mvT hZ (hw _ (List.mem_of_getElem? (i := 10) rfl))) (notFace_of_selects (args := #[]) (mvT hZ (hw _ (List.mem_of_getElem? (i := 12) rfl)))) (mvT hZ (hw _ (List.mem_of_getElem? (i := 12) rfl))) (mvT hZ (hw _ (List.mem_of_getElem? (i := 11) rfl))) (by decide) (backOf (W := 0) (rmS l Z a0 hw [] b1 (a - b) h9 n0 Zs10 F9) hZ (hw _ (List.mem_of_getElem? (i := 13) rfl)) (hw _ (List.mem_of_getElem? (i := 2) rfl)) (by decide) (by decide)) q11a q11c (g := (mkF mi 37 #[.val (.long a), .second, .val (.long b), .second, .val (.int d), .val (.ref b1), .val (.int (if (0 : Int64) < (8388608 : Int64) then (0 : Int32) else (1 : Int32))), .val (.int (if a < (8388608 : Int64) then (0 : Int32) else (1 : Int32))), .unset, .unset, .unset, .unset, .unset, .unset] [(.ref b1)])) rfl (by rw [hml]; rfl) (Steps.refl _) (argsL := []) (rest := []) (lenOf pd_1 rfl) rfl (by show 2 * 0 + _ ≤ _; exact Nat.le_of_eq rfl) (hb hby at_37) (fun _ _ => ⟨rfl, e9, (by decide : 1 + 0 ≤ _), (by decide : 1 + 0 ≤ _)⟩)
  dsimp only [Pt.U, Pt.locs, Pt.cells, Pt.slots] at X11 l11 y11 z11 st11 hQ11
  subst l11 y11 z11
  obtain ⟨rfl, N11q, e11⟩ := hQ11
  have N11 := Fr.app N9 N11q
  refine Go.tr st11 ?_
  show Go pg.tables ev below (T11.setTop (mkF mi 40 #[.val (.long a), .second, .val (.long b), .second, .val (.int d), .val (.ref b1), .val (.int (if (0 : Int64) < (8388608 : Int64) then (0 : Int32) else (1 : Int32))), .val (.int (if a < (8388608 : Int64) then (0 : Int32) else (1 : Int32))), .unset, .unset, .unset, .unset, .unset, .unset] [(.int (if (a - b) < (8388608 : Int64) then (0 : Int32) else (1 : Int32)))])) P
  refine Go.st (fun t_ k_ => XS.istore X11.here hx rfl (hb hby at_40) rfl (l' := #[.val (.long a), .second, .val (.long b), .second, .val (.int d), .val (.ref b1), .val (.int (if (0 : Int64) < (8388608 : Int64) then (0 : Int32) else (1 : Int32))), .val (.int (if a < (8388608 : Int64) then (0 : Int32) else (1 : Int32))), .val (.int (if (a - b) < (8388608 : Int64) then (0 : Int32) else (1 : Int32))), .unset, .unset, .unset, .unset, .unset]) rfl k_) ?_
  show Go pg.tables ev below (T11.setTop (mkF mi 42 #[.val (.long a), .second, .val (.long b), .second, .val (.int d), .val (.ref b1), .val (.int (if (0 : Int64) < (8388608 : Int64) then (0 : Int32) else (1 : Int32))), .val (.int (if a < (8388608 : Int64) then (0 : Int32) else (1 : Int32))), .val (.int (if (a - b) < (8388608 : Int64) then (0 : Int32) else (1 : Int32))), .unset, .unset, .unset, .unset, .unset] [])) P
  obtain ⟨T13, h13, X13, e13, E13, A13, D13, -, st13⟩ := newO X11 hx hZ hown (hw _ (List.mem_of_getElem? (i := 0) rfl)) (hw _ (List.mem_of_getElem? (i := 1) rfl)) (hw _ (List.mem_of_getElem? (i := 2) rfl)) e11 (g := (mkF mi 42 #[.val (.long a), .second, .val (.long b), .second, .val (.int d), .val (.ref b1), .val (.int (if (0 : Int64) < (8388608 : Int64) then (0 : Int32) else (1 : Int32))), .val (.int (if a < (8388608 : Int64) then (0 : Int32) else (1 : Int32))), .val (.int (if (a - b) < (8388608 : Int64) then (0 : Int32) else (1 : Int32))), .unset, .unset, .unset, .unset, .unset] [])) rfl (hb hby at_42) (by decide) (by decide)
  obtain ⟨b13, g13⟩ : ∃ z, z = h9.size := ⟨_, rfl⟩
  rw [← g13] at A13 D13 st13
  have Zs14 : n0 ≤ h13.size := Nat.le_trans Zs10 E13.1
  have g_b13 : n0 ≤ b13 := Nat.le_trans Zs10 (Nat.le_of_eq g13.symm)
  have ne_b1_b13 : b1 ≠ b13 := Nat.ne_of_lt (Nat.lt_of_lt_of_le f12.lt (Nat.le_of_eq g13.symm))
  have F13_15 : Fld Z h13 b13 "com/example/corduroy/corduroy/HoldBudget" "heldBytes" "J" (.long (0 : Int64)) := D13 (Or.inl (hw _ (List.mem_of_getElem? (i := 15) rfl))) (ty := .long) (by decide)
  refine Go.st st13 ?_
  show Go pg.tables ev below (T13.setTop (mkF mi 45 #[.val (.long a), .second, .val (.long b), .second, .val (.int d), .val (.ref b1), .val (.int (if (0 : Int64) < (8388608 : Int64) then (0 : Int32) else (1 : Int32))), .val (.int (if a < (8388608 : Int64) then (0 : Int32) else (1 : Int32))), .val (.int (if (a - b) < (8388608 : Int64) then (0 : Int32) else (1 : Int32))), .unset, .unset, .unset, .unset, .unset] [(.ref b13)])) P
  refine Go.st (fun t_ k_ => XS.dup X13.here hx rfl (hb hby at_45) rfl rfl k_) ?_
  show Go pg.tables ev below (T13.setTop (mkF mi 46 #[.val (.long a), .second, .val (.long b), .second, .val (.int d), .val (.ref b1), .val (.int (if (0 : Int64) < (8388608 : Int64) then (0 : Int32) else (1 : Int32))), .val (.int (if a < (8388608 : Int64) then (0 : Int32) else (1 : Int32))), .val (.int (if (a - b) < (8388608 : Int64) then (0 : Int32) else (1 : Int32))), .unset, .unset, .unset, .unset, .unset] [(.ref b13), (.ref b13)])) P
  obtain ⟨_, _, ⟨T15, L15, k15, n15⟩, -, X15, ⟨Lc15, hQ15, l15, y15, z15⟩, st15⟩ := X13.specialBack hx (y := (⟨"com/example/corduroy/corduroy/HoldBudget", "<init>", "()V"⟩ : MethodName)) rfl hown (mvT hZ (hw _ (List.mem_of_getElem? (i := 3) rfl))) (mvT hZ (hw _ (List.mem_of_getElem? (i := 4) rfl))) (mvT hZ (hw _ (List.mem_of_getElem? (i := 5) rfl))) (by decide) (backOf (W := 1) (rmI l Z a0 hw [] b13 h13 n0 Zs14) hZ (hw _ (List.mem_of_getElem? (i := 5) rfl)) (hw _ (List.mem_of_getElem? (i := 2) rfl)) (by decide) (by decide)) (g := (mkF mi 46 #[.val (.long a), .second, .val (.long b), .second, .val (.int d), .val (.ref b1), .val (.int (if (0 : Int64) < (8388608 : Int64) then (0 : Int32) else (1 : Int32))), .val (.int (if a < (8388608 : Int64) then (0 : Int32) else (1 : Int32))), .val (.int (if (a - b) < (8388608 : Int64) then (0 : Int32) else (1 : Int32))), .unset, .unset, .unset, .unset, .unset] [(.ref b13), (.ref b13)])) rfl (by rw [hml]; rfl) (Steps.refl _) (a := b13) (argsL := []) (rest := [(.ref b13)]) (lenOf pd_0 rfl) rfl (by show 2 * 0 + _ ≤ _; exact Nat.le_of_eq rfl) (hb hby at_46) (fun _ _ => ⟨rfl, e13, (by decide : 2 + 0 ≤ _), (by decide : 2 + 0 ≤ _)⟩)
  dsimp only [Pt.U, Pt.locs, Pt.cells, Pt.slots] at X15 l15 y15 z15 st15 hQ15
  subst l15 y15 z15
  obtain ⟨rfl, N15q, e15⟩ := hQ15
  have N15 := Fr.app N11 N15q
  refine Go.tr st15 ?_
  show Go pg.tables ev below (T15.setTop (mkF mi 49 #[.val (.long a), .second, .val (.long b), .second, .val (.int d), .val (.ref b1), .val (.int (if (0 : Int64) < (8388608 : Int64) then (0 : Int32) else (1 : Int32))), .val (.int (if a < (8388608 : Int64) then (0 : Int32) else (1 : Int32))), .val (.int (if (a - b) < (8388608 : Int64) then (0 : Int32) else (1 : Int32))), .unset, .unset, .unset, .unset, .unset] [(.ref b13)])) P
  refine Go.st (fun t_ k_ => XS.astore X15.here hx rfl (hb hby at_49) rfl rfl (l' := #[.val (.long a), .second, .val (.long b), .second, .val (.int d), .val (.ref b1), .val (.int (if (0 : Int64) < (8388608 : Int64) then (0 : Int32) else (1 : Int32))), .val (.int (if a < (8388608 : Int64) then (0 : Int32) else (1 : Int32))), .val (.int (if (a - b) < (8388608 : Int64) then (0 : Int32) else (1 : Int32))), .val (.ref b13), .unset, .unset, .unset, .unset]) rfl k_) ?_
  show Go pg.tables ev below (T15.setTop (mkF mi 51 #[.val (.long a), .second, .val (.long b), .second, .val (.int d), .val (.ref b1), .val (.int (if (0 : Int64) < (8388608 : Int64) then (0 : Int32) else (1 : Int32))), .val (.int (if a < (8388608 : Int64) then (0 : Int32) else (1 : Int32))), .val (.int (if (a - b) < (8388608 : Int64) then (0 : Int32) else (1 : Int32))), .val (.ref b13), .unset, .unset, .unset, .unset] [])) P
  refine Go.st (fun t_ k_ => XS.aload X15.here hx rfl (hb hby at_51) rfl rfl k_) ?_
  show Go pg.tables ev below (T15.setTop (mkF mi 53 #[.val (.long a), .second, .val (.long b), .second, .val (.int d), .val (.ref b1), .val (.int (if (0 : Int64) < (8388608 : Int64) then (0 : Int32) else (1 : Int32))), .val (.int (if a < (8388608 : Int64) then (0 : Int32) else (1 : Int32))), .val (.int (if (a - b) < (8388608 : Int64) then (0 : Int32) else (1 : Int32))), .val (.ref b13), .unset, .unset, .unset, .unset] [(.ref b13)])) P
  refine Go.st (X15.ldc2Long hx hown (mvT hZ (hw _ (List.mem_of_getElem? (i := 27) rfl))) (g := (mkF mi 53 #[.val (.long a), .second, .val (.long b), .second, .val (.int d), .val (.ref b1), .val (.int (if (0 : Int64) < (8388608 : Int64) then (0 : Int32) else (1 : Int32))), .val (.int (if a < (8388608 : Int64) then (0 : Int32) else (1 : Int32))), .val (.int (if (a - b) < (8388608 : Int64) then (0 : Int32) else (1 : Int32))), .val (.ref b13), .unset, .unset, .unset, .unset] [(.ref b13)])) rfl (hb hby at_53)) ?_
  show Go pg.tables ev below (T15.setTop (mkF mi 56 #[.val (.long a), .second, .val (.long b), .second, .val (.int d), .val (.ref b1), .val (.int (if (0 : Int64) < (8388608 : Int64) then (0 : Int32) else (1 : Int32))), .val (.int (if a < (8388608 : Int64) then (0 : Int32) else (1 : Int32))), .val (.int (if (a - b) < (8388608 : Int64) then (0 : Int32) else (1 : Int32))), .val (.ref b13), .unset, .unset, .unset, .unset] [(.long (8388608 : Int64)), (.ref b13)])) P
  refine Go.st (fun t_ k_ => XS.iload X15.here hx rfl (hb hby at_56) rfl k_) ?_
  show Go pg.tables ev below (T15.setTop (mkF mi 58 #[.val (.long a), .second, .val (.long b), .second, .val (.int d), .val (.ref b1), .val (.int (if (0 : Int64) < (8388608 : Int64) then (0 : Int32) else (1 : Int32))), .val (.int (if a < (8388608 : Int64) then (0 : Int32) else (1 : Int32))), .val (.int (if (a - b) < (8388608 : Int64) then (0 : Int32) else (1 : Int32))), .val (.ref b13), .unset, .unset, .unset, .unset] [(.int d), (.long (8388608 : Int64)), (.ref b13)])) P
  refine Go.st (fun t_ k_ => XS.i2l X15.here hx rfl (hb hby at_58) rfl k_) ?_
  show Go pg.tables ev below (T15.setTop (mkF mi 59 #[.val (.long a), .second, .val (.long b), .second, .val (.int d), .val (.ref b1), .val (.int (if (0 : Int64) < (8388608 : Int64) then (0 : Int32) else (1 : Int32))), .val (.int (if a < (8388608 : Int64) then (0 : Int32) else (1 : Int32))), .val (.int (if (a - b) < (8388608 : Int64) then (0 : Int32) else (1 : Int32))), .val (.ref b13), .unset, .unset, .unset, .unset] [(.long (d.toInt64)), (.long (8388608 : Int64)), (.ref b13)])) P
  refine Go.st (fun t_ k_ => XS.ladd X15.here hx rfl (hb hby at_59) rfl k_) ?_
  show Go pg.tables ev below (T15.setTop (mkF mi 60 #[.val (.long a), .second, .val (.long b), .second, .val (.int d), .val (.ref b1), .val (.int (if (0 : Int64) < (8388608 : Int64) then (0 : Int32) else (1 : Int32))), .val (.int (if a < (8388608 : Int64) then (0 : Int32) else (1 : Int32))), .val (.int (if (a - b) < (8388608 : Int64) then (0 : Int32) else (1 : Int32))), .val (.ref b13), .unset, .unset, .unset, .unset] [(.long ((8388608 : Int64) + (d.toInt64))), (.ref b13)])) P
  obtain ⟨cq16, kq16, q16a, q16b, q16c⟩ := isOf hZ e15 A13
  obtain ⟨_, _, ⟨T16, L16, k16, n16⟩, -, X16, ⟨Lc16, hQ16, l16, y16, z16⟩, st16⟩ := X15.virtualBack hx (y := (⟨"com/example/corduroy/corduroy/HoldBudget", "hold", "(J)V"⟩ : MethodName)) (z := (⟨"com/example/corduroy/corduroy/HoldBudget", "hold", "(J)V"⟩ : MethodName)) hown (mvT hZ (hw _ (List.mem_of_getElem? (i := 17) rfl))) (mvT hZ (hw _ (List.mem_of_getElem? (i := 18) rfl))) (notFace_of_selects (args := #[]) (mvT hZ (hw _ (List.mem_of_getElem? (i := 20) rfl)))) (mvT hZ (hw _ (List.mem_of_getElem? (i := 20) rfl))) (mvT hZ (hw _ (List.mem_of_getElem? (i := 19) rfl))) (by decide) (backOf (W := 0) (rmH l Z a0 hw [] b13 ((8388608 : Int64) + (d.toInt64)) (0 : Int64) h13 n0 Zs14 F13_15 A13 g_b13) hZ (hw _ (List.mem_of_getElem? (i := 21) rfl)) (hw _ (List.mem_of_getElem? (i := 2) rfl)) (by decide) (by decide)) q16a q16c (g := (mkF mi 60 #[.val (.long a), .second, .val (.long b), .second, .val (.int d), .val (.ref b1), .val (.int (if (0 : Int64) < (8388608 : Int64) then (0 : Int32) else (1 : Int32))), .val (.int (if a < (8388608 : Int64) then (0 : Int32) else (1 : Int32))), .val (.int (if (a - b) < (8388608 : Int64) then (0 : Int32) else (1 : Int32))), .val (.ref b13), .unset, .unset, .unset, .unset] [(.long ((8388608 : Int64) + (d.toInt64))), (.ref b13)])) rfl (by rw [hml]; rfl) (Steps.refl _) (argsL := [(.long ((8388608 : Int64) + (d.toInt64)))]) (rest := []) (lenOf pd_2 rfl) rfl (by show 2 * 0 + _ ≤ _; exact Nat.le_of_eq rfl) (hb hby at_60) (fun _ _ => ⟨rfl, e15, (by decide : 2 + 0 ≤ _), (by decide : 2 + 0 ≤ _)⟩)
  dsimp only [Pt.U, Pt.locs, Pt.cells, Pt.slots] at X16 l16 y16 z16 st16 hQ16
  subst l16 y16 z16
  obtain ⟨h16, e16⟩ : ∃ z, T16.heap = z := ⟨_, rfl⟩
  rw [e16] at hQ16
  obtain ⟨rfl, N16q, K16, F16⟩ := hQ16
  have N16 := Fr.app N15 N16q
  have Zs17 : n0 ≤ h16.size := Nat.le_trans Zs14 K16.1
  rw [Int64.zero_add] at F16
  refine Go.tr st16 ?_
  show Go pg.tables ev below (T16.setTop (mkF mi 63 #[.val (.long a), .second, .val (.long b), .second, .val (.int d), .val (.ref b1), .val (.int (if (0 : Int64) < (8388608 : Int64) then (0 : Int32) else (1 : Int32))), .val (.int (if a < (8388608 : Int64) then (0 : Int32) else (1 : Int32))), .val (.int (if (a - b) < (8388608 : Int64) then (0 : Int32) else (1 : Int32))), .val (.ref b13), .unset, .unset, .unset, .unset] [])) P
  refine Go.st (fun t_ k_ => XS.aload X16.here hx rfl (hb hby at_63) rfl rfl k_) ?_
  show Go pg.tables ev below (T16.setTop (mkF mi 65 #[.val (.long a), .second, .val (.long b), .second, .val (.int d), .val (.ref b1), .val (.int (if (0 : Int64) < (8388608 : Int64) then (0 : Int32) else (1 : Int32))), .val (.int (if a < (8388608 : Int64) then (0 : Int32) else (1 : Int32))), .val (.int (if (a - b) < (8388608 : Int64) then (0 : Int32) else (1 : Int32))), .val (.ref b13), .unset, .unset, .unset, .unset] [(.ref b13)])) P
  have f19 := (A13.keep K16)
  obtain ⟨cq18, kq18, q18a, q18b, q18c⟩ := isOf hZ e16 f19
  obtain ⟨_, _, ⟨T18, L18, k18, n18⟩, -, X18, ⟨Lc18, hQ18, l18, y18, z18⟩, st18⟩ := X16.virtualBack hx (y := (⟨"com/example/corduroy/corduroy/HoldBudget", "isSpent", "()Z"⟩ : MethodName)) (z := (⟨"com/example/corduroy/corduroy/HoldBudget", "isSpent", "()Z"⟩ : MethodName)) hown (mvT hZ (hw _ (List.mem_of_getElem? (i := 9) rfl))) (mvT hZ (hw _ (List.mem_of_getElem? (i := 10) rfl))) (notFace_of_selects (args := #[]) (mvT hZ (hw _ (List.mem_of_getElem? (i := 12) rfl)))) (mvT hZ (hw _ (List.mem_of_getElem? (i := 12) rfl))) (mvT hZ (hw _ (List.mem_of_getElem? (i := 11) rfl))) (by decide) (backOf (W := 0) (rmS l Z a0 hw [] b13 ((8388608 : Int64) + (d.toInt64)) h16 n0 Zs17 F16) hZ (hw _ (List.mem_of_getElem? (i := 13) rfl)) (hw _ (List.mem_of_getElem? (i := 2) rfl)) (by decide) (by decide)) q18a q18c (g := (mkF mi 65 #[.val (.long a), .second, .val (.long b), .second, .val (.int d), .val (.ref b1), .val (.int (if (0 : Int64) < (8388608 : Int64) then (0 : Int32) else (1 : Int32))), .val (.int (if a < (8388608 : Int64) then (0 : Int32) else (1 : Int32))), .val (.int (if (a - b) < (8388608 : Int64) then (0 : Int32) else (1 : Int32))), .val (.ref b13), .unset, .unset, .unset, .unset] [(.ref b13)])) rfl (by rw [hml]; rfl) (Steps.refl _) (argsL := []) (rest := []) (lenOf pd_1 rfl) rfl (by show 2 * 0 + _ ≤ _; exact Nat.le_of_eq rfl) (hb hby at_65) (fun _ _ => ⟨rfl, e16, (by decide : 2 + 0 ≤ _), (by decide : 2 + 0 ≤ _)⟩)
  dsimp only [Pt.U, Pt.locs, Pt.cells, Pt.slots] at X18 l18 y18 z18 st18 hQ18
  subst l18 y18 z18
  obtain ⟨rfl, N18q, e18⟩ := hQ18
  have N18 := Fr.app N16 N18q
  refine Go.tr st18 ?_
  show Go pg.tables ev below (T18.setTop (mkF mi 68 #[.val (.long a), .second, .val (.long b), .second, .val (.int d), .val (.ref b1), .val (.int (if (0 : Int64) < (8388608 : Int64) then (0 : Int32) else (1 : Int32))), .val (.int (if a < (8388608 : Int64) then (0 : Int32) else (1 : Int32))), .val (.int (if (a - b) < (8388608 : Int64) then (0 : Int32) else (1 : Int32))), .val (.ref b13), .unset, .unset, .unset, .unset] [(.int (if ((8388608 : Int64) + (d.toInt64)) < (8388608 : Int64) then (0 : Int32) else (1 : Int32)))])) P
  refine Go.st (fun t_ k_ => XS.istore X18.here hx rfl (hb hby at_68) rfl (l' := #[.val (.long a), .second, .val (.long b), .second, .val (.int d), .val (.ref b1), .val (.int (if (0 : Int64) < (8388608 : Int64) then (0 : Int32) else (1 : Int32))), .val (.int (if a < (8388608 : Int64) then (0 : Int32) else (1 : Int32))), .val (.int (if (a - b) < (8388608 : Int64) then (0 : Int32) else (1 : Int32))), .val (.ref b13), .val (.int (if ((8388608 : Int64) + (d.toInt64)) < (8388608 : Int64) then (0 : Int32) else (1 : Int32))), .unset, .unset, .unset]) rfl k_) ?_
  show Go pg.tables ev below (T18.setTop (mkF mi 70 #[.val (.long a), .second, .val (.long b), .second, .val (.int d), .val (.ref b1), .val (.int (if (0 : Int64) < (8388608 : Int64) then (0 : Int32) else (1 : Int32))), .val (.int (if a < (8388608 : Int64) then (0 : Int32) else (1 : Int32))), .val (.int (if (a - b) < (8388608 : Int64) then (0 : Int32) else (1 : Int32))), .val (.ref b13), .val (.int (if ((8388608 : Int64) + (d.toInt64)) < (8388608 : Int64) then (0 : Int32) else (1 : Int32))), .unset, .unset, .unset] [])) P
  refine Go.st (fun t_ k_ => XS.lloadN X18.here hx rfl (hb hby at_70) rfl k_) ?_
  show Go pg.tables ev below (T18.setTop (mkF mi 71 #[.val (.long a), .second, .val (.long b), .second, .val (.int d), .val (.ref b1), .val (.int (if (0 : Int64) < (8388608 : Int64) then (0 : Int32) else (1 : Int32))), .val (.int (if a < (8388608 : Int64) then (0 : Int32) else (1 : Int32))), .val (.int (if (a - b) < (8388608 : Int64) then (0 : Int32) else (1 : Int32))), .val (.ref b13), .val (.int (if ((8388608 : Int64) + (d.toInt64)) < (8388608 : Int64) then (0 : Int32) else (1 : Int32))), .unset, .unset, .unset] [(.long a)])) P
  refine Go.st (fun t_ k_ => XS.lloadN X18.here hx rfl (hb hby at_71) rfl k_) ?_
  show Go pg.tables ev below (T18.setTop (mkF mi 72 #[.val (.long a), .second, .val (.long b), .second, .val (.int d), .val (.ref b1), .val (.int (if (0 : Int64) < (8388608 : Int64) then (0 : Int32) else (1 : Int32))), .val (.int (if a < (8388608 : Int64) then (0 : Int32) else (1 : Int32))), .val (.int (if (a - b) < (8388608 : Int64) then (0 : Int32) else (1 : Int32))), .val (.ref b13), .val (.int (if ((8388608 : Int64) + (d.toInt64)) < (8388608 : Int64) then (0 : Int32) else (1 : Int32))), .unset, .unset, .unset] [(.long b), (.long a)])) P
  refine Go.st (fun t_ k_ => XS.lsub X18.here hx rfl (hb hby at_72) rfl k_) ?_
  show Go pg.tables ev below (T18.setTop (mkF mi 73 #[.val (.long a), .second, .val (.long b), .second, .val (.int d), .val (.ref b1), .val (.int (if (0 : Int64) < (8388608 : Int64) then (0 : Int32) else (1 : Int32))), .val (.int (if a < (8388608 : Int64) then (0 : Int32) else (1 : Int32))), .val (.int (if (a - b) < (8388608 : Int64) then (0 : Int32) else (1 : Int32))), .val (.ref b13), .val (.int (if ((8388608 : Int64) + (d.toInt64)) < (8388608 : Int64) then (0 : Int32) else (1 : Int32))), .unset, .unset, .unset] [(.long (a - b))])) P
  refine Go.st (fun t_ k_ => XS.lstore X18.here hx rfl (hb hby at_73) rfl (l' := #[.val (.long a), .second, .val (.long b), .second, .val (.int d), .val (.ref b1), .val (.int (if (0 : Int64) < (8388608 : Int64) then (0 : Int32) else (1 : Int32))), .val (.int (if a < (8388608 : Int64) then (0 : Int32) else (1 : Int32))), .val (.int (if (a - b) < (8388608 : Int64) then (0 : Int32) else (1 : Int32))), .val (.ref b13), .val (.int (if ((8388608 : Int64) + (d.toInt64)) < (8388608 : Int64) then (0 : Int32) else (1 : Int32))), .val (.long (a - b)), .second, .unset]) rfl k_) ?_
  show Go pg.tables ev below (T18.setTop (mkF mi 75 #[.val (.long a), .second, .val (.long b), .second, .val (.int d), .val (.ref b1), .val (.int (if (0 : Int64) < (8388608 : Int64) then (0 : Int32) else (1 : Int32))), .val (.int (if a < (8388608 : Int64) then (0 : Int32) else (1 : Int32))), .val (.int (if (a - b) < (8388608 : Int64) then (0 : Int32) else (1 : Int32))), .val (.ref b13), .val (.int (if ((8388608 : Int64) + (d.toInt64)) < (8388608 : Int64) then (0 : Int32) else (1 : Int32))), .val (.long (a - b)), .second, .unset] [])) P
  refine Go.st (fun t_ k_ => XS.iconst X18.here hx rfl (hb hby at_75) k_) ?_
  show Go pg.tables ev below (T18.setTop (mkF mi 76 #[.val (.long a), .second, .val (.long b), .second, .val (.int d), .val (.ref b1), .val (.int (if (0 : Int64) < (8388608 : Int64) then (0 : Int32) else (1 : Int32))), .val (.int (if a < (8388608 : Int64) then (0 : Int32) else (1 : Int32))), .val (.int (if (a - b) < (8388608 : Int64) then (0 : Int32) else (1 : Int32))), .val (.ref b13), .val (.int (if ((8388608 : Int64) + (d.toInt64)) < (8388608 : Int64) then (0 : Int32) else (1 : Int32))), .val (.long (a - b)), .second, .unset] [(.int (1 : Int32))])) P
  refine Go.st (fun t_ k_ => XS.istore X18.here hx rfl (hb hby at_76) rfl (l' := #[.val (.long a), .second, .val (.long b), .second, .val (.int d), .val (.ref b1), .val (.int (if (0 : Int64) < (8388608 : Int64) then (0 : Int32) else (1 : Int32))), .val (.int (if a < (8388608 : Int64) then (0 : Int32) else (1 : Int32))), .val (.int (if (a - b) < (8388608 : Int64) then (0 : Int32) else (1 : Int32))), .val (.ref b13), .val (.int (if ((8388608 : Int64) + (d.toInt64)) < (8388608 : Int64) then (0 : Int32) else (1 : Int32))), .val (.long (a - b)), .second, .val (.int (1 : Int32))]) rfl k_) ?_
  show Go pg.tables ev below (T18.setTop (mkF mi 78 #[.val (.long a), .second, .val (.long b), .second, .val (.int d), .val (.ref b1), .val (.int (if (0 : Int64) < (8388608 : Int64) then (0 : Int32) else (1 : Int32))), .val (.int (if a < (8388608 : Int64) then (0 : Int32) else (1 : Int32))), .val (.int (if (a - b) < (8388608 : Int64) then (0 : Int32) else (1 : Int32))), .val (.ref b13), .val (.int (if ((8388608 : Int64) + (d.toInt64)) < (8388608 : Int64) then (0 : Int32) else (1 : Int32))), .val (.long (a - b)), .second, .val (.int (1 : Int32))] [])) P
  refine Go.st (fun t_ k_ => XS.iload X18.here hx rfl (hb hby at_78) rfl k_) ?_
  show Go pg.tables ev below (T18.setTop (mkF mi 80 #[.val (.long a), .second, .val (.long b), .second, .val (.int d), .val (.ref b1), .val (.int (if (0 : Int64) < (8388608 : Int64) then (0 : Int32) else (1 : Int32))), .val (.int (if a < (8388608 : Int64) then (0 : Int32) else (1 : Int32))), .val (.int (if (a - b) < (8388608 : Int64) then (0 : Int32) else (1 : Int32))), .val (.ref b13), .val (.int (if ((8388608 : Int64) + (d.toInt64)) < (8388608 : Int64) then (0 : Int32) else (1 : Int32))), .val (.long (a - b)), .second, .val (.int (1 : Int32))] [(.int (if (0 : Int64) < (8388608 : Int64) then (0 : Int32) else (1 : Int32)))])) P
  refine Go.st (fun t_ k_ => XS.ifYes X18.here hx rfl (pc0 := 80) (pc' := 86) rfl (hb hby at_80) rfl ((if0 _ _).trans (teq (show (if (0 : Int64) < (8388608 : Int64) then (0 : Int32) else (1 : Int32)) = (0 : Int32) from (by rw [if_pos (by decide : (0 : Int64) < (8388608 : Int64))] <;> decide))).1) (by decide) (by decide) k_) ?_
  show Go pg.tables ev below (T18.setTop (mkF mi 86 #[.val (.long a), .second, .val (.long b), .second, .val (.int d), .val (.ref b1), .val (.int (if (0 : Int64) < (8388608 : Int64) then (0 : Int32) else (1 : Int32))), .val (.int (if a < (8388608 : Int64) then (0 : Int32) else (1 : Int32))), .val (.int (if (a - b) < (8388608 : Int64) then (0 : Int32) else (1 : Int32))), .val (.ref b13), .val (.int (if ((8388608 : Int64) + (d.toInt64)) < (8388608 : Int64) then (0 : Int32) else (1 : Int32))), .val (.long (a - b)), .second, .val (.int (1 : Int32))] [])) P
  refine Go.st (fun t_ k_ => XS.iload X18.here hx rfl (hb hby at_86) rfl k_) ?_
  show Go pg.tables ev below (T18.setTop (mkF mi 88 #[.val (.long a), .second, .val (.long b), .second, .val (.int d), .val (.ref b1), .val (.int (if (0 : Int64) < (8388608 : Int64) then (0 : Int32) else (1 : Int32))), .val (.int (if a < (8388608 : Int64) then (0 : Int32) else (1 : Int32))), .val (.int (if (a - b) < (8388608 : Int64) then (0 : Int32) else (1 : Int32))), .val (.ref b13), .val (.int (if ((8388608 : Int64) + (d.toInt64)) < (8388608 : Int64) then (0 : Int32) else (1 : Int32))), .val (.long (a - b)), .second, .val (.int (1 : Int32))] [(.int (if a < (8388608 : Int64) then (0 : Int32) else (1 : Int32)))])) P
  refine Go.st (fun t_ k_ => XS.lloadN X18.here hx rfl (hb hby at_88) rfl k_) ?_
  show Go pg.tables ev below (T18.setTop (mkF mi 89 #[.val (.long a), .second, .val (.long b), .second, .val (.int d), .val (.ref b1), .val (.int (if (0 : Int64) < (8388608 : Int64) then (0 : Int32) else (1 : Int32))), .val (.int (if a < (8388608 : Int64) then (0 : Int32) else (1 : Int32))), .val (.int (if (a - b) < (8388608 : Int64) then (0 : Int32) else (1 : Int32))), .val (.ref b13), .val (.int (if ((8388608 : Int64) + (d.toInt64)) < (8388608 : Int64) then (0 : Int32) else (1 : Int32))), .val (.long (a - b)), .second, .val (.int (1 : Int32))] [(.long a), (.int (if a < (8388608 : Int64) then (0 : Int32) else (1 : Int32)))])) P
  refine Go.st (X18.ldc2Long hx hown (mvT hZ (hw _ (List.mem_of_getElem? (i := 27) rfl))) (g := (mkF mi 89 #[.val (.long a), .second, .val (.long b), .second, .val (.int d), .val (.ref b1), .val (.int (if (0 : Int64) < (8388608 : Int64) then (0 : Int32) else (1 : Int32))), .val (.int (if a < (8388608 : Int64) then (0 : Int32) else (1 : Int32))), .val (.int (if (a - b) < (8388608 : Int64) then (0 : Int32) else (1 : Int32))), .val (.ref b13), .val (.int (if ((8388608 : Int64) + (d.toInt64)) < (8388608 : Int64) then (0 : Int32) else (1 : Int32))), .val (.long (a - b)), .second, .val (.int (1 : Int32))] [(.long a), (.int (if a < (8388608 : Int64) then (0 : Int32) else (1 : Int32)))])) rfl (hb hby at_89)) ?_
  show Go pg.tables ev below (T18.setTop (mkF mi 92 #[.val (.long a), .second, .val (.long b), .second, .val (.int d), .val (.ref b1), .val (.int (if (0 : Int64) < (8388608 : Int64) then (0 : Int32) else (1 : Int32))), .val (.int (if a < (8388608 : Int64) then (0 : Int32) else (1 : Int32))), .val (.int (if (a - b) < (8388608 : Int64) then (0 : Int32) else (1 : Int32))), .val (.ref b13), .val (.int (if ((8388608 : Int64) + (d.toInt64)) < (8388608 : Int64) then (0 : Int32) else (1 : Int32))), .val (.long (a - b)), .second, .val (.int (1 : Int32))] [(.long (8388608 : Int64)), (.long a), (.int (if a < (8388608 : Int64) then (0 : Int32) else (1 : Int32)))])) P
  refine Go.st (fun t_ k_ => XS.lcmp X18.here hx rfl (hb hby at_92) rfl k_) ?_
  show Go pg.tables ev below (T18.setTop (mkF mi 93 #[.val (.long a), .second, .val (.long b), .second, .val (.int d), .val (.ref b1), .val (.int (if (0 : Int64) < (8388608 : Int64) then (0 : Int32) else (1 : Int32))), .val (.int (if a < (8388608 : Int64) then (0 : Int32) else (1 : Int32))), .val (.int (if (a - b) < (8388608 : Int64) then (0 : Int32) else (1 : Int32))), .val (.ref b13), .val (.int (if ((8388608 : Int64) + (d.toInt64)) < (8388608 : Int64) then (0 : Int32) else (1 : Int32))), .val (.long (a - b)), .second, .val (.int (1 : Int32))] [(.int (lcmpW a (8388608 : Int64))), (.int (if a < (8388608 : Int64) then (0 : Int32) else (1 : Int32)))])) P
  have dm20 : ∀ t_, Steps pg.tables ev below (T18.setTop (mkF mi 101 #[.val (.long a), .second, .val (.long b), .second, .val (.int d), .val (.ref b1), .val (.int (if (0 : Int64) < (8388608 : Int64) then (0 : Int32) else (1 : Int32))), .val (.int (if a < (8388608 : Int64) then (0 : Int32) else (1 : Int32))), .val (.int (if (a - b) < (8388608 : Int64) then (0 : Int32) else (1 : Int32))), .val (.ref b13), .val (.int (if ((8388608 : Int64) + (d.toInt64)) < (8388608 : Int64) then (0 : Int32) else (1 : Int32))), .val (.long (a - b)), .second, .val (.int (1 : Int32))] [(.int (if a < (8388608 : Int64) then (0 : Int32) else (1 : Int32))), (.int (if a < (8388608 : Int64) then (0 : Int32) else (1 : Int32)))])) t_ → Steps pg.tables ev below (T18.setTop (mkF mi 93 #[.val (.long a), .second, .val (.long b), .second, .val (.int d), .val (.ref b1), .val (.int (if (0 : Int64) < (8388608 : Int64) then (0 : Int32) else (1 : Int32))), .val (.int (if a < (8388608 : Int64) then (0 : Int32) else (1 : Int32))), .val (.int (if (a - b) < (8388608 : Int64) then (0 : Int32) else (1 : Int32))), .val (.ref b13), .val (.int (if ((8388608 : Int64) + (d.toInt64)) < (8388608 : Int64) then (0 : Int32) else (1 : Int32))), .val (.long (a - b)), .second, .val (.int (1 : Int32))] [(.int (lcmpW a (8388608 : Int64))), (.int (if a < (8388608 : Int64) then (0 : Int32) else (1 : Int32)))])) t_ := by
    intro t_ k_
    by_cases hd : a < (8388608 : Int64)
    · refine XS.ifYes X18.here hx rfl (pc0 := 93) (pc' := 100) rfl (hb hby at_93) rfl ((if0 _ _).trans (tlt (own_lt hd)).1) (by decide) (by decide) ?_
      show Steps pg.tables ev below (T18.setTop (mkF mi 100 #[.val (.long a), .second, .val (.long b), .second, .val (.int d), .val (.ref b1), .val (.int (if (0 : Int64) < (8388608 : Int64) then (0 : Int32) else (1 : Int32))), .val (.int (if a < (8388608 : Int64) then (0 : Int32) else (1 : Int32))), .val (.int (if (a - b) < (8388608 : Int64) then (0 : Int32) else (1 : Int32))), .val (.ref b13), .val (.int (if ((8388608 : Int64) + (d.toInt64)) < (8388608 : Int64) then (0 : Int32) else (1 : Int32))), .val (.long (a - b)), .second, .val (.int (1 : Int32))] [(.int (if a < (8388608 : Int64) then (0 : Int32) else (1 : Int32)))])) t_
      refine XS.iconst X18.here hx rfl (hb hby at_100) ?_
      show Steps pg.tables ev below (T18.setTop (mkF mi 101 #[.val (.long a), .second, .val (.long b), .second, .val (.int d), .val (.ref b1), .val (.int (if (0 : Int64) < (8388608 : Int64) then (0 : Int32) else (1 : Int32))), .val (.int (if a < (8388608 : Int64) then (0 : Int32) else (1 : Int32))), .val (.int (if (a - b) < (8388608 : Int64) then (0 : Int32) else (1 : Int32))), .val (.ref b13), .val (.int (if ((8388608 : Int64) + (d.toInt64)) < (8388608 : Int64) then (0 : Int32) else (1 : Int32))), .val (.long (a - b)), .second, .val (.int (1 : Int32))] [(.int (0 : Int32)), (.int (if a < (8388608 : Int64) then (0 : Int32) else (1 : Int32)))])) t_
      exact own_cst (if_pos hd) k_
    · refine XS.ifNo X18.here hx rfl (hb hby at_93) rfl ((if0 _ _).trans (flt (own_nlt hd)).1) ?_
      show Steps pg.tables ev below (T18.setTop (mkF mi 96 #[.val (.long a), .second, .val (.long b), .second, .val (.int d), .val (.ref b1), .val (.int (if (0 : Int64) < (8388608 : Int64) then (0 : Int32) else (1 : Int32))), .val (.int (if a < (8388608 : Int64) then (0 : Int32) else (1 : Int32))), .val (.int (if (a - b) < (8388608 : Int64) then (0 : Int32) else (1 : Int32))), .val (.ref b13), .val (.int (if ((8388608 : Int64) + (d.toInt64)) < (8388608 : Int64) then (0 : Int32) else (1 : Int32))), .val (.long (a - b)), .second, .val (.int (1 : Int32))] [(.int (if a < (8388608 : Int64) then (0 : Int32) else (1 : Int32)))])) t_
      refine XS.iconst X18.here hx rfl (hb hby at_96) ?_
      show Steps pg.tables ev below (T18.setTop (mkF mi 97 #[.val (.long a), .second, .val (.long b), .second, .val (.int d), .val (.ref b1), .val (.int (if (0 : Int64) < (8388608 : Int64) then (0 : Int32) else (1 : Int32))), .val (.int (if a < (8388608 : Int64) then (0 : Int32) else (1 : Int32))), .val (.int (if (a - b) < (8388608 : Int64) then (0 : Int32) else (1 : Int32))), .val (.ref b13), .val (.int (if ((8388608 : Int64) + (d.toInt64)) < (8388608 : Int64) then (0 : Int32) else (1 : Int32))), .val (.long (a - b)), .second, .val (.int (1 : Int32))] [(.int (1 : Int32)), (.int (if a < (8388608 : Int64) then (0 : Int32) else (1 : Int32)))])) t_
      refine XS.goto X18.here hx rfl (pc0 := 97) (pc' := 101) rfl (hb hby at_97) (by decide) (by decide) ?_
      show Steps pg.tables ev below (T18.setTop (mkF mi 101 #[.val (.long a), .second, .val (.long b), .second, .val (.int d), .val (.ref b1), .val (.int (if (0 : Int64) < (8388608 : Int64) then (0 : Int32) else (1 : Int32))), .val (.int (if a < (8388608 : Int64) then (0 : Int32) else (1 : Int32))), .val (.int (if (a - b) < (8388608 : Int64) then (0 : Int32) else (1 : Int32))), .val (.ref b13), .val (.int (if ((8388608 : Int64) + (d.toInt64)) < (8388608 : Int64) then (0 : Int32) else (1 : Int32))), .val (.long (a - b)), .second, .val (.int (1 : Int32))] [(.int (1 : Int32)), (.int (if a < (8388608 : Int64) then (0 : Int32) else (1 : Int32)))])) t_
      exact own_cst (if_neg hd) k_
  refine Go.st dm20 ?_
  show Go pg.tables ev below (T18.setTop (mkF mi 101 #[.val (.long a), .second, .val (.long b), .second, .val (.int d), .val (.ref b1), .val (.int (if (0 : Int64) < (8388608 : Int64) then (0 : Int32) else (1 : Int32))), .val (.int (if a < (8388608 : Int64) then (0 : Int32) else (1 : Int32))), .val (.int (if (a - b) < (8388608 : Int64) then (0 : Int32) else (1 : Int32))), .val (.ref b13), .val (.int (if ((8388608 : Int64) + (d.toInt64)) < (8388608 : Int64) then (0 : Int32) else (1 : Int32))), .val (.long (a - b)), .second, .val (.int (1 : Int32))] [(.int (if a < (8388608 : Int64) then (0 : Int32) else (1 : Int32))), (.int (if a < (8388608 : Int64) then (0 : Int32) else (1 : Int32)))])) P
  refine Go.st (fun t_ k_ => XS.icmpYes X18.here hx rfl (pc0 := 101) (pc' := 107) rfl (hb hby at_101) rfl (teq rfl).1 (by decide) (by decide) k_) ?_
  show Go pg.tables ev below (T18.setTop (mkF mi 107 #[.val (.long a), .second, .val (.long b), .second, .val (.int d), .val (.ref b1), .val (.int (if (0 : Int64) < (8388608 : Int64) then (0 : Int32) else (1 : Int32))), .val (.int (if a < (8388608 : Int64) then (0 : Int32) else (1 : Int32))), .val (.int (if (a - b) < (8388608 : Int64) then (0 : Int32) else (1 : Int32))), .val (.ref b13), .val (.int (if ((8388608 : Int64) + (d.toInt64)) < (8388608 : Int64) then (0 : Int32) else (1 : Int32))), .val (.long (a - b)), .second, .val (.int (1 : Int32))] [])) P
  refine Go.st (fun t_ k_ => XS.iload X18.here hx rfl (hb hby at_107) rfl k_) ?_
  show Go pg.tables ev below (T18.setTop (mkF mi 109 #[.val (.long a), .second, .val (.long b), .second, .val (.int d), .val (.ref b1), .val (.int (if (0 : Int64) < (8388608 : Int64) then (0 : Int32) else (1 : Int32))), .val (.int (if a < (8388608 : Int64) then (0 : Int32) else (1 : Int32))), .val (.int (if (a - b) < (8388608 : Int64) then (0 : Int32) else (1 : Int32))), .val (.ref b13), .val (.int (if ((8388608 : Int64) + (d.toInt64)) < (8388608 : Int64) then (0 : Int32) else (1 : Int32))), .val (.long (a - b)), .second, .val (.int (1 : Int32))] [(.int (if (a - b) < (8388608 : Int64) then (0 : Int32) else (1 : Int32)))])) P
  refine Go.st (fun t_ k_ => XS.lload X18.here hx rfl (hb hby at_109) rfl k_) ?_
  show Go pg.tables ev below (T18.setTop (mkF mi 111 #[.val (.long a), .second, .val (.long b), .second, .val (.int d), .val (.ref b1), .val (.int (if (0 : Int64) < (8388608 : Int64) then (0 : Int32) else (1 : Int32))), .val (.int (if a < (8388608 : Int64) then (0 : Int32) else (1 : Int32))), .val (.int (if (a - b) < (8388608 : Int64) then (0 : Int32) else (1 : Int32))), .val (.ref b13), .val (.int (if ((8388608 : Int64) + (d.toInt64)) < (8388608 : Int64) then (0 : Int32) else (1 : Int32))), .val (.long (a - b)), .second, .val (.int (1 : Int32))] [(.long (a - b)), (.int (if (a - b) < (8388608 : Int64) then (0 : Int32) else (1 : Int32)))])) P
  refine Go.st (X18.ldc2Long hx hown (mvT hZ (hw _ (List.mem_of_getElem? (i := 27) rfl))) (g := (mkF mi 111 #[.val (.long a), .second, .val (.long b), .second, .val (.int d), .val (.ref b1), .val (.int (if (0 : Int64) < (8388608 : Int64) then (0 : Int32) else (1 : Int32))), .val (.int (if a < (8388608 : Int64) then (0 : Int32) else (1 : Int32))), .val (.int (if (a - b) < (8388608 : Int64) then (0 : Int32) else (1 : Int32))), .val (.ref b13), .val (.int (if ((8388608 : Int64) + (d.toInt64)) < (8388608 : Int64) then (0 : Int32) else (1 : Int32))), .val (.long (a - b)), .second, .val (.int (1 : Int32))] [(.long (a - b)), (.int (if (a - b) < (8388608 : Int64) then (0 : Int32) else (1 : Int32)))])) rfl (hb hby at_111)) ?_
  show Go pg.tables ev below (T18.setTop (mkF mi 114 #[.val (.long a), .second, .val (.long b), .second, .val (.int d), .val (.ref b1), .val (.int (if (0 : Int64) < (8388608 : Int64) then (0 : Int32) else (1 : Int32))), .val (.int (if a < (8388608 : Int64) then (0 : Int32) else (1 : Int32))), .val (.int (if (a - b) < (8388608 : Int64) then (0 : Int32) else (1 : Int32))), .val (.ref b13), .val (.int (if ((8388608 : Int64) + (d.toInt64)) < (8388608 : Int64) then (0 : Int32) else (1 : Int32))), .val (.long (a - b)), .second, .val (.int (1 : Int32))] [(.long (8388608 : Int64)), (.long (a - b)), (.int (if (a - b) < (8388608 : Int64) then (0 : Int32) else (1 : Int32)))])) P
  refine Go.st (fun t_ k_ => XS.lcmp X18.here hx rfl (hb hby at_114) rfl k_) ?_
  show Go pg.tables ev below (T18.setTop (mkF mi 115 #[.val (.long a), .second, .val (.long b), .second, .val (.int d), .val (.ref b1), .val (.int (if (0 : Int64) < (8388608 : Int64) then (0 : Int32) else (1 : Int32))), .val (.int (if a < (8388608 : Int64) then (0 : Int32) else (1 : Int32))), .val (.int (if (a - b) < (8388608 : Int64) then (0 : Int32) else (1 : Int32))), .val (.ref b13), .val (.int (if ((8388608 : Int64) + (d.toInt64)) < (8388608 : Int64) then (0 : Int32) else (1 : Int32))), .val (.long (a - b)), .second, .val (.int (1 : Int32))] [(.int (lcmpW (a - b) (8388608 : Int64))), (.int (if (a - b) < (8388608 : Int64) then (0 : Int32) else (1 : Int32)))])) P
  have dm21 : ∀ t_, Steps pg.tables ev below (T18.setTop (mkF mi 123 #[.val (.long a), .second, .val (.long b), .second, .val (.int d), .val (.ref b1), .val (.int (if (0 : Int64) < (8388608 : Int64) then (0 : Int32) else (1 : Int32))), .val (.int (if a < (8388608 : Int64) then (0 : Int32) else (1 : Int32))), .val (.int (if (a - b) < (8388608 : Int64) then (0 : Int32) else (1 : Int32))), .val (.ref b13), .val (.int (if ((8388608 : Int64) + (d.toInt64)) < (8388608 : Int64) then (0 : Int32) else (1 : Int32))), .val (.long (a - b)), .second, .val (.int (1 : Int32))] [(.int (if (a - b) < (8388608 : Int64) then (0 : Int32) else (1 : Int32))), (.int (if (a - b) < (8388608 : Int64) then (0 : Int32) else (1 : Int32)))])) t_ → Steps pg.tables ev below (T18.setTop (mkF mi 115 #[.val (.long a), .second, .val (.long b), .second, .val (.int d), .val (.ref b1), .val (.int (if (0 : Int64) < (8388608 : Int64) then (0 : Int32) else (1 : Int32))), .val (.int (if a < (8388608 : Int64) then (0 : Int32) else (1 : Int32))), .val (.int (if (a - b) < (8388608 : Int64) then (0 : Int32) else (1 : Int32))), .val (.ref b13), .val (.int (if ((8388608 : Int64) + (d.toInt64)) < (8388608 : Int64) then (0 : Int32) else (1 : Int32))), .val (.long (a - b)), .second, .val (.int (1 : Int32))] [(.int (lcmpW (a - b) (8388608 : Int64))), (.int (if (a - b) < (8388608 : Int64) then (0 : Int32) else (1 : Int32)))])) t_ := by
    intro t_ k_
    by_cases hd : (a - b) < (8388608 : Int64)
    · refine XS.ifYes X18.here hx rfl (pc0 := 115) (pc' := 122) rfl (hb hby at_115) rfl ((if0 _ _).trans (tlt (own_lt hd)).1) (by decide) (by decide) ?_
      show Steps pg.tables ev below (T18.setTop (mkF mi 122 #[.val (.long a), .second, .val (.long b), .second, .val (.int d), .val (.ref b1), .val (.int (if (0 : Int64) < (8388608 : Int64) then (0 : Int32) else (1 : Int32))), .val (.int (if a < (8388608 : Int64) then (0 : Int32) else (1 : Int32))), .val (.int (if (a - b) < (8388608 : Int64) then (0 : Int32) else (1 : Int32))), .val (.ref b13), .val (.int (if ((8388608 : Int64) + (d.toInt64)) < (8388608 : Int64) then (0 : Int32) else (1 : Int32))), .val (.long (a - b)), .second, .val (.int (1 : Int32))] [(.int (if (a - b) < (8388608 : Int64) then (0 : Int32) else (1 : Int32)))])) t_
      refine XS.iconst X18.here hx rfl (hb hby at_122) ?_
      show Steps pg.tables ev below (T18.setTop (mkF mi 123 #[.val (.long a), .second, .val (.long b), .second, .val (.int d), .val (.ref b1), .val (.int (if (0 : Int64) < (8388608 : Int64) then (0 : Int32) else (1 : Int32))), .val (.int (if a < (8388608 : Int64) then (0 : Int32) else (1 : Int32))), .val (.int (if (a - b) < (8388608 : Int64) then (0 : Int32) else (1 : Int32))), .val (.ref b13), .val (.int (if ((8388608 : Int64) + (d.toInt64)) < (8388608 : Int64) then (0 : Int32) else (1 : Int32))), .val (.long (a - b)), .second, .val (.int (1 : Int32))] [(.int (0 : Int32)), (.int (if (a - b) < (8388608 : Int64) then (0 : Int32) else (1 : Int32)))])) t_
      exact own_cst (if_pos hd) k_
    · refine XS.ifNo X18.here hx rfl (hb hby at_115) rfl ((if0 _ _).trans (flt (own_nlt hd)).1) ?_
      show Steps pg.tables ev below (T18.setTop (mkF mi 118 #[.val (.long a), .second, .val (.long b), .second, .val (.int d), .val (.ref b1), .val (.int (if (0 : Int64) < (8388608 : Int64) then (0 : Int32) else (1 : Int32))), .val (.int (if a < (8388608 : Int64) then (0 : Int32) else (1 : Int32))), .val (.int (if (a - b) < (8388608 : Int64) then (0 : Int32) else (1 : Int32))), .val (.ref b13), .val (.int (if ((8388608 : Int64) + (d.toInt64)) < (8388608 : Int64) then (0 : Int32) else (1 : Int32))), .val (.long (a - b)), .second, .val (.int (1 : Int32))] [(.int (if (a - b) < (8388608 : Int64) then (0 : Int32) else (1 : Int32)))])) t_
      refine XS.iconst X18.here hx rfl (hb hby at_118) ?_
      show Steps pg.tables ev below (T18.setTop (mkF mi 119 #[.val (.long a), .second, .val (.long b), .second, .val (.int d), .val (.ref b1), .val (.int (if (0 : Int64) < (8388608 : Int64) then (0 : Int32) else (1 : Int32))), .val (.int (if a < (8388608 : Int64) then (0 : Int32) else (1 : Int32))), .val (.int (if (a - b) < (8388608 : Int64) then (0 : Int32) else (1 : Int32))), .val (.ref b13), .val (.int (if ((8388608 : Int64) + (d.toInt64)) < (8388608 : Int64) then (0 : Int32) else (1 : Int32))), .val (.long (a - b)), .second, .val (.int (1 : Int32))] [(.int (1 : Int32)), (.int (if (a - b) < (8388608 : Int64) then (0 : Int32) else (1 : Int32)))])) t_
      refine XS.goto X18.here hx rfl (pc0 := 119) (pc' := 123) rfl (hb hby at_119) (by decide) (by decide) ?_
      show Steps pg.tables ev below (T18.setTop (mkF mi 123 #[.val (.long a), .second, .val (.long b), .second, .val (.int d), .val (.ref b1), .val (.int (if (0 : Int64) < (8388608 : Int64) then (0 : Int32) else (1 : Int32))), .val (.int (if a < (8388608 : Int64) then (0 : Int32) else (1 : Int32))), .val (.int (if (a - b) < (8388608 : Int64) then (0 : Int32) else (1 : Int32))), .val (.ref b13), .val (.int (if ((8388608 : Int64) + (d.toInt64)) < (8388608 : Int64) then (0 : Int32) else (1 : Int32))), .val (.long (a - b)), .second, .val (.int (1 : Int32))] [(.int (1 : Int32)), (.int (if (a - b) < (8388608 : Int64) then (0 : Int32) else (1 : Int32)))])) t_
      exact own_cst (if_neg hd) k_
  refine Go.st dm21 ?_
  show Go pg.tables ev below (T18.setTop (mkF mi 123 #[.val (.long a), .second, .val (.long b), .second, .val (.int d), .val (.ref b1), .val (.int (if (0 : Int64) < (8388608 : Int64) then (0 : Int32) else (1 : Int32))), .val (.int (if a < (8388608 : Int64) then (0 : Int32) else (1 : Int32))), .val (.int (if (a - b) < (8388608 : Int64) then (0 : Int32) else (1 : Int32))), .val (.ref b13), .val (.int (if ((8388608 : Int64) + (d.toInt64)) < (8388608 : Int64) then (0 : Int32) else (1 : Int32))), .val (.long (a - b)), .second, .val (.int (1 : Int32))] [(.int (if (a - b) < (8388608 : Int64) then (0 : Int32) else (1 : Int32))), (.int (if (a - b) < (8388608 : Int64) then (0 : Int32) else (1 : Int32)))])) P
  refine Go.st (fun t_ k_ => XS.icmpYes X18.here hx rfl (pc0 := 123) (pc' := 129) rfl (hb hby at_123) rfl (teq rfl).1 (by decide) (by decide) k_) ?_
  show Go pg.tables ev below (T18.setTop (mkF mi 129 #[.val (.long a), .second, .val (.long b), .second, .val (.int d), .val (.ref b1), .val (.int (if (0 : Int64) < (8388608 : Int64) then (0 : Int32) else (1 : Int32))), .val (.int (if a < (8388608 : Int64) then (0 : Int32) else (1 : Int32))), .val (.int (if (a - b) < (8388608 : Int64) then (0 : Int32) else (1 : Int32))), .val (.ref b13), .val (.int (if ((8388608 : Int64) + (d.toInt64)) < (8388608 : Int64) then (0 : Int32) else (1 : Int32))), .val (.long (a - b)), .second, .val (.int (1 : Int32))] [])) P
  refine Go.st (fun t_ k_ => XS.iload X18.here hx rfl (hb hby at_129) rfl k_) ?_
  show Go pg.tables ev below (T18.setTop (mkF mi 131 #[.val (.long a), .second, .val (.long b), .second, .val (.int d), .val (.ref b1), .val (.int (if (0 : Int64) < (8388608 : Int64) then (0 : Int32) else (1 : Int32))), .val (.int (if a < (8388608 : Int64) then (0 : Int32) else (1 : Int32))), .val (.int (if (a - b) < (8388608 : Int64) then (0 : Int32) else (1 : Int32))), .val (.ref b13), .val (.int (if ((8388608 : Int64) + (d.toInt64)) < (8388608 : Int64) then (0 : Int32) else (1 : Int32))), .val (.long (a - b)), .second, .val (.int (1 : Int32))] [(.int (if ((8388608 : Int64) + (d.toInt64)) < (8388608 : Int64) then (0 : Int32) else (1 : Int32)))])) P
  refine Go.st (fun t_ k_ => XS.iload X18.here hx rfl (hb hby at_131) rfl k_) ?_
  show Go pg.tables ev below (T18.setTop (mkF mi 133 #[.val (.long a), .second, .val (.long b), .second, .val (.int d), .val (.ref b1), .val (.int (if (0 : Int64) < (8388608 : Int64) then (0 : Int32) else (1 : Int32))), .val (.int (if a < (8388608 : Int64) then (0 : Int32) else (1 : Int32))), .val (.int (if (a - b) < (8388608 : Int64) then (0 : Int32) else (1 : Int32))), .val (.ref b13), .val (.int (if ((8388608 : Int64) + (d.toInt64)) < (8388608 : Int64) then (0 : Int32) else (1 : Int32))), .val (.long (a - b)), .second, .val (.int (1 : Int32))] [(.int d), (.int (if ((8388608 : Int64) + (d.toInt64)) < (8388608 : Int64) then (0 : Int32) else (1 : Int32)))])) P
  have dm22 : ∀ t_, Steps pg.tables ev below (T18.setTop (mkF mi 141 #[.val (.long a), .second, .val (.long b), .second, .val (.int d), .val (.ref b1), .val (.int (if (0 : Int64) < (8388608 : Int64) then (0 : Int32) else (1 : Int32))), .val (.int (if a < (8388608 : Int64) then (0 : Int32) else (1 : Int32))), .val (.int (if (a - b) < (8388608 : Int64) then (0 : Int32) else (1 : Int32))), .val (.ref b13), .val (.int (if ((8388608 : Int64) + (d.toInt64)) < (8388608 : Int64) then (0 : Int32) else (1 : Int32))), .val (.long (a - b)), .second, .val (.int (1 : Int32))] [(.int (if d < (0 : Int32) then (0 : Int32) else (1 : Int32))), (.int (if ((8388608 : Int64) + (d.toInt64)) < (8388608 : Int64) then (0 : Int32) else (1 : Int32)))])) t_ → Steps pg.tables ev below (T18.setTop (mkF mi 133 #[.val (.long a), .second, .val (.long b), .second, .val (.int d), .val (.ref b1), .val (.int (if (0 : Int64) < (8388608 : Int64) then (0 : Int32) else (1 : Int32))), .val (.int (if a < (8388608 : Int64) then (0 : Int32) else (1 : Int32))), .val (.int (if (a - b) < (8388608 : Int64) then (0 : Int32) else (1 : Int32))), .val (.ref b13), .val (.int (if ((8388608 : Int64) + (d.toInt64)) < (8388608 : Int64) then (0 : Int32) else (1 : Int32))), .val (.long (a - b)), .second, .val (.int (1 : Int32))] [(.int d), (.int (if ((8388608 : Int64) + (d.toInt64)) < (8388608 : Int64) then (0 : Int32) else (1 : Int32)))])) t_ := by
    intro t_ k_
    by_cases hd : d < (0 : Int32)
    · refine XS.ifYes X18.here hx rfl (pc0 := 133) (pc' := 140) rfl (hb hby at_133) rfl ((if0 _ _).trans (tlt hd).1) (by decide) (by decide) ?_
      show Steps pg.tables ev below (T18.setTop (mkF mi 140 #[.val (.long a), .second, .val (.long b), .second, .val (.int d), .val (.ref b1), .val (.int (if (0 : Int64) < (8388608 : Int64) then (0 : Int32) else (1 : Int32))), .val (.int (if a < (8388608 : Int64) then (0 : Int32) else (1 : Int32))), .val (.int (if (a - b) < (8388608 : Int64) then (0 : Int32) else (1 : Int32))), .val (.ref b13), .val (.int (if ((8388608 : Int64) + (d.toInt64)) < (8388608 : Int64) then (0 : Int32) else (1 : Int32))), .val (.long (a - b)), .second, .val (.int (1 : Int32))] [(.int (if ((8388608 : Int64) + (d.toInt64)) < (8388608 : Int64) then (0 : Int32) else (1 : Int32)))])) t_
      refine XS.iconst X18.here hx rfl (hb hby at_140) ?_
      show Steps pg.tables ev below (T18.setTop (mkF mi 141 #[.val (.long a), .second, .val (.long b), .second, .val (.int d), .val (.ref b1), .val (.int (if (0 : Int64) < (8388608 : Int64) then (0 : Int32) else (1 : Int32))), .val (.int (if a < (8388608 : Int64) then (0 : Int32) else (1 : Int32))), .val (.int (if (a - b) < (8388608 : Int64) then (0 : Int32) else (1 : Int32))), .val (.ref b13), .val (.int (if ((8388608 : Int64) + (d.toInt64)) < (8388608 : Int64) then (0 : Int32) else (1 : Int32))), .val (.long (a - b)), .second, .val (.int (1 : Int32))] [(.int (0 : Int32)), (.int (if ((8388608 : Int64) + (d.toInt64)) < (8388608 : Int64) then (0 : Int32) else (1 : Int32)))])) t_
      exact own_cst (if_pos hd) k_
    · refine XS.ifNo X18.here hx rfl (hb hby at_133) rfl ((if0 _ _).trans (flt hd).1) ?_
      show Steps pg.tables ev below (T18.setTop (mkF mi 136 #[.val (.long a), .second, .val (.long b), .second, .val (.int d), .val (.ref b1), .val (.int (if (0 : Int64) < (8388608 : Int64) then (0 : Int32) else (1 : Int32))), .val (.int (if a < (8388608 : Int64) then (0 : Int32) else (1 : Int32))), .val (.int (if (a - b) < (8388608 : Int64) then (0 : Int32) else (1 : Int32))), .val (.ref b13), .val (.int (if ((8388608 : Int64) + (d.toInt64)) < (8388608 : Int64) then (0 : Int32) else (1 : Int32))), .val (.long (a - b)), .second, .val (.int (1 : Int32))] [(.int (if ((8388608 : Int64) + (d.toInt64)) < (8388608 : Int64) then (0 : Int32) else (1 : Int32)))])) t_
      refine XS.iconst X18.here hx rfl (hb hby at_136) ?_
      show Steps pg.tables ev below (T18.setTop (mkF mi 137 #[.val (.long a), .second, .val (.long b), .second, .val (.int d), .val (.ref b1), .val (.int (if (0 : Int64) < (8388608 : Int64) then (0 : Int32) else (1 : Int32))), .val (.int (if a < (8388608 : Int64) then (0 : Int32) else (1 : Int32))), .val (.int (if (a - b) < (8388608 : Int64) then (0 : Int32) else (1 : Int32))), .val (.ref b13), .val (.int (if ((8388608 : Int64) + (d.toInt64)) < (8388608 : Int64) then (0 : Int32) else (1 : Int32))), .val (.long (a - b)), .second, .val (.int (1 : Int32))] [(.int (1 : Int32)), (.int (if ((8388608 : Int64) + (d.toInt64)) < (8388608 : Int64) then (0 : Int32) else (1 : Int32)))])) t_
      refine XS.goto X18.here hx rfl (pc0 := 137) (pc' := 141) rfl (hb hby at_137) (by decide) (by decide) ?_
      show Steps pg.tables ev below (T18.setTop (mkF mi 141 #[.val (.long a), .second, .val (.long b), .second, .val (.int d), .val (.ref b1), .val (.int (if (0 : Int64) < (8388608 : Int64) then (0 : Int32) else (1 : Int32))), .val (.int (if a < (8388608 : Int64) then (0 : Int32) else (1 : Int32))), .val (.int (if (a - b) < (8388608 : Int64) then (0 : Int32) else (1 : Int32))), .val (.ref b13), .val (.int (if ((8388608 : Int64) + (d.toInt64)) < (8388608 : Int64) then (0 : Int32) else (1 : Int32))), .val (.long (a - b)), .second, .val (.int (1 : Int32))] [(.int (1 : Int32)), (.int (if ((8388608 : Int64) + (d.toInt64)) < (8388608 : Int64) then (0 : Int32) else (1 : Int32)))])) t_
      exact own_cst (if_neg hd) k_
  refine Go.st dm22 ?_
  show Go pg.tables ev below (T18.setTop (mkF mi 141 #[.val (.long a), .second, .val (.long b), .second, .val (.int d), .val (.ref b1), .val (.int (if (0 : Int64) < (8388608 : Int64) then (0 : Int32) else (1 : Int32))), .val (.int (if a < (8388608 : Int64) then (0 : Int32) else (1 : Int32))), .val (.int (if (a - b) < (8388608 : Int64) then (0 : Int32) else (1 : Int32))), .val (.ref b13), .val (.int (if ((8388608 : Int64) + (d.toInt64)) < (8388608 : Int64) then (0 : Int32) else (1 : Int32))), .val (.long (a - b)), .second, .val (.int (1 : Int32))] [(.int (if d < (0 : Int32) then (0 : Int32) else (1 : Int32))), (.int (if ((8388608 : Int64) + (d.toInt64)) < (8388608 : Int64) then (0 : Int32) else (1 : Int32)))])) P
  refine Go.st (fun t_ k_ => XS.icmpYes X18.here hx rfl (pc0 := 141) (pc' := 147) rfl (hb hby at_141) rfl (teq (own_d d)).1 (by decide) (by decide) k_) ?_
  show Go pg.tables ev below (T18.setTop (mkF mi 147 #[.val (.long a), .second, .val (.long b), .second, .val (.int d), .val (.ref b1), .val (.int (if (0 : Int64) < (8388608 : Int64) then (0 : Int32) else (1 : Int32))), .val (.int (if a < (8388608 : Int64) then (0 : Int32) else (1 : Int32))), .val (.int (if (a - b) < (8388608 : Int64) then (0 : Int32) else (1 : Int32))), .val (.ref b13), .val (.int (if ((8388608 : Int64) + (d.toInt64)) < (8388608 : Int64) then (0 : Int32) else (1 : Int32))), .val (.long (a - b)), .second, .val (.int (1 : Int32))] [])) P
  refine Go.st (fun t_ k_ => XS.iload X18.here hx rfl (hb hby at_147) rfl k_) ?_
  show Go pg.tables ev below (T18.setTop (mkF mi 149 #[.val (.long a), .second, .val (.long b), .second, .val (.int d), .val (.ref b1), .val (.int (if (0 : Int64) < (8388608 : Int64) then (0 : Int32) else (1 : Int32))), .val (.int (if a < (8388608 : Int64) then (0 : Int32) else (1 : Int32))), .val (.int (if (a - b) < (8388608 : Int64) then (0 : Int32) else (1 : Int32))), .val (.ref b13), .val (.int (if ((8388608 : Int64) + (d.toInt64)) < (8388608 : Int64) then (0 : Int32) else (1 : Int32))), .val (.long (a - b)), .second, .val (.int (1 : Int32))] [(.int (1 : Int32))])) P
  obtain ⟨fs, hr, hrun, hended, hW, hsame⟩ := X18.leave (v := some (.int (1 : Int32))) (fun h => by rw [Bd.returns] at h; cases h) (BodyLoose.notSynchronized Bd)
  refine ⟨_, _, ?_, hP _ _ ⟨hrun, hended, _, _, rfl, ?_, ⟨_, rfl⟩, hW, hsame.mono (by decide) (by decide)⟩⟩
  · exact retN X18 hx (t := .boolean) Bd.returns (by simp) (hb hby at_149) hr
  · show (some (.int (1 : Int32)) : Option Value) = some (.int 1) ∧ Fr n0 _
    exact ⟨rfl, N18⟩
set_option maxRecDepth 65536 in
set_option maxHeartbeats 40000000 in
theorem comes_1 {Post : Tables → Env → Array Value → State → Outcome → State → Prop} (hpost : ∀ tb e args s v u, (limb_1_1.after args s (.returned v) u = true ∧ limb_1_2.after args s (.returned v) u = true ∧ True) → FrameEnd s (.returned v) u (Jvm.fieldLocs frame_1_writes args s ++ Jvm.arrayLocs frame_1_arrays args s ++ Jvm.staticLocs frame_1_statics s) 16 128 → Post tb e args s (.returned v) u) :
    ArmFor flags0 classFile x code maxLocals ret World_1 tables_1 room_1 Calls_1 rest_1 Pre_1 Post := by
  intro l hfl _ _ p e ha hc hk s m args below hf hA hF happ hP
  obtain ⟨hcalls, hrest, hpre⟩ := hP
  obtain ⟨-, -, -, hnamed, -, -, -, hat⟩ := (Spec.applies_iff hf).mp happ
  obtain ⟨hg, hn⟩ := and_e (Cond.before_iff.mp (show (Jvm.Cond.and given_1 narrow_1).before args s = true from hpre))
  obtain ⟨g1, g2⟩ := and_e hg
  obtain ⟨g3, g4⟩ := and_e g2
  obtain ⟨g5, g6⟩ := and_e g4
  obtain ⟨w0, w1, w2, rfl⟩ : ∃ w0 w1 w2 : Value, args = #[w0, w1, w2] := by
    have hs : args.size = 3 := by simpa [Cond.value, given_1] using g1
    obtain ⟨L⟩ := args
    match L, hs with
    | [w0, w1, w2], _ => exact ⟨w0, w1, w2, rfl⟩
  have hw := fun d (hd : d ∈ tables_1) => atoms_spec (ws := Jvm.Cond.code x code maxLocals ret :: tables_1) hat d (List.mem_cons_of_mem _ hd)
  have hfit : Fit s := fun {y c} hc i hi => by
    obtain ⟨ha, rfl⟩ := Array.getElem?_eq_some_iff.mp hc
    have q := List.all_eq_true.mp ((Array.all_eq_true_iff_forall_mem.mp hF) _ (Array.getElem_mem ha)) i (List.mem_range.mpr hi)
    simpa [Array.getElem?_eq_getElem hi] using q
  obtain ⟨i0, ei0⟩ := isL_v g3
  obtain rfl : w0 = (.long i0) := Option.some.inj ei0
  obtain ⟨i1, ei1⟩ := isL_v g5
  obtain rfl : w1 = (.long i1) := Option.some.inj ei1
  obtain ⟨i2, ei2⟩ := is_v g6
  obtain rfl : w2 = (.int i2) := Option.some.inj ei2
  obtain ⟨n, o, h1, h2, h3, _, L, rfl, ⟨rfl, N⟩, hq⟩ := rm0 l s _ hw tables_1 i0 i1 i2  s.heap s.heap.size (Nat.le_refl _)  p e ha hc hk s m _ below hf ((Spec.applies_iff_loose hf).mp happ).1 ⟨rfl, State.Warmed39.refl s, rfl⟩ trivial
  refine ⟨n, _, h1, h2, h3, hpost _ _ _ _ _ _ ⟨Cond.after_iff.mpr rfl, Cond.after_iff.mpr (eq_i res_at (Term.int_eval (1)) rfl), trivial⟩ ⟨hq.1, hq.2.1, (hq.2.2.sift fun y hy => Or.inr (N y hy)).mono (by decide) (by decide)⟩⟩
theorem main_1_1 : Claimed_1_1 := comes_1 fun _ _ _ _ _ _ h hF => ⟨h.1, hF⟩
theorem main_1_2 : Claimed_1_2 := comes_1 fun _ _ _ _ _ _ h hF => ⟨h.2.1, hF⟩
end Jvm.Pilot.@@N@@
namespace Jvm.Pilot.@@N@@
open Jvm Jvm.ClassFile Sem Op Lib Jvm.Free Jvm.Stand Jvm.Pilot.@@N@@.Jvm.D
/-! MADE BY PROGRAM (witnessworld.py) out of the Statement's table words and the real class files: 9 classes; the members and pool entries that the words name. The judged class is class 1, her method 1. -/
namespace start1
open Jvm.ClassFile
def u (s : String) : CpInfo := .utf8 (stringToUtf16 s)
/-- a pool by its gaps: so many unusable entries, then the entry; so many at the end -/
def gap : Nat → List CpInfo → List CpInfo
  | 0, r => r
  | n + 1, r => .unusable :: gap n r
def poolList (es : List (Nat × CpInfo)) (last : Nat) : List CpInfo := es.foldr (fun e r => gap e.1 (e.2 :: r)) (gap last [])
def pool (es : List (Nat × CpInfo)) (last : Nat) : Array CpInfo := ⟨poolList es last⟩
def fileOf (pool : Array CpInfo) (this : Nat) (attrs : Array Attribute := #[]) (ms : Array MethodInfo := #[]) (fl : Nat := 33) (sup : Nat := 0) (ifs : Array Nat := #[]) (fds : Array FieldInfo := #[]) : ClassFile where
  minorVersion := 0
  majorVersion := 65
  constantPool := pool
  accessFlags := fl
  thisClass := this
  superClass := sup
  interfaces := ifs
  fields := fds
  methods := ms
  attributes := attrs
def plain (name : String) (sup : Option ClassId) : Class where
  name := name
  kind := .ordinary
  loader := none
  accessFlags := 33
  super := sup
  interfaces := #[]
  cf := none
  fields := #[]
  methods := #[]
  instanceTypes := #[]
  staticTypes := #[]
  resolved := #[]
  callSites := []
  init := .initialized
  statics := none
  mirror := none

def pool0 : Array CpInfo := pool [(5, u "<init>"), (0, u "()V"), (1, .class_ 10), (1, u "java/lang/Object")] 113

def k0c0 : Code := { maxStack := 0, maxLocals := 1, code := object_method_1_code, exceptionTable := #[], attributes := #[] }
def k0m0 : Method := { name := "<init>", desc := "()V", sig := { parameters := [], returnType := none }, accessFlags := 1, code := some k0c0 }
/-- java/lang/Object -/
def k0 : Class := { plain "java/lang/Object" none with
  accessFlags := 33
  interfaces := #[]
  cf := some (fileOf pool0 8 #[] #[{ accessFlags := 1, nameIndex := 5, descriptorIndex := 6, attributes := #[] }] 33 0 #[] #[])
  fields := #[]
  methods := #[k0m0]
  instanceTypes := #[]
  staticTypes := #[]
  resolved := Array.replicate 124 none
  statics := none }

def pool1 : Array CpInfo := pool [(2, .class_ 4), (0, .nameAndType 5 6), (0, u "java/lang/Object"), (0, u "<init>"), (0, u "()V"), (0, .class_ 8), (0, u "com/example/corduroy/corduroy/HoldBudget"), (0, .methodref 7 3), (0, .methodref 7 11), (0, .nameAndType 12 13), (0, u "isSpent"), (0, u "()Z"), (0, .methodref 7 15), (0, .nameAndType 16 17), (0, u "hold"), (0, u "(J)V"), (0, .methodref 7 19), (0, .nameAndType 20 17), (0, u "release"), (0, .long 8388608), (1, .class_ 24), (0, u "com/example/corduroy/corduroy/HoldBudgetIsSpentPinLaw"), (2, u "law"), (0, u "(JJI)Z")] 3

def k1m0 : Method := { name := "<init>", desc := "()V", sig := { parameters := [], returnType := none }, accessFlags := 2, code := none }
def k1c1 : Code := { maxStack := 5, maxLocals := 14, code := code, exceptionTable := #[], attributes := #[] }
def k1m1 : Method := { name := "law", desc := "(JJI)Z", sig := { parameters := [.long, .long, .int], returnType := some .boolean }, accessFlags := 9, code := some k1c1 }
/-- com/example/corduroy/corduroy/HoldBudgetIsSpentPinLaw -/
def k1 : Class := { plain "com/example/corduroy/corduroy/HoldBudgetIsSpentPinLaw" (some 0) with
  accessFlags := 49
  interfaces := #[]
  cf := some (fileOf pool1 23 #[] #[{ accessFlags := 2, nameIndex := 5, descriptorIndex := 6, attributes := #[] }, { accessFlags := 9, nameIndex := 27, descriptorIndex := 28, attributes := #[] }] 49 2 #[] #[])
  fields := #[]
  methods := #[k1m0, k1m1]
  instanceTypes := #[]
  staticTypes := #[]
  resolved := Array.replicate 32 none
  statics := none }

def pool2 : Array CpInfo := pool [(1, .methodref 2 3), (0, .class_ 4), (0, .nameAndType 5 6), (0, u "java/lang/Object"), (0, u "<init>"), (0, u "()V"), (0, .fieldref 8 9), (0, .class_ 10), (0, .nameAndType 11 12), (0, u "com/example/corduroy/corduroy/HoldBudget"), (0, u "heldBytes"), (0, u "J"), (0, .long 8388608), (1, u "MAX_HELD_BYTES"), (3, u "hold"), (0, u "(J)V"), (0, u "release"), (0, u "isSpent"), (0, u "()Z")] 3

def k2c0 : Code := { maxStack := 1, maxLocals := 1, code := prog_8_method_1_code, exceptionTable := #[], attributes := #[] }
def k2m0 : Method := { name := "<init>", desc := "()V", sig := { parameters := [], returnType := none }, accessFlags := 0, code := some k2c0 }
def k2c1 : Code := { maxStack := 5, maxLocals := 3, code := prog_8_method_2_code, exceptionTable := #[], attributes := #[] }
def k2m1 : Method := { name := "hold", desc := "(J)V", sig := { parameters := [.long], returnType := none }, accessFlags := 0, code := some k2c1 }
def k2c2 : Code := { maxStack := 5, maxLocals := 3, code := prog_8_method_3_code, exceptionTable := #[], attributes := #[] }
def k2m2 : Method := { name := "release", desc := "(J)V", sig := { parameters := [.long], returnType := none }, accessFlags := 0, code := some k2c2 }
def k2c3 : Code := { maxStack := 4, maxLocals := 1, code := prog_8_method_4_code, exceptionTable := #[], attributes := #[] }
def k2m3 : Method := { name := "isSpent", desc := "()Z", sig := { parameters := [], returnType := some .boolean }, accessFlags := 0, code := some k2c3 }
/-- com/example/corduroy/corduroy/HoldBudget -/
def k2 : Class := { plain "com/example/corduroy/corduroy/HoldBudget" (some 0) with
  accessFlags := 48
  interfaces := #[]
  cf := some (fileOf pool2 8 #[] #[{ accessFlags := 0, nameIndex := 5, descriptorIndex := 6, attributes := #[] }, { accessFlags := 0, nameIndex := 19, descriptorIndex := 20, attributes := #[] }, { accessFlags := 0, nameIndex := 21, descriptorIndex := 20, attributes := #[] }, { accessFlags := 0, nameIndex := 22, descriptorIndex := 23, attributes := #[] }] 48 2 #[] #[{ accessFlags := 24, nameIndex := 15, descriptorIndex := 12, attributes := #[] }, { accessFlags := 2, nameIndex := 11, descriptorIndex := 12, attributes := #[] }])
  fields := #[{ name := "MAX_HELD_BYTES", type := .long, accessFlags := 24, slot := 0, constantValue := 0 }, { name := "heldBytes", type := .long, accessFlags := 2, slot := 0, constantValue := 0 }]
  methods := #[k2m0, k2m1, k2m2, k2m3]
  instanceTypes := #[.long]
  staticTypes := #[.long]
  resolved := Array.replicate 27 none
  statics := none }

def pool3 : Array CpInfo := pool [(1, u "java/lang/Cloneable"), (0, .class_ 1), (0, u "java/lang/Object"), (0, .class_ 3)] 3

/-- java/lang/Cloneable -/
def k3 : Class := { plain "java/lang/Cloneable" (some 0) with
  accessFlags := 1537
  interfaces := #[]
  cf := some (fileOf pool3 2 #[] #[] 1537 4 #[] #[])
  fields := #[]
  methods := #[]
  instanceTypes := #[]
  staticTypes := #[]
  resolved := Array.replicate 8 none
  statics := none }

def pool4 : Array CpInfo := pool [(1, u "java/io/Serializable"), (0, .class_ 1), (0, u "java/lang/Object"), (0, .class_ 3)] 3

/-- java/io/Serializable -/
def k4 : Class := { plain "java/io/Serializable" (some 0) with
  accessFlags := 1537
  interfaces := #[]
  cf := some (fileOf pool4 2 #[] #[] 1537 4 #[] #[])
  fields := #[]
  methods := #[]
  instanceTypes := #[]
  staticTypes := #[]
  resolved := Array.replicate 8 none
  statics := none }

/-- the primitive byte -/
def k5 : Class := { plain "byte" none with kind := .primitive 'B', accessFlags := 0x411 }
/-- [B -/
def k6 : Class := { plain "[B" (some 0) with kind := .array 5 .byte, interfaces := #[3, 4], accessFlags := 1041 }

/-- the primitive int -/
def k7 : Class := { plain "int" none with kind := .primitive 'I', accessFlags := 0x411 }
/-- [I -/
def k8 : Class := { plain "[I" (some 0) with kind := .array 7 .int, interfaces := #[3, 4], accessFlags := 1041 }

def heap : Heap := #[]
def classes : Array Class := #[k0, k1, k2, k3, k4, k5, k6, k7, k8]
def interned : List (Array UInt16 × Addr) := []
def slotsUsed : Nat := 0
def theMethod : MethodId := ⟨1, 1⟩
def args0 : Array Value := #[.long 5, .long 3, .int 2]
def aboutOver (below : List Frame) : State where
  vm := { classes := classes, interned := interned.toArray }
  heap := heap
  slotsUsed := slotsUsed
  threads := #[{ frames := .invoking theMethod args0 :: below }]
def below0 : List Frame := [.native { method := ⟨0, 0⟩, args := #[] }]
def about1 : State := aboutOver below0
def p0 : Program := .bare "" "" ""
def e0 : Env := launch0.env 0 0 0
theorem w_frames : about1.frames = Frame.invoking theMethod args0 :: below0 := rfl
set_option maxRecDepth 65536 in
theorem w_args : argsFit about1.vm theMethod args0 = true := by decide +kernel
set_option maxRecDepth 65536 in
theorem w_heap : heapFits about1 = true := by decide +kernel
set_option maxRecDepth 65536 in
theorem w_runnable : about1.curStatus? = some .runnable := by decide +kernel
set_option maxRecDepth 65536 in
theorem w_alone : about1.alone = true := by decide +kernel
set_option maxRecDepth 65536 in
theorem w_named : about1.methodNamed? x = some theMethod := by decide +kernel
set_option maxRecDepth 65536 in
theorem w_hears : about1.hears theMethod below0 = true := by decide +kernel
set_option maxRecDepth 65536 in
theorem w_ripe : about1.ripe theMethod args0 below0 = true := by decide +kernel
theorem w_running : about1.status = .running := rfl
set_option maxRecDepth 65536 in
theorem w_room : about1.hasRoom e0.platform room_1 = true :=
  launch0.hasRoom_least _ room_1 (by decide +kernel) (by decide +kernel) (by decide +kernel) (by decide +kernel) (by decide +kernel) (by decide +kernel)
theorem allAtoms_all (ts : List Jvm.Cond) (a : Array Jvm.Value) (st : Jvm.State) : (allAtoms ts).before a st = ts.all (fun c => c.before a st) := by
  induction ts with
  | nil => rfl
  | cons c t ih =>
    show (Jvm.Cond.and c (allAtoms t)).before a st = _
    rw [Jvm.Cond.before_and, ih, List.all_cons]
def words1 : List Jvm.Cond := Jvm.Cond.code x code maxLocals ret :: tables_1
/-- a 'code' word, met by the world's own term for the bytes: nothing is compared byte by byte -/
theorem code_word {y : MethodName} {bytes : ByteArray} {mx : Nat} {rt : Option FieldType} {a : Array Value} {s : State} {m : MethodId} {meth : Method} {c : Code} (h1 : s.methodNamed? y = some m) (h2 : s.vm.method? m = some meth) (h3 : meth.code = some c) (h4 : c.code = bytes)
    (h5 : (c.maxLocals == mx && c.exceptionTable.isEmpty && decide (c.maxStack ≤ mostOperands) && decide (meth.sig.returnType = rt) && !meth.locks && decide (parseMethodDescriptor y.desc = some meth.sig)) = true) : (Jvm.Cond.code y bytes mx rt).before a s = true := by
  simp only [Bool.and_eq_true, beq_iff_eq, Bool.not_eq_true', decide_eq_true_eq] at h5
  obtain ⟨⟨⟨⟨⟨g1, g2⟩, g3⟩, g4⟩, g5⟩, g6⟩ := h5
  simp [Cond.before, Cond.holds, Cond.value, h1, h2, h3, h4, g1, g2, g3, g4, g5, g6]
def isCode : Jvm.Cond → Bool
  | .code _ _ _ _ => true
  | _ => false
theorem all_split {L : List Jvm.Cond} {P : Jvm.Cond → Bool} (h1 : L.all (fun c => isCode c || P c) = true) (h2 : ∀ c ∈ L.filter isCode, P c = true) : L.all P = true := by
  refine List.all_eq_true.mpr fun c hc => ?_
  have h := List.all_eq_true.mp h1 c hc
  rcases Bool.eq_false_or_eq_true (isCode c) with hi | hi
  · exact h2 c (List.mem_filter.mpr ⟨hc, hi⟩)
  · simpa [hi] using h
set_option maxRecDepth 65536 in
theorem w_c0 : (Jvm.Cond.code x code maxLocals ret).before args0 about1 = true := code_word (m := ⟨1, 1⟩) (meth := k1m1) (c := k1c1) (by decide +kernel) rfl rfl rfl (by decide +kernel)
set_option maxRecDepth 65536 in
theorem w_c1 : (Jvm.Cond.code ({ cls := "com/example/corduroy/corduroy/HoldBudget", name := "<init>", desc := "()V" } : Jvm.MethodName) prog_8_method_1_code (1 : Nat) (Option.none : Option Jvm.ClassFile.FieldType)).before args0 about1 = true := code_word (m := ⟨2, 0⟩) (meth := k2m0) (c := k2c0) (by decide +kernel) rfl rfl rfl (by decide +kernel)
set_option maxRecDepth 65536 in
theorem w_c2 : (Jvm.Cond.code ({ cls := "java/lang/Object", name := "<init>", desc := "()V" } : Jvm.MethodName) object_method_1_code (1 : Nat) (Option.none : Option Jvm.ClassFile.FieldType)).before args0 about1 = true := code_word (m := ⟨0, 0⟩) (meth := k0m0) (c := k0c0) (by decide +kernel) rfl rfl rfl (by decide +kernel)
set_option maxRecDepth 65536 in
theorem w_c3 : (Jvm.Cond.code ({ cls := "com/example/corduroy/corduroy/HoldBudget", name := "isSpent", desc := "()Z" } : Jvm.MethodName) prog_8_method_4_code (1 : Nat) (Option.some Jvm.ClassFile.FieldType.boolean)).before args0 about1 = true := code_word (m := ⟨2, 3⟩) (meth := k2m3) (c := k2c3) (by decide +kernel) rfl rfl rfl (by decide +kernel)
set_option maxRecDepth 65536 in
theorem w_c4 : (Jvm.Cond.code ({ cls := "com/example/corduroy/corduroy/HoldBudget", name := "hold", desc := "(J)V" } : Jvm.MethodName) prog_8_method_2_code (3 : Nat) (Option.none : Option Jvm.ClassFile.FieldType)).before args0 about1 = true := code_word (m := ⟨2, 1⟩) (meth := k2m1) (c := k2c1) (by decide +kernel) rfl rfl rfl (by decide +kernel)
set_option maxRecDepth 65536 in
theorem w_c5 : (Jvm.Cond.code ({ cls := "com/example/corduroy/corduroy/HoldBudget", name := "release", desc := "(J)V" } : Jvm.MethodName) prog_8_method_3_code (3 : Nat) (Option.none : Option Jvm.ClassFile.FieldType)).before args0 about1 = true := code_word (m := ⟨2, 2⟩) (meth := k2m2) (c := k2c2) (by decide +kernel) rfl rfl rfl (by decide +kernel)
def codes1 : List Jvm.Cond := [Jvm.Cond.code x code maxLocals ret, Jvm.Cond.code ({ cls := "com/example/corduroy/corduroy/HoldBudget", name := "<init>", desc := "()V" } : Jvm.MethodName) prog_8_method_1_code (1 : Nat) (Option.none : Option Jvm.ClassFile.FieldType), Jvm.Cond.code ({ cls := "java/lang/Object", name := "<init>", desc := "()V" } : Jvm.MethodName) object_method_1_code (1 : Nat) (Option.none : Option Jvm.ClassFile.FieldType), Jvm.Cond.code ({ cls := "com/example/corduroy/corduroy/HoldBudget", name := "isSpent", desc := "()Z" } : Jvm.MethodName) prog_8_method_4_code (1 : Nat) (Option.some Jvm.ClassFile.FieldType.boolean), Jvm.Cond.code ({ cls := "com/example/corduroy/corduroy/HoldBudget", name := "hold", desc := "(J)V" } : Jvm.MethodName) prog_8_method_2_code (3 : Nat) (Option.none : Option Jvm.ClassFile.FieldType), Jvm.Cond.code ({ cls := "com/example/corduroy/corduroy/HoldBudget", name := "release", desc := "(J)V" } : Jvm.MethodName) prog_8_method_3_code (3 : Nat) (Option.none : Option Jvm.ClassFile.FieldType)]
set_option maxRecDepth 65536 in
theorem codes_eq : words1.filter isCode = codes1 := rfl
theorem w_codes : ∀ c ∈ words1.filter isCode, c.before args0 about1 = true := by
  rw [codes_eq]
  intro c hc
  simp only [codes1, List.mem_cons, List.not_mem_nil, or_false] at hc
  rcases hc with rfl | rfl | rfl | rfl | rfl | rfl
  · exact w_c0
  · exact w_c1
  · exact w_c2
  · exact w_c3
  · exact w_c4
  · exact w_c5
set_option maxRecDepth 65536 in
theorem w_t1 : (words1.take 24).all (fun c => isCode c || c.before args0 about1) = true := by decide +kernel
set_option maxRecDepth 65536 in
theorem w_t2 : (words1.drop 24).all (fun c => isCode c || c.before args0 about1) = true := by decide +kernel
theorem w_tables : (allAtoms (Jvm.Cond.code x code maxLocals ret :: tables_1)).before args0 about1 = true := by
  rw [allAtoms_all]
  show words1.all (fun c => c.before args0 about1) = true
  refine all_split ?_ w_codes
  rw [← List.take_append_drop 24 words1, List.all_append, w_t1, w_t2]
  rfl
set_option maxRecDepth 65536 in
theorem w_case : (Jvm.Cond.and given_1 narrow_1).before args0 about1 = true := by decide +kernel
theorem w_applies : (headSpec (Jvm.Cond.code x code maxLocals ret :: tables_1) room_1).applies x e0.platform about1 = true :=
  (Spec.applies_iff w_frames).mpr ⟨w_running, w_runnable, w_alone, w_named, w_hears, w_ripe, w_room, w_tables⟩
theorem atStart : AtStart classFile x code maxLocals ret World_1 tables_1 room_1 Calls_1 rest_1 Pre_1 launch0 p0 e0 about1 theMethod args0 below0 :=
  ⟨lists_1, trivial, launch0.admits_env _ _ _, launch0.least_env, fairChoices_fair.cas, fairChoices_fair.clock, w_frames, w_args, w_heap, w_applies, trivial, trivial, w_case⟩
end start1
theorem witness_1 : WitnessClaimed_1 := ⟨start1.p0, start1.e0, start1.about1, start1.theMethod, start1.args0, start1.below0, start1.atStart⟩
end Jvm.Pilot.@@N@@
