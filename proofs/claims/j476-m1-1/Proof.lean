import JvmDerived
import JvmDerived.Pilot.@@N@@Statement
import JvmDerived.Pilot.@@N@@Code
set_option linter.unusedVariables false
set_option linter.unusedSimpArgs false
namespace Jvm.RoadKit
open Sem ClassFile Op Lib Jvm.Stand Jvm.Free Jvm.LawKit
section New
variable {p : Program} {l : Launch} {e : Env} {R : Room} {s : State} {m : MethodId} {args : Array Value} {below : List Frame} {meth : Method} {c : Code} {T : State} {locs : List Loc} {cells slots : Nat}
theorem retI (X : Stand p l e R s m args below meth c T locs cells slots) (hx : p.tables.exec = Jvm.exec) {pc : Nat} {Ls : Array Slot} {z : Int32} {rest : List Value} (hret : meth.sig.returnType = some .int) (hd : decode c.code pc = .ok (.ireturn, 1)) {fs : List Frame}
    (hl : ∀ (f : JFrame) (acts : List Action), f.method = m → f.locked = none → f.entered = [] → (doReturn e (T.setTop f) acts (some (.int z))).1 = T.setFrames fs) : Steps p.tables e below (T.setTop (mkF m pc Ls (.int z :: rest))) (T.setFrames fs) := by
  have hm' : T.vm.method? m = some meth := X.method'
  have hn : narrow .int (.int z) = .int z := rfl
  show Steps p.tables e below (T.setTop { method := m, pc := pc, locals := Ls, stack := _ :: rest, locked := none }) _
  jvm_step X.here [X.here.top, hx, hd, hm', hret, hn]
  first | (intro acts; rw [hl _ acts rfl rfl rfl]) | rw [hl _ _ rfl rfl rfl]
  exact Steps.refl _
theorem own_nb {t : FieldType} {c : Prop} [Decidable c] {a b : Int32} (ha : nar t a = a) (hb : nar t b = b) : nar t (if c then a else b) = (if c then a else b) := by
  by_cases h : c
  · rw [if_pos h]; exact ha
  · rw [if_neg h]; exact hb
theorem own_retN (X : Stand p l e R s m args below meth c T locs cells slots) (hx : p.tables.exec = Jvm.exec) {pc : Nat} {Ls : Array Slot} {z : Int32} {t : FieldType} {rest : List Value} (hret : meth.sig.returnType = some t) (ht : t = .boolean ∨ t = .byte ∨ t = .char ∨ t = .short) (hz : nar t z = z)
    (hd : decode c.code pc = .ok (.ireturn, 1)) {fs : List Frame} (hl : ∀ (f : JFrame) (acts : List Action), f.method = m → f.locked = none → f.entered = [] → (doReturn e (T.setTop f) acts (some (.int z))).1 = T.setFrames fs) :
    Steps p.tables e below (T.setTop (mkF m pc Ls (.int z :: rest))) (T.setFrames fs) := retN X hx hret ht hd (by rw [hz]; exact hl)
end New
end Jvm.RoadKit
namespace Jvm.Pilot.@@N@@
open Jvm Jvm.ClassFile Sem Op Lib Jvm.Free Jvm.Stand Jvm.LawKit Jvm.RoadKit Bundle Jvm.Pilot.@@N@@.Jvm.D
/-- from the state A the run comes to some end that P takes -/
def Go (tb : Tables) (e : Env) (below : List Frame) (A : State) (P : State → Outcome → Prop) : Prop := ∃ t o, Steps tb e below A t ∧ P t o
theorem Go.st {tb : Tables} {e : Env} {below : List Frame} {A B : State} {P : State → Outcome → Prop} (h : ∀ t, Steps tb e below A t → Steps tb e below B t) (k : Go tb e below A P) : Go tb e below B P := by
  obtain ⟨t, o, h1, h2⟩ := k; exact ⟨t, o, h t h1, h2⟩
theorem Go.tr {tb : Tables} {e : Env} {below : List Frame} {A B : State} {P : State → Outcome → Prop} (h : Steps tb e below B A) (k : Go tb e below A P) : Go tb e below B P := by
  obtain ⟨t, o, h1, h2⟩ := k; exact ⟨t, o, h.trans h1, h2⟩
theorem Go.start {tb : Tables} {e : Env} {below : List Frame} {A : State} {P0 : State → Outcome → Prop} (h : ∀ P : State → Outcome → Prop, (∀ t o, P0 t o → P t o) → Go tb e below A P) : ∃ t o, Steps tb e below A t ∧ P0 t o := h P0 (fun _ _ q => q)
theorem own_cat {v : Value} (h : v.isRef = true) : v.category = 1 := by rcases ref_cases h with rfl | ⟨_, rfl⟩ <;> rfl
theorem own_cst {tb : Tables} {e : Env} {below : List Frame} {T : State} {m : MethodId} {J : Nat} {Ls : Array Slot} {a b : Int32} {rest : List Value} {t : State} (h : a = b) (k : Steps tb e below (T.setTop (mkF m J Ls (.int a :: rest))) t) : Steps tb e below (T.setTop (mkF m J Ls (.int b :: rest))) t := h ▸ k
theorem own_lt {x y : Int64} (h : x < y) : lcmpW x y < 0 := (lw_lt x y).mpr h
theorem own_nlt {x y : Int64} (h : ¬ x < y) : ¬ lcmpW x y < 0 := fun q => h ((lw_lt x y).mp q)
theorem own_gt {x y : Int64} (h : y < x) : 0 < lcmpW x y := (lw_gt x y).mpr h
theorem own_ngt {x y : Int64} (h : ¬ y < x) : ¬ 0 < lcmpW x y := fun q => h ((lw_gt x y).mp q)
theorem own_eq {x y : Int64} (h : x = y) : lcmpW x y = 0 := (lw_eq x y).mpr h
theorem own_neq {x y : Int64} (h : ¬ x = y) : ¬ lcmpW x y = 0 := fun q => h ((lw_eq x y).mp q)
theorem own_eqI {args : Array Value} {first s : State} {o : Option Outcome} {idx : List Nat} {t : Term} {z : Int32} (h : (Cond.eq t (.int z)).value args first o s idx = some true) : t.eval args first o idx s = some (.int z) := by
  simp only [Cond.value, Term.eval] at h
  cases ht : t.eval args first o idx s with
  | none => simp [ht] at h
  | some x => cases x <;> simp [ht] at h ⊢; exact h
theorem own_eqR {args : Array Value} {first s : State} {o : Option Outcome} {idx : List Nat} {t u : Term} {b : Addr} (hu : u.eval args first o idx s = some (.ref b)) (h : (Cond.eq t u).value args first o s idx = some true) : t.eval args first o idx s = some (.ref b) := by
  simp only [Cond.value, hu] at h
  cases ht : t.eval args first o idx s with
  | none => simp [ht] at h
  | some x => cases x <;> simp [ht] at h ⊢; exact h
theorem own_neR {args : Array Value} {first s : State} {o : Option Outcome} {idx : List Nat} {t u : Term} {a b : Addr} (ht : t.eval args first o idx s = some (.ref a)) (hu : u.eval args first o idx s = some (.ref b)) (h : (Cond.not (.eq t u)).value args first o s idx = some true) : a ≠ b := fun q => by
  subst q
  simp [Cond.value, ht, hu] at h
theorem d_prog_2_method_6_0 : decode prog_2_method_6_code 0 = .ok (.aload_n 0, 1) := by decide +kernel
theorem d_prog_2_method_6_1 : decode prog_2_method_6_code 1 = .ok (.getstatic 7, 3) := by decide +kernel
theorem d_prog_2_method_6_4 : decode prog_2_method_6_code 4 = .ok (.if_acmp .ne 7, 3) := by decide +kernel
theorem d_prog_2_method_6_7 : decode prog_2_method_6_code 7 = .ok (.iconst 1, 1) := by decide +kernel
theorem d_prog_2_method_6_8 : decode prog_2_method_6_code 8 = .ok (.goto 4, 3) := by decide +kernel
theorem d_prog_2_method_6_12 : decode prog_2_method_6_code 12 = .ok (.ireturn, 1) := by decide +kernel
theorem pn_0 : plainName "com/example/pemgate/pemgate/admin/Role" = true := by first | (simp [plainName, overriddenIn]; done) | decide +kernel
theorem ef_rmY (mi : MethodId) (o : Addr) : entryFrame mi #[(.ref o)] 1 = mkF mi 0 #[.val (.ref o)] [] := by first | (simp [entryFrame, mkF, argsToLocals, Value.category]; done) | rfl
def Q_rmY (Z : State) (o : Addr) (h0 : Heap) (n0 : Nat) (vv_ : Option Value) (hh_ : Heap) (LL_ : List Loc) : Prop := vv_ = some (.int (1 : Int32)) ∧ Fr n0 LL_ ∧ hh_ = h0
set_option maxRecDepth 65536 in
set_option maxHeartbeats 40000000 in
theorem rmY (l : Launch) (Z : State) (a0 : Array Value) (hw : ∀ d ∈ tables_1, d.before a0 Z = true) (ws : List Jvm.Cond) (o : Addr) (h0 : Heap) (n0 : Nat) (Z0 : n0 ≤ h0.size) (S0 : Sta Z h0 "com/example/pemgate/pemgate/admin/Role" "WRITE" "Lcom/example/pemgate/pemgate/admin/Role;" (.ref o)) :
    MetFree l (⟨"com/example/pemgate/pemgate/admin/Role", "mayChange", "()Z"⟩ : MethodName) (head1 (Jvm.Cond.code (⟨"com/example/pemgate/pemgate/admin/Role", "mayChange", "()Z"⟩ : MethodName) prog_2_method_6_code 1 (some .boolean) :: ws) ({ frames := 0, cells := 0, slots := 0, locals := 0 } : Room)) (fun aa_ U => aa_ = #[(.ref o)] ∧ Z.Warmed39 U.vm ∧ U.heap = h0) (fun _ _ _ _ _ => True) (fun _ U oo_ UV_ => ∃ vv_ LL_, oo_ = .returned vv_ ∧ Q_rmY Z o h0 n0 vv_ UV_.heap LL_ ∧ FrameEnd U oo_ UV_ LL_ ({ frames := 0, cells := 0, slots := 0, locals := 0 } : Room).cells ({ frames := 0, cells := 0, slots := 0, locals := 0 } : Room).slots) := by
  refine MetFree.of_bodySF (plainFor_of_name pn_0) hisR ?_
  intro pg ev si mi args below meth ci s₁ Bd hml0 hP0 hK
  obtain ⟨rfl, hZ, hh⟩ := hP0
  have hx := Bd.exec
  have hby := Bd.bytes
  have hml : ci.maxLocals = 1 := hml0
  have hown : si.vm.findClass "com/example/pemgate/pemgate/admin/Role" = some mi.cls := findClass_of_methodNamed Bd.named
  have hnm := (name_of_methodNamed Bd.named Bd.method).1
  have X0 : Stand pg l ev ({ frames := 0, cells := 0, slots := 0, locals := 0 } : Room) si mi #[(.ref o)] below meth ci s₁ [] 0 0 := Stand.of_body Bd
  have e0 : s₁.heap = h0 := by rw [← hh, Bd.state]; rfl
  have N0 := Fr.nil n0
  refine Go.start (fun P hP => ?_)
  refine Go.st (fun t_ k_ => castTop (ef_rmY mi o) k_) (A := s₁.setTop (mkF mi 0 #[.val (.ref o)] [])) ?_
  show Go pg.tables ev below (s₁.setTop (mkF mi 0 #[.val (.ref o)] [])) P
  refine Go.st (fun t_ k_ => XS.aloadN X0.here hx rfl (hb hby d_prog_2_method_6_0) rfl rfl k_) ?_
  show Go pg.tables ev below (s₁.setTop (mkF mi 1 #[.val (.ref o)] [(.ref o)])) P
  obtain ⟨T1, X1, e1, st1⟩ := getS2 X0 hx hZ hown (host := "") (Or.inl (hw _ (List.mem_of_getElem? (i := 8) rfl))) Via.refl e0 S0 (g := (mkF mi 1 #[.val (.ref o)] [(.ref o)])) rfl (hb hby d_prog_2_method_6_1)
  refine Go.st st1 ?_
  show Go pg.tables ev below (T1.setTop (mkF mi 4 #[.val (.ref o)] [(.ref o), (.ref o)])) P
  refine Go.st (fun t_ k_ => Jvm.RoadKit.acmp (g := (mkF mi 4 #[.val (.ref o)] [(.ref o), (.ref o)])) X1 hx rfl rfl rfl (pc0 := 4) (pc' := 7) (same := true) rfl (hb hby d_prog_2_method_6_4) rfl (decide_eq_true rfl) (by decide) (by decide) k_) ?_
  show Go pg.tables ev below (T1.setTop (mkF mi 7 #[.val (.ref o)] [])) P
  refine Go.st (fun t_ k_ => XS.iconst X1.here hx rfl (hb hby d_prog_2_method_6_7) k_) ?_
  show Go pg.tables ev below (T1.setTop (mkF mi 8 #[.val (.ref o)] [(.int (1 : Int32))])) P
  refine Go.st (fun t_ k_ => XS.goto X1.here hx rfl (pc0 := 8) (pc' := 12) rfl (hb hby d_prog_2_method_6_8) (by decide) (by decide) k_) ?_
  show Go pg.tables ev below (T1.setTop (mkF mi 12 #[.val (.ref o)] [(.int (1 : Int32))])) P
  obtain ⟨fs, hr, hrun, hended, hW, hsame⟩ := X1.leave (v := some (.int (1 : Int32))) (fun h => by rw [Bd.returns] at h; cases h) (BodyLoose.notSynchronized Bd)
  refine ⟨_, _, ?_, hP _ _ ⟨hrun, hended, _, _, rfl, ?_, ⟨_, rfl⟩, hW, hsame.mono (by decide) (by decide)⟩⟩
  · exact retN X1 hx (t := .boolean) Bd.returns (by simp) (hb hby d_prog_2_method_6_12) hr
  · show (some (.int (1 : Int32)) : Option Value) = some (.int (1 : Int32)) ∧ Fr n0 _ ∧ T1.heap = h0
    rw [e1]
    exact ⟨rfl, N0, rfl⟩
theorem d_prog_2_method_6_11 : decode prog_2_method_6_code 11 = .ok (.iconst 0, 1) := by decide +kernel
theorem ef_rmN (mi : MethodId) (o : Addr) (b : Addr) : entryFrame mi #[(.ref o)] 1 = mkF mi 0 #[.val (.ref o)] [] := by first | (simp [entryFrame, mkF, argsToLocals, Value.category]; done) | rfl
def Q_rmN (Z : State) (o : Addr) (b : Addr) (h0 : Heap) (n0 : Nat) (vv_ : Option Value) (hh_ : Heap) (LL_ : List Loc) : Prop := vv_ = some (.int (0 : Int32)) ∧ Fr n0 LL_ ∧ hh_ = h0
set_option maxRecDepth 65536 in
set_option maxHeartbeats 40000000 in
theorem rmN (l : Launch) (Z : State) (a0 : Array Value) (hw : ∀ d ∈ tables_1, d.before a0 Z = true) (ws : List Jvm.Cond) (o : Addr) (b : Addr) (h0 : Heap) (n0 : Nat) (Z0 : n0 ≤ h0.size) (S0 : Sta Z h0 "com/example/pemgate/pemgate/admin/Role" "WRITE" "Lcom/example/pemgate/pemgate/admin/Role;" (.ref b)) (ne0 : o ≠ b) :
    MetFree l (⟨"com/example/pemgate/pemgate/admin/Role", "mayChange", "()Z"⟩ : MethodName) (head1 (Jvm.Cond.code (⟨"com/example/pemgate/pemgate/admin/Role", "mayChange", "()Z"⟩ : MethodName) prog_2_method_6_code 1 (some .boolean) :: ws) ({ frames := 0, cells := 0, slots := 0, locals := 0 } : Room)) (fun aa_ U => aa_ = #[(.ref o)] ∧ Z.Warmed39 U.vm ∧ U.heap = h0) (fun _ _ _ _ _ => True) (fun _ U oo_ UV_ => ∃ vv_ LL_, oo_ = .returned vv_ ∧ Q_rmN Z o b h0 n0 vv_ UV_.heap LL_ ∧ FrameEnd U oo_ UV_ LL_ ({ frames := 0, cells := 0, slots := 0, locals := 0 } : Room).cells ({ frames := 0, cells := 0, slots := 0, locals := 0 } : Room).slots) := by
  refine MetFree.of_bodySF (plainFor_of_name pn_0) hisR ?_
  intro pg ev si mi args below meth ci s₁ Bd hml0 hP0 hK
  obtain ⟨rfl, hZ, hh⟩ := hP0
  have hx := Bd.exec
  have hby := Bd.bytes
  have hml : ci.maxLocals = 1 := hml0
  have hown : si.vm.findClass "com/example/pemgate/pemgate/admin/Role" = some mi.cls := findClass_of_methodNamed Bd.named
  have hnm := (name_of_methodNamed Bd.named Bd.method).1
  have X0 : Stand pg l ev ({ frames := 0, cells := 0, slots := 0, locals := 0 } : Room) si mi #[(.ref o)] below meth ci s₁ [] 0 0 := Stand.of_body Bd
  have e0 : s₁.heap = h0 := by rw [← hh, Bd.state]; rfl
  have N0 := Fr.nil n0
  refine Go.start (fun P hP => ?_)
  refine Go.st (fun t_ k_ => castTop (ef_rmN mi o b) k_) (A := s₁.setTop (mkF mi 0 #[.val (.ref o)] [])) ?_
  show Go pg.tables ev below (s₁.setTop (mkF mi 0 #[.val (.ref o)] [])) P
  refine Go.st (fun t_ k_ => XS.aloadN X0.here hx rfl (hb hby d_prog_2_method_6_0) rfl rfl k_) ?_
  show Go pg.tables ev below (s₁.setTop (mkF mi 1 #[.val (.ref o)] [(.ref o)])) P
  obtain ⟨T1, X1, e1, st1⟩ := getS2 X0 hx hZ hown (host := "") (Or.inl (hw _ (List.mem_of_getElem? (i := 8) rfl))) Via.refl e0 S0 (g := (mkF mi 1 #[.val (.ref o)] [(.ref o)])) rfl (hb hby d_prog_2_method_6_1)
  refine Go.st st1 ?_
  show Go pg.tables ev below (T1.setTop (mkF mi 4 #[.val (.ref o)] [(.ref b), (.ref o)])) P
  refine Go.st (fun t_ k_ => Jvm.RoadKit.acmp (g := (mkF mi 4 #[.val (.ref o)] [(.ref b), (.ref o)])) X1 hx rfl rfl rfl (pc0 := 4) (pc' := 11) (same := false) rfl (hb hby d_prog_2_method_6_4) rfl (decide_eq_false fun q => ne0 (Value.ref.inj q)) (by decide) (by decide) k_) ?_
  show Go pg.tables ev below (T1.setTop (mkF mi 11 #[.val (.ref o)] [])) P
  refine Go.st (fun t_ k_ => XS.iconst X1.here hx rfl (hb hby d_prog_2_method_6_11) k_) ?_
  show Go pg.tables ev below (T1.setTop (mkF mi 12 #[.val (.ref o)] [(.int (0 : Int32))])) P
  obtain ⟨fs, hr, hrun, hended, hW, hsame⟩ := X1.leave (v := some (.int (0 : Int32))) (fun h => by rw [Bd.returns] at h; cases h) (BodyLoose.notSynchronized Bd)
  refine ⟨_, _, ?_, hP _ _ ⟨hrun, hended, _, _, rfl, ?_, ⟨_, rfl⟩, hW, hsame.mono (by decide) (by decide)⟩⟩
  · exact retN X1 hx (t := .boolean) Bd.returns (by simp) (hb hby d_prog_2_method_6_12) hr
  · show (some (.int (0 : Int32)) : Option Value) = some (.int (0 : Int32)) ∧ Fr n0 _ ∧ T1.heap = h0
    rw [e1]
    exact ⟨rfl, N0, rfl⟩
theorem pd_0 : parseMethodDescriptor "()Z" = some ⟨[], some .boolean⟩ := by decide +kernel
theorem pn_1 : plainName "com/example/pemgate/pemgate/admin/RoleMayChangePinLaw" = true := by first | (simp [plainName, overriddenIn]; done) | decide +kernel
theorem ef_rm0 (mi : MethodId) (k : Int32) (aR : Addr) (aW : Addr) : entryFrame mi #[(.int k)] maxLocals = mkF mi 0 #[.val (.int k), .unset, .unset, .unset] [] := by first | (simp [entryFrame, mkF, argsToLocals, Value.category, maxLocals]; done) | rfl
def Q_rm0 (Z : State) (k : Int32) (aR : Addr) (aW : Addr) (h0 : Heap) (n0 : Nat) (vv_ : Option Value) (hh_ : Heap) (LL_ : List Loc) : Prop := vv_ = some (.int 1) ∧ Fr n0 LL_
set_option maxRecDepth 65536 in
set_option maxHeartbeats 40000000 in
theorem rm0 (l : Launch) (Z : State) (a0 : Array Value) (hw : ∀ d ∈ tables_1, d.before a0 Z = true) (ws : List Jvm.Cond) (k : Int32) (aR : Addr) (aW : Addr) (h0 : Heap) (n0 : Nat) (Z0 : n0 ≤ h0.size) (SR0 : Sta Z h0 "com/example/pemgate/pemgate/admin/Role" "READ" "Lcom/example/pemgate/pemgate/admin/Role;" (.ref aR)) (SW0 : Sta Z h0 "com/example/pemgate/pemgate/admin/Role" "WRITE" "Lcom/example/pemgate/pemgate/admin/Role;" (.ref aW)) (ER0 : Exa Z h0 aR "com/example/pemgate/pemgate/admin/Role") (EW0 : Exa Z h0 aW "com/example/pemgate/pemgate/admin/Role") (ne0 : aR ≠ aW) :
    MetFree l x (head1 (Jvm.Cond.code x code maxLocals ret :: ws) room_1) (fun aa_ U => aa_ = #[(.int k)] ∧ Z.Warmed39 U.vm ∧ U.heap = h0) (fun _ _ _ _ _ => True) (fun _ U oo_ UV_ => ∃ vv_ LL_, oo_ = .returned vv_ ∧ Q_rm0 Z k aR aW h0 n0 vv_ UV_.heap LL_ ∧ FrameEnd U oo_ UV_ LL_ room_1.cells room_1.slots) := by
  refine MetFree.of_bodySF (plainFor_of_name pn_1) hisR ?_
  intro pg ev si mi args below meth ci s₁ Bd hml0 hP0 hK
  obtain ⟨rfl, hZ, hh⟩ := hP0
  have hx := Bd.exec
  have hby := Bd.bytes
  have hml : ci.maxLocals = 4 := hml0
  have hown : si.vm.findClass "com/example/pemgate/pemgate/admin/RoleMayChangePinLaw" = some mi.cls := findClass_of_methodNamed Bd.named
  have hnm := (name_of_methodNamed Bd.named Bd.method).1
  have X0 : Stand pg l ev room_1 si mi #[(.int k)] below meth ci s₁ [] 0 0 := Stand.of_body Bd
  have e0 : s₁.heap = h0 := by rw [← hh, Bd.state]; rfl
  have N0 := Fr.nil n0
  refine Go.start (fun P hP => ?_)
  refine Go.st (fun t_ k_ => castTop (ef_rm0 mi k aR aW) k_) (A := s₁.setTop (mkF mi 0 #[.val (.int k), .unset, .unset, .unset] [])) ?_
  show Go pg.tables ev below (s₁.setTop (mkF mi 0 #[.val (.int k), .unset, .unset, .unset] [])) P
  refine Go.st (fun t_ k_ => XS.iloadN X0.here hx rfl (hb hby at_0) rfl k_) ?_
  show Go pg.tables ev below (s₁.setTop (mkF mi 1 #[.val (.int k), .unset, .unset, .unset] [(.int k)])) P
  refine Go.st (fun t_ k_ => XS.iconst X0.here hx rfl (hb hby at_1) k_) ?_
  show Go pg.tables ev below (s₁.setTop (mkF mi 2 #[.val (.int k), .unset, .unset, .unset] [(.int (1 : Int32)), (.int k)])) P
  refine Go.st (fun t_ k_ => XS.iand X0.here hx rfl (hb hby at_2) rfl k_) ?_
  show Go pg.tables ev below (s₁.setTop (mkF mi 3 #[.val (.int k), .unset, .unset, .unset] [(.int (k &&& (1 : Int32)))])) P
  have dm1 : ∀ t_, Steps pg.tables ev below (s₁.setTop (mkF mi 11 #[.val (.int k), .unset, .unset, .unset] [(.int (if (k &&& (1 : Int32)) = (0 : Int32) then (0 : Int32) else (1 : Int32)))])) t_ → Steps pg.tables ev below (s₁.setTop (mkF mi 3 #[.val (.int k), .unset, .unset, .unset] [(.int (k &&& (1 : Int32)))])) t_ := by
    intro t_ k_
    by_cases hd : (k &&& (1 : Int32)) = (0 : Int32)
    · refine XS.ifYes X0.here hx rfl (pc0 := 3) (pc' := 10) rfl (hb hby at_3) rfl ((if0 _ _).trans (teq hd).1) (by decide) (by decide) ?_
      show Steps pg.tables ev below (s₁.setTop (mkF mi 10 #[.val (.int k), .unset, .unset, .unset] [])) t_
      refine XS.iconst X0.here hx rfl (hb hby at_10) ?_
      show Steps pg.tables ev below (s₁.setTop (mkF mi 11 #[.val (.int k), .unset, .unset, .unset] [(.int (0 : Int32))])) t_
      exact own_cst (if_pos hd) k_
    · refine XS.ifNo X0.here hx rfl (hb hby at_3) rfl ((if0 _ _).trans (feq hd).1) ?_
      show Steps pg.tables ev below (s₁.setTop (mkF mi 6 #[.val (.int k), .unset, .unset, .unset] [])) t_
      refine XS.iconst X0.here hx rfl (hb hby at_6) ?_
      show Steps pg.tables ev below (s₁.setTop (mkF mi 7 #[.val (.int k), .unset, .unset, .unset] [(.int (1 : Int32))])) t_
      refine XS.goto X0.here hx rfl (pc0 := 7) (pc' := 11) rfl (hb hby at_7) (by decide) (by decide) ?_
      show Steps pg.tables ev below (s₁.setTop (mkF mi 11 #[.val (.int k), .unset, .unset, .unset] [(.int (1 : Int32))])) t_
      exact own_cst (if_neg hd) k_
  refine Go.st dm1 ?_
  show Go pg.tables ev below (s₁.setTop (mkF mi 11 #[.val (.int k), .unset, .unset, .unset] [(.int (if (k &&& (1 : Int32)) = (0 : Int32) then (0 : Int32) else (1 : Int32)))])) P
  refine Go.st (fun t_ k_ => XS.istoreN X0.here hx rfl (hb hby at_11) rfl (l' := #[.val (.int k), .val (.int (if (k &&& (1 : Int32)) = (0 : Int32) then (0 : Int32) else (1 : Int32))), .unset, .unset]) rfl k_) ?_
  show Go pg.tables ev below (s₁.setTop (mkF mi 12 #[.val (.int k), .val (.int (if (k &&& (1 : Int32)) = (0 : Int32) then (0 : Int32) else (1 : Int32))), .unset, .unset] [])) P
  refine Go.st (fun t_ k_ => XS.iloadN X0.here hx rfl (hb hby at_12) rfl k_) ?_
  show Go pg.tables ev below (s₁.setTop (mkF mi 13 #[.val (.int k), .val (.int (if (k &&& (1 : Int32)) = (0 : Int32) then (0 : Int32) else (1 : Int32))), .unset, .unset] [(.int (if (k &&& (1 : Int32)) = (0 : Int32) then (0 : Int32) else (1 : Int32)))])) P
  by_cases hc13_1 : (k &&& (1 : Int32)) = (0 : Int32)
  · refine Go.st (fun t_ k_ => XS.ifYes X0.here hx rfl (pc0 := 13) (pc' := 23) rfl (hb hby at_13) rfl ((if0 _ _).trans (teq (show (if (k &&& (1 : Int32)) = (0 : Int32) then (0 : Int32) else (1 : Int32)) = (0 : Int32) from (by rw [if_pos hc13_1] <;> decide))).1) (by decide) (by decide) k_) ?_
    show Go pg.tables ev below (s₁.setTop (mkF mi 23 #[.val (.int k), .val (.int (if (k &&& (1 : Int32)) = (0 : Int32) then (0 : Int32) else (1 : Int32))), .unset, .unset] [])) P
    obtain ⟨T2, X2, e2, st2⟩ := getS2 X0 hx hZ hown (host := "") (Or.inl (hw _ (List.mem_of_getElem? (i := 0) rfl))) Via.refl e0 SR0 (g := (mkF mi 23 #[.val (.int k), .val (.int (if (k &&& (1 : Int32)) = (0 : Int32) then (0 : Int32) else (1 : Int32))), .unset, .unset] [])) rfl (hb hby at_23)
    refine Go.st st2 ?_
    show Go pg.tables ev below (T2.setTop (mkF mi 26 #[.val (.int k), .val (.int (if (k &&& (1 : Int32)) = (0 : Int32) then (0 : Int32) else (1 : Int32))), .unset, .unset] [(.ref aR)])) P
    refine Go.st (fun t_ k_ => XS.astoreN X2.here hx rfl (hb hby at_26) rfl rfl (l' := #[.val (.int k), .val (.int (if (k &&& (1 : Int32)) = (0 : Int32) then (0 : Int32) else (1 : Int32))), .val (.ref aR), .unset]) rfl k_) ?_
    show Go pg.tables ev below (T2.setTop (mkF mi 27 #[.val (.int k), .val (.int (if (k &&& (1 : Int32)) = (0 : Int32) then (0 : Int32) else (1 : Int32))), .val (.ref aR), .unset] [])) P
    refine Go.st (fun t_ k_ => XS.iloadN X2.here hx rfl (hb hby at_27) rfl k_) ?_
    show Go pg.tables ev below (T2.setTop (mkF mi 28 #[.val (.int k), .val (.int (if (k &&& (1 : Int32)) = (0 : Int32) then (0 : Int32) else (1 : Int32))), .val (.ref aR), .unset] [(.int (if (k &&& (1 : Int32)) = (0 : Int32) then (0 : Int32) else (1 : Int32)))])) P
    refine Go.st (fun t_ k_ => XS.ifYes X2.here hx rfl (pc0 := 28) (pc' := 36) rfl (hb hby at_28) rfl ((if0 _ _).trans (teq (show (if (k &&& (1 : Int32)) = (0 : Int32) then (0 : Int32) else (1 : Int32)) = (0 : Int32) from (by rw [if_pos hc13_1] <;> decide))).1) (by decide) (by decide) k_) ?_
    show Go pg.tables ev below (T2.setTop (mkF mi 36 #[.val (.int k), .val (.int (if (k &&& (1 : Int32)) = (0 : Int32) then (0 : Int32) else (1 : Int32))), .val (.ref aR), .unset] [])) P
    refine Go.st (fun t_ k_ => XS.iconst X2.here hx rfl (hb hby at_36) k_) ?_
    show Go pg.tables ev below (T2.setTop (mkF mi 37 #[.val (.int k), .val (.int (if (k &&& (1 : Int32)) = (0 : Int32) then (0 : Int32) else (1 : Int32))), .val (.ref aR), .unset] [(.int (0 : Int32))])) P
    refine Go.st (fun t_ k_ => XS.istoreN X2.here hx rfl (hb hby at_37) rfl (l' := #[.val (.int k), .val (.int (if (k &&& (1 : Int32)) = (0 : Int32) then (0 : Int32) else (1 : Int32))), .val (.ref aR), .val (.int (0 : Int32))]) rfl k_) ?_
    show Go pg.tables ev below (T2.setTop (mkF mi 38 #[.val (.int k), .val (.int (if (k &&& (1 : Int32)) = (0 : Int32) then (0 : Int32) else (1 : Int32))), .val (.ref aR), .val (.int (0 : Int32))] [])) P
    refine Go.st (fun t_ k_ => XS.aloadN X2.here hx rfl (hb hby at_38) rfl rfl k_) ?_
    show Go pg.tables ev below (T2.setTop (mkF mi 39 #[.val (.int k), .val (.int (if (k &&& (1 : Int32)) = (0 : Int32) then (0 : Int32) else (1 : Int32))), .val (.ref aR), .val (.int (0 : Int32))] [(.ref aR)])) P
    obtain ⟨cq3, kq3, q3a, q3b, q3c⟩ := isOf hZ e2 ER0
    obtain ⟨_, _, ⟨T3, L3, k3, n3⟩, -, X3, ⟨Lc3, hQ3, l3, y3, z3⟩, st3⟩ := X2.virtualBack hx (y := (⟨"com/example/pemgate/pemgate/admin/Role", "mayChange", "()Z"⟩ : MethodName)) (z := (⟨"com/example/pemgate/pemgate/admin/Role", "mayChange", "()Z"⟩ : MethodName)) hown (mvT hZ (hw _ (List.mem_of_getElem? (i := 3) rfl))) (mvT hZ (hw _ (List.mem_of_getElem? (i := 4) rfl))) (notFace_of_selects (args := #[]) (mvT hZ (hw _ (List.mem_of_getElem? (i := 6) rfl)))) (mvT hZ (hw _ (List.mem_of_getElem? (i := 6) rfl))) (mvT hZ (hw _ (List.mem_of_getElem? (i := 5) rfl))) (by decide) (backOf (W := 0) (rmN l Z a0 hw [] aR aW h0 n0 Z0 SW0 ne0) hZ (hw _ (List.mem_of_getElem? (i := 7) rfl)) (hw _ (List.mem_of_getElem? (i := 1) rfl)) (by decide) (by decide)) q3a q3c (g := (mkF mi 39 #[.val (.int k), .val (.int (if (k &&& (1 : Int32)) = (0 : Int32) then (0 : Int32) else (1 : Int32))), .val (.ref aR), .val (.int (0 : Int32))] [(.ref aR)])) rfl (by rw [hml]; rfl) (Steps.refl _) (argsL := []) (rest := []) (lenOf pd_0 rfl) rfl (by show 2 * 0 + _ ≤ _; exact Nat.le_of_eq rfl) (hb hby at_39) (fun _ _ => ⟨rfl, e2, (by decide : 0 + 0 ≤ _), (by decide : 0 + 0 ≤ _)⟩)
    dsimp only [Pt.U, Pt.locs, Pt.cells, Pt.slots] at X3 l3 y3 z3 st3 hQ3
    subst l3 y3 z3
    obtain ⟨rfl, N3q, e3⟩ := hQ3
    have N3 := Fr.app N0 N3q
    refine Go.tr st3 ?_
    show Go pg.tables ev below (T3.setTop (mkF mi 42 #[.val (.int k), .val (.int (if (k &&& (1 : Int32)) = (0 : Int32) then (0 : Int32) else (1 : Int32))), .val (.ref aR), .val (.int (0 : Int32))] [(.int (0 : Int32))])) P
    refine Go.st (fun t_ k_ => XS.iloadN X3.here hx rfl (hb hby at_42) rfl k_) ?_
    show Go pg.tables ev below (T3.setTop (mkF mi 43 #[.val (.int k), .val (.int (if (k &&& (1 : Int32)) = (0 : Int32) then (0 : Int32) else (1 : Int32))), .val (.ref aR), .val (.int (0 : Int32))] [(.int (0 : Int32)), (.int (0 : Int32))])) P
    refine Go.st (fun t_ k_ => XS.icmpNo X3.here hx rfl (hb hby at_43) rfl (teq rfl).2 k_) ?_
    show Go pg.tables ev below (T3.setTop (mkF mi 46 #[.val (.int k), .val (.int (if (k &&& (1 : Int32)) = (0 : Int32) then (0 : Int32) else (1 : Int32))), .val (.ref aR), .val (.int (0 : Int32))] [])) P
    refine Go.st (fun t_ k_ => XS.iconst X3.here hx rfl (hb hby at_46) k_) ?_
    show Go pg.tables ev below (T3.setTop (mkF mi 47 #[.val (.int k), .val (.int (if (k &&& (1 : Int32)) = (0 : Int32) then (0 : Int32) else (1 : Int32))), .val (.ref aR), .val (.int (0 : Int32))] [(.int (1 : Int32))])) P
    refine Go.st (fun t_ k_ => XS.goto X3.here hx rfl (pc0 := 47) (pc' := 51) rfl (hb hby at_47) (by decide) (by decide) k_) ?_
    show Go pg.tables ev below (T3.setTop (mkF mi 51 #[.val (.int k), .val (.int (if (k &&& (1 : Int32)) = (0 : Int32) then (0 : Int32) else (1 : Int32))), .val (.ref aR), .val (.int (0 : Int32))] [(.int (1 : Int32))])) P
    obtain ⟨fs, hr, hrun, hended, hW, hsame⟩ := X3.leave (v := some (.int (1 : Int32))) (fun h => by rw [Bd.returns] at h; cases h) (BodyLoose.notSynchronized Bd)
    refine ⟨_, _, ?_, hP _ _ ⟨hrun, hended, _, _, rfl, ?_, ⟨_, rfl⟩, hW, hsame.mono (by decide) (by decide)⟩⟩
    · exact retN X3 hx (t := .boolean) Bd.returns (by simp) (hb hby at_51) hr
    · show (some (.int (1 : Int32)) : Option Value) = some (.int 1) ∧ Fr n0 _
      exact ⟨rfl, N3⟩
  · refine Go.st (fun t_ k_ => XS.ifNo X0.here hx rfl (hb hby at_13) rfl ((if0 _ _).trans (feq (show ¬ ((if (k &&& (1 : Int32)) = (0 : Int32) then (0 : Int32) else (1 : Int32)) = (0 : Int32)) from (by rw [if_neg hc13_1] <;> decide))).1) k_) ?_
    show Go pg.tables ev below (s₁.setTop (mkF mi 16 #[.val (.int k), .val (.int (if (k &&& (1 : Int32)) = (0 : Int32) then (0 : Int32) else (1 : Int32))), .unset, .unset] [])) P
    obtain ⟨T4, X4, e4, st4⟩ := getS2 X0 hx hZ hown (host := "") (Or.inl (hw _ (List.mem_of_getElem? (i := 10) rfl))) Via.refl e0 SW0 (g := (mkF mi 16 #[.val (.int k), .val (.int (if (k &&& (1 : Int32)) = (0 : Int32) then (0 : Int32) else (1 : Int32))), .unset, .unset] [])) rfl (hb hby at_16)
    refine Go.st st4 ?_
    show Go pg.tables ev below (T4.setTop (mkF mi 19 #[.val (.int k), .val (.int (if (k &&& (1 : Int32)) = (0 : Int32) then (0 : Int32) else (1 : Int32))), .unset, .unset] [(.ref aW)])) P
    refine Go.st (fun t_ k_ => XS.astoreN X4.here hx rfl (hb hby at_19) rfl rfl (l' := #[.val (.int k), .val (.int (if (k &&& (1 : Int32)) = (0 : Int32) then (0 : Int32) else (1 : Int32))), .val (.ref aW), .unset]) rfl k_) ?_
    show Go pg.tables ev below (T4.setTop (mkF mi 20 #[.val (.int k), .val (.int (if (k &&& (1 : Int32)) = (0 : Int32) then (0 : Int32) else (1 : Int32))), .val (.ref aW), .unset] [])) P
    refine Go.st (fun t_ k_ => XS.goto X4.here hx rfl (pc0 := 20) (pc' := 27) rfl (hb hby at_20) (by decide) (by decide) k_) ?_
    show Go pg.tables ev below (T4.setTop (mkF mi 27 #[.val (.int k), .val (.int (if (k &&& (1 : Int32)) = (0 : Int32) then (0 : Int32) else (1 : Int32))), .val (.ref aW), .unset] [])) P
    refine Go.st (fun t_ k_ => XS.iloadN X4.here hx rfl (hb hby at_27) rfl k_) ?_
    show Go pg.tables ev below (T4.setTop (mkF mi 28 #[.val (.int k), .val (.int (if (k &&& (1 : Int32)) = (0 : Int32) then (0 : Int32) else (1 : Int32))), .val (.ref aW), .unset] [(.int (if (k &&& (1 : Int32)) = (0 : Int32) then (0 : Int32) else (1 : Int32)))])) P
    refine Go.st (fun t_ k_ => XS.ifNo X4.here hx rfl (hb hby at_28) rfl ((if0 _ _).trans (feq (show ¬ ((if (k &&& (1 : Int32)) = (0 : Int32) then (0 : Int32) else (1 : Int32)) = (0 : Int32)) from (by rw [if_neg hc13_1] <;> decide))).1) k_) ?_
    show Go pg.tables ev below (T4.setTop (mkF mi 31 #[.val (.int k), .val (.int (if (k &&& (1 : Int32)) = (0 : Int32) then (0 : Int32) else (1 : Int32))), .val (.ref aW), .unset] [])) P
    refine Go.st (fun t_ k_ => XS.iconst X4.here hx rfl (hb hby at_31) k_) ?_
    show Go pg.tables ev below (T4.setTop (mkF mi 32 #[.val (.int k), .val (.int (if (k &&& (1 : Int32)) = (0 : Int32) then (0 : Int32) else (1 : Int32))), .val (.ref aW), .unset] [(.int (1 : Int32))])) P
    refine Go.st (fun t_ k_ => XS.istoreN X4.here hx rfl (hb hby at_32) rfl (l' := #[.val (.int k), .val (.int (if (k &&& (1 : Int32)) = (0 : Int32) then (0 : Int32) else (1 : Int32))), .val (.ref aW), .val (.int (1 : Int32))]) rfl k_) ?_
    show Go pg.tables ev below (T4.setTop (mkF mi 33 #[.val (.int k), .val (.int (if (k &&& (1 : Int32)) = (0 : Int32) then (0 : Int32) else (1 : Int32))), .val (.ref aW), .val (.int (1 : Int32))] [])) P
    refine Go.st (fun t_ k_ => XS.goto X4.here hx rfl (pc0 := 33) (pc' := 38) rfl (hb hby at_33) (by decide) (by decide) k_) ?_
    show Go pg.tables ev below (T4.setTop (mkF mi 38 #[.val (.int k), .val (.int (if (k &&& (1 : Int32)) = (0 : Int32) then (0 : Int32) else (1 : Int32))), .val (.ref aW), .val (.int (1 : Int32))] [])) P
    refine Go.st (fun t_ k_ => XS.aloadN X4.here hx rfl (hb hby at_38) rfl rfl k_) ?_
    show Go pg.tables ev below (T4.setTop (mkF mi 39 #[.val (.int k), .val (.int (if (k &&& (1 : Int32)) = (0 : Int32) then (0 : Int32) else (1 : Int32))), .val (.ref aW), .val (.int (1 : Int32))] [(.ref aW)])) P
    obtain ⟨cq5, kq5, q5a, q5b, q5c⟩ := isOf hZ e4 EW0
    obtain ⟨_, _, ⟨T5, L5, k5, n5⟩, -, X5, ⟨Lc5, hQ5, l5, y5, z5⟩, st5⟩ := X4.virtualBack hx (y := (⟨"com/example/pemgate/pemgate/admin/Role", "mayChange", "()Z"⟩ : MethodName)) (z := (⟨"com/example/pemgate/pemgate/admin/Role", "mayChange", "()Z"⟩ : MethodName)) hown (mvT hZ (hw _ (List.mem_of_getElem? (i := 3) rfl))) (mvT hZ (hw _ (List.mem_of_getElem? (i := 4) rfl))) (notFace_of_selects (args := #[]) (mvT hZ (hw _ (List.mem_of_getElem? (i := 6) rfl)))) (mvT hZ (hw _ (List.mem_of_getElem? (i := 6) rfl))) (mvT hZ (hw _ (List.mem_of_getElem? (i := 5) rfl))) (by decide) (backOf (W := 0) (rmY l Z a0 hw [] aW h0 n0 Z0 SW0) hZ (hw _ (List.mem_of_getElem? (i := 7) rfl)) (hw _ (List.mem_of_getElem? (i := 1) rfl)) (by decide) (by decide)) q5a q5c (g := (mkF mi 39 #[.val (.int k), .val (.int (if (k &&& (1 : Int32)) = (0 : Int32) then (0 : Int32) else (1 : Int32))), .val (.ref aW), .val (.int (1 : Int32))] [(.ref aW)])) rfl (by rw [hml]; rfl) (Steps.refl _) (argsL := []) (rest := []) (lenOf pd_0 rfl) rfl (by show 2 * 0 + _ ≤ _; exact Nat.le_of_eq rfl) (hb hby at_39) (fun _ _ => ⟨rfl, e4, (by decide : 0 + 0 ≤ _), (by decide : 0 + 0 ≤ _)⟩)
    dsimp only [Pt.U, Pt.locs, Pt.cells, Pt.slots] at X5 l5 y5 z5 st5 hQ5
    subst l5 y5 z5
    obtain ⟨rfl, N5q, e5⟩ := hQ5
    have N5 := Fr.app N0 N5q
    refine Go.tr st5 ?_
    show Go pg.tables ev below (T5.setTop (mkF mi 42 #[.val (.int k), .val (.int (if (k &&& (1 : Int32)) = (0 : Int32) then (0 : Int32) else (1 : Int32))), .val (.ref aW), .val (.int (1 : Int32))] [(.int (1 : Int32))])) P
    refine Go.st (fun t_ k_ => XS.iloadN X5.here hx rfl (hb hby at_42) rfl k_) ?_
    show Go pg.tables ev below (T5.setTop (mkF mi 43 #[.val (.int k), .val (.int (if (k &&& (1 : Int32)) = (0 : Int32) then (0 : Int32) else (1 : Int32))), .val (.ref aW), .val (.int (1 : Int32))] [(.int (1 : Int32)), (.int (1 : Int32))])) P
    refine Go.st (fun t_ k_ => XS.icmpNo X5.here hx rfl (hb hby at_43) rfl (teq rfl).2 k_) ?_
    show Go pg.tables ev below (T5.setTop (mkF mi 46 #[.val (.int k), .val (.int (if (k &&& (1 : Int32)) = (0 : Int32) then (0 : Int32) else (1 : Int32))), .val (.ref aW), .val (.int (1 : Int32))] [])) P
    refine Go.st (fun t_ k_ => XS.iconst X5.here hx rfl (hb hby at_46) k_) ?_
    show Go pg.tables ev below (T5.setTop (mkF mi 47 #[.val (.int k), .val (.int (if (k &&& (1 : Int32)) = (0 : Int32) then (0 : Int32) else (1 : Int32))), .val (.ref aW), .val (.int (1 : Int32))] [(.int (1 : Int32))])) P
    refine Go.st (fun t_ k_ => XS.goto X5.here hx rfl (pc0 := 47) (pc' := 51) rfl (hb hby at_47) (by decide) (by decide) k_) ?_
    show Go pg.tables ev below (T5.setTop (mkF mi 51 #[.val (.int k), .val (.int (if (k &&& (1 : Int32)) = (0 : Int32) then (0 : Int32) else (1 : Int32))), .val (.ref aW), .val (.int (1 : Int32))] [(.int (1 : Int32))])) P
    obtain ⟨fs, hr, hrun, hended, hW, hsame⟩ := X5.leave (v := some (.int (1 : Int32))) (fun h => by rw [Bd.returns] at h; cases h) (BodyLoose.notSynchronized Bd)
    refine ⟨_, _, ?_, hP _ _ ⟨hrun, hended, _, _, rfl, ?_, ⟨_, rfl⟩, hW, hsame.mono (by decide) (by decide)⟩⟩
    · exact retN X5 hx (t := .boolean) Bd.returns (by simp) (hb hby at_51) hr
    · show (some (.int (1 : Int32)) : Option Value) = some (.int 1) ∧ Fr n0 _
      exact ⟨rfl, N5⟩
set_option maxRecDepth 65536 in
set_option maxHeartbeats 40000000 in
theorem comes_1 {Post : Tables → Env → Array Value → State → Outcome → State → Prop} (hpost : ∀ tb e args s v u, (limb_1_1.after args s (.returned v) u = true ∧ limb_1_2.after args s (.returned v) u = true ∧ True) → FrameEnd s (.returned v) u (Jvm.fieldLocs frame_1_writes args s ++ Jvm.arrayLocs frame_1_arrays args s ++ Jvm.staticLocs frame_1_statics s) 0 0 → Post tb e args s (.returned v) u) :
    ArmFor flags0 classFile x code maxLocals ret World_1 tables_1 room_1 Calls_1 rest_1 Pre_1 Post := by
  intro l hfl _ _ p e ha hc hk s m args below hf hA hF happ hP
  obtain ⟨hcalls, hrest, hpre⟩ := hP
  obtain ⟨-, -, -, hnamed, -, -, -, hat⟩ := (Spec.applies_iff hf).mp happ
  obtain ⟨hg, hn⟩ := and_e (Cond.before_iff.mp (show (Jvm.Cond.and given_1 narrow_1).before args s = true from hpre))
  obtain ⟨g1, g2⟩ := and_e hg
  obtain ⟨w0, rfl⟩ : ∃ w0 : Value, args = #[w0] := by
    have hs : args.size = 1 := by simpa [Cond.value, given_1] using g1
    obtain ⟨L⟩ := args
    match L, hs with
    | [w0], _ => exact ⟨w0, rfl⟩
  have hw := fun d (hd : d ∈ tables_1) => atoms_spec (ws := Jvm.Cond.code x code maxLocals ret :: tables_1) hat d (List.mem_cons_of_mem _ hd)
  have hfit : Fit s := fun {y c} hc i hi => by
    obtain ⟨ha, rfl⟩ := Array.getElem?_eq_some_iff.mp hc
    have q := List.all_eq_true.mp ((Array.all_eq_true_iff_forall_mem.mp hF) _ (Array.getElem_mem ha)) i (List.mem_range.mpr hi)
    simpa [Array.getElem?_eq_getElem hi] using q
  obtain ⟨i0, ei0⟩ := is_v g2
  obtain rfl : w0 = (.int i0) := Option.some.inj ei0
  obtain ⟨nn1, nn2⟩ := and_e hn
  obtain ⟨nn3, nn4⟩ := and_e nn2
  obtain ⟨nn5, nn6⟩ := and_e nn4
  obtain ⟨aR, eR⟩ := exa_v nn1
  obtain ⟨aW, eW⟩ := exa_v nn3
  have ne0 : aR ≠ aW := fun q => by
    have q1 := own_eqI nn5
    have q2 := own_eqI nn6
    rw [fld_at eR] at q1
    rw [fld_at eW] at q2
    rw [q, q2] at q1
    cases q1
  obtain ⟨n, o, h1, h2, h3, _, L, rfl, ⟨rfl, N⟩, hq⟩ := rm0 l s _ hw tables_1 i0 aR aW s.heap s.heap.size (Nat.le_refl _) (Sta.start eR (Or.inr ⟨(hw _ (List.mem_of_getElem? (i := 1) rfl)), (hw _ (List.mem_of_getElem? (i := 2) rfl))⟩)) (Sta.start eW (Or.inr ⟨(hw _ (List.mem_of_getElem? (i := 1) rfl)), (hw _ (List.mem_of_getElem? (i := 9) rfl))⟩)) (Exa.start eR nn1) (Exa.start eW nn3) ne0 p e ha hc hk s m _ below hf ((Spec.applies_iff_loose hf).mp happ).1 ⟨rfl, State.Warmed39.refl s, rfl⟩ trivial
  refine ⟨n, _, h1, h2, h3, hpost _ _ _ _ _ _ ⟨Cond.after_iff.mpr rfl, Cond.after_iff.mpr (eq_i res_at (Term.int_eval (1)) rfl), trivial⟩ ⟨hq.1, hq.2.1, (hq.2.2.sift fun y hy => Or.inr (N y hy)).mono (by decide) (by decide)⟩⟩
theorem main_1_1 : Claimed_1_1 := comes_1 fun _ _ _ _ _ _ h hF => ⟨h.1, hF⟩
theorem main_1_2 : Claimed_1_2 := comes_1 fun _ _ _ _ _ _ h hF => ⟨h.2.1, hF⟩
end Jvm.Pilot.@@N@@
namespace Jvm.Pilot.@@N@@
open Jvm Jvm.ClassFile Sem Op Lib Jvm.Free Jvm.Stand Jvm.Pilot.@@N@@.Jvm.D
/-! MADE BY PROGRAM (witnessworld.py) out of the Statement's table words and the real class files: 12 classes; the members and pool entries that the words name. The judged class is class 1, her method 1. -/
namespace start1
open Jvm.ClassFile
def u (s : String) : CpInfo := .utf8 (stringToUtf16 s)
/-- a pool by its gaps: so many unusable entries, then the entry; so many at the end -/
def gap : Nat → List CpInfo → List CpInfo
  | 0, r => r
  | n + 1, r => .unusable :: gap n r
def poolList (es : List (Nat × CpInfo)) (last : Nat) : List CpInfo := es.foldr (fun e r => gap e.1 (e.2 :: r)) (gap last [])
def pool (es : List (Nat × CpInfo)) (last : Nat) : Array CpInfo := ⟨poolList es last⟩
def fileOf (pool : Array CpInfo) (this : Nat) (attrs : Array Attribute := #[]) (ms : Array MethodInfo := #[]) (fl : Nat := 33) (sup : Nat := 0) (ifs : Array Nat := #[]) (fds : Array FieldInfo := #[]) : ClassFile where
  minorVersion := 0
  majorVersion := 65
  constantPool := pool
  accessFlags := fl
  thisClass := this
  superClass := sup
  interfaces := ifs
  fields := fds
  methods := ms
  attributes := attrs
def plain (name : String) (sup : Option ClassId) : Class where
  name := name
  kind := .ordinary
  loader := none
  accessFlags := 33
  super := sup
  interfaces := #[]
  cf := none
  fields := #[]
  methods := #[]
  instanceTypes := #[]
  staticTypes := #[]
  resolved := #[]
  callSites := []
  init := .initialized
  statics := none
  mirror := none

def pool0 : Array CpInfo := pool [(5, u "<init>"), (0, u "()V"), (1, .class_ 10), (1, u "java/lang/Object")] 113

def k0m0 : Method := { name := "<init>", desc := "()V", sig := { parameters := [], returnType := none }, accessFlags := 1, code := none }
/-- java/lang/Object -/
def k0 : Class := { plain "java/lang/Object" none with
  accessFlags := 33
  interfaces := #[]
  cf := some (fileOf pool0 8 #[] #[{ accessFlags := 1, nameIndex := 5, descriptorIndex := 6, attributes := #[] }] 33 0 #[] #[])
  fields := #[]
  methods := #[k0m0]
  instanceTypes := #[]
  staticTypes := #[]
  resolved := Array.replicate 124 none
  statics := none }

def pool1 : Array CpInfo := pool [(2, .class_ 4), (1, u "java/lang/Object"), (0, u "<init>"), (0, u "()V"), (0, .fieldref 8 9), (0, .class_ 10), (0, .nameAndType 11 12), (0, u "com/example/pemgate/pemgate/admin/Role"), (0, u "WRITE"), (0, u "Lcom/example/pemgate/pemgate/admin/Role;"), (0, .fieldref 8 14), (0, .nameAndType 15 12), (0, u "READ"), (0, .methodref 8 17), (0, .nameAndType 18 19), (0, u "mayChange"), (0, u "()Z"), (0, .class_ 21), (0, u "com/example/pemgate/pemgate/admin/RoleMayChangePinLaw"), (2, u "law"), (0, u "(I)Z")] 3

def k1m0 : Method := { name := "<init>", desc := "()V", sig := { parameters := [], returnType := none }, accessFlags := 2, code := none }
def k1c1 : Code := { maxStack := 2, maxLocals := 4, code := code, exceptionTable := #[], attributes := #[] }
def k1m1 : Method := { name := "law", desc := "(I)Z", sig := { parameters := [.int], returnType := some .boolean }, accessFlags := 9, code := some k1c1 }
/-- com/example/pemgate/pemgate/admin/RoleMayChangePinLaw -/
def k1 : Class := { plain "com/example/pemgate/pemgate/admin/RoleMayChangePinLaw" (some 0) with
  accessFlags := 49
  interfaces := #[]
  cf := some (fileOf pool1 20 #[] #[{ accessFlags := 2, nameIndex := 5, descriptorIndex := 6, attributes := #[] }, { accessFlags := 9, nameIndex := 24, descriptorIndex := 25, attributes := #[] }] 49 2 #[] #[])
  fields := #[]
  methods := #[k1m0, k1m1]
  instanceTypes := #[]
  staticTypes := #[]
  resolved := Array.replicate 29 none
  statics := none }

def pool2 : Array CpInfo := pool [(1, .class_ 2), (0, u "java/lang/constant/Constable"), (0, .class_ 4), (0, u "java/lang/Object")] 6

/-- java/lang/constant/Constable -/
def k2 : Class := { plain "java/lang/constant/Constable" (some 0) with
  accessFlags := 1537
  interfaces := #[]
  cf := some (fileOf pool2 1 #[] #[] 1537 3 #[] #[])
  fields := #[]
  methods := #[]
  instanceTypes := #[]
  staticTypes := #[]
  resolved := Array.replicate 11 none
  statics := none }

def pool3 : Array CpInfo := pool [(1, .class_ 2), (0, u "java/lang/Comparable"), (0, .class_ 4), (0, u "java/lang/Object")] 7

/-- java/lang/Comparable -/
def k3 : Class := { plain "java/lang/Comparable" (some 0) with
  accessFlags := 1537
  interfaces := #[]
  cf := some (fileOf pool3 1 #[] #[] 1537 3 #[] #[])
  fields := #[]
  methods := #[]
  instanceTypes := #[]
  staticTypes := #[]
  resolved := Array.replicate 12 none
  statics := none }

def pool4 : Array CpInfo := pool [(1, .class_ 2), (0, u "java/io/Serializable"), (0, .class_ 4), (0, u "java/lang/Object")] 2

/-- java/io/Serializable -/
def k4 : Class := { plain "java/io/Serializable" (some 0) with
  accessFlags := 1537
  interfaces := #[]
  cf := some (fileOf pool4 1 #[] #[] 1537 3 #[] #[])
  fields := #[]
  methods := #[]
  instanceTypes := #[]
  staticTypes := #[]
  resolved := Array.replicate 7 none
  statics := none }

def pool5 : Array CpInfo := pool [(2, .class_ 4), (1, u "java/lang/Enum"), (0, u "name"), (0, u "Ljava/lang/String;"), (2, u "ordinal"), (0, u "I"), (1, .class_ 14), (1, u "java/lang/Object"), (4, u "hash"), (86, .class_ 108), (1, u "java/lang/Enum$EnumDesc"), (2, .class_ 112), (0, u "java/lang/constant/Constable"), (0, .class_ 114), (0, u "java/lang/Comparable"), (0, .class_ 116), (0, u "java/io/Serializable")] 87

/-- java/lang/Enum -/
def k5 : Class := { plain "java/lang/Enum" (some 0) with
  accessFlags := 1057
  interfaces := #[2, 3, 4]
  cf := some (fileOf pool5 2 #[.nestMembers #[106]] #[] 1057 12 #[111, 113, 115] #[{ accessFlags := 18, nameIndex := 5, descriptorIndex := 6, attributes := #[] }, { accessFlags := 18, nameIndex := 9, descriptorIndex := 10, attributes := #[] }, { accessFlags := 2, nameIndex := 19, descriptorIndex := 10, attributes := #[] }])
  fields := #[{ name := "name", type := (.object "java/lang/String"), accessFlags := 18, slot := 0, constantValue := 0 }, { name := "ordinal", type := .int, accessFlags := 18, slot := 1, constantValue := 0 }, { name := "hash", type := .int, accessFlags := 2, slot := 2, constantValue := 0 }]
  methods := #[]
  instanceTypes := #[(.object "java/lang/String"), .int, .int]
  staticTypes := #[]
  resolved := Array.replicate 204 none
  statics := none }

def pool6 : Array CpInfo := pool [(1, .class_ 2), (0, u "com/example/pemgate/pemgate/admin/Role"), (2, u "READ"), (0, u "Lcom/example/pemgate/pemgate/admin/Role;"), (0, .fieldref 1 8), (0, .nameAndType 9 6), (0, u "WRITE"), (2, u "$VALUES"), (0, u "[Lcom/example/pemgate/pemgate/admin/Role;"), (6, .class_ 22), (1, u "java/lang/Enum"), (8, u "word"), (0, u "Ljava/lang/String;"), (35, u "mayChange"), (0, u "()Z")] 27

def k6c0 : Code := { maxStack := 2, maxLocals := 1, code := prog_2_method_6_code, exceptionTable := #[], attributes := #[] }
def k6m0 : Method := { name := "mayChange", desc := "()Z", sig := { parameters := [], returnType := some .boolean }, accessFlags := 1, code := some k6c0 }
/-- com/example/pemgate/pemgate/admin/Role -/
def k6 : Class := { plain "com/example/pemgate/pemgate/admin/Role" (some 5) with
  accessFlags := 16433
  interfaces := #[]
  cf := some (fileOf pool6 1 #[] #[{ accessFlags := 1, nameIndex := 68, descriptorIndex := 69, attributes := #[] }] 16433 20 #[] #[{ accessFlags := 16409, nameIndex := 5, descriptorIndex := 6, attributes := #[] }, { accessFlags := 16409, nameIndex := 9, descriptorIndex := 6, attributes := #[] }, { accessFlags := 18, nameIndex := 31, descriptorIndex := 32, attributes := #[] }, { accessFlags := 4122, nameIndex := 12, descriptorIndex := 13, attributes := #[] }])
  fields := #[{ name := "READ", type := (.object "com/example/pemgate/pemgate/admin/Role"), accessFlags := 16409, slot := 0, constantValue := 0 }, { name := "WRITE", type := (.object "com/example/pemgate/pemgate/admin/Role"), accessFlags := 16409, slot := 1, constantValue := 0 }, { name := "word", type := (.object "java/lang/String"), accessFlags := 18, slot := 3, constantValue := 0 }, { name := "$VALUES", type := (.array (.object "com/example/pemgate/pemgate/admin/Role")), accessFlags := 4122, slot := 2, constantValue := 0 }]
  methods := #[k6m0]
  instanceTypes := #[(.object "java/lang/String"), .int, .int, (.object "java/lang/String")]
  staticTypes := #[(.object "com/example/pemgate/pemgate/admin/Role"), (.object "com/example/pemgate/pemgate/admin/Role"), (.array (.object "com/example/pemgate/pemgate/admin/Role"))]
  resolved := Array.replicate 97 none
  statics := some 0 }

def pool7 : Array CpInfo := pool [(1, u "java/lang/Cloneable"), (0, .class_ 1), (0, u "java/lang/Object"), (0, .class_ 3)] 3

/-- java/lang/Cloneable -/
def k7 : Class := { plain "java/lang/Cloneable" (some 0) with
  accessFlags := 1537
  interfaces := #[]
  cf := some (fileOf pool7 2 #[] #[] 1537 4 #[] #[])
  fields := #[]
  methods := #[]
  instanceTypes := #[]
  staticTypes := #[]
  resolved := Array.replicate 8 none
  statics := none }

/-- the primitive byte -/
def k8 : Class := { plain "byte" none with kind := .primitive 'B', accessFlags := 0x411 }
/-- [B -/
def k9 : Class := { plain "[B" (some 0) with kind := .array 8 .byte, interfaces := #[7, 4], accessFlags := 1041 }

/-- the primitive int -/
def k10 : Class := { plain "int" none with kind := .primitive 'I', accessFlags := 0x411 }
/-- [I -/
def k11 : Class := { plain "[I" (some 0) with kind := .array 10 .int, interfaces := #[7, 4], accessFlags := 1041 }

def heap : Heap := #[{ cls := 6, slots := #[.ref 1, .ref 2, .null], vm := .statics 6 },
  { cls := 6, slots := #[.null, .int 0, .int 0, .null], vm := .none },
  { cls := 6, slots := #[.null, .int 1, .int 0, .null], vm := .none }]
def classes : Array Class := #[k0, k1, k2, k3, k4, k5, k6, k7, k8, k9, k10, k11]
def interned : List (Array UInt16 × Addr) := []
def slotsUsed : Nat := 11
def theMethod : MethodId := ⟨1, 1⟩
def args0 : Array Value := #[.int 5]
def aboutOver (below : List Frame) : State where
  vm := { classes := classes, interned := interned.toArray }
  heap := heap
  slotsUsed := slotsUsed
  threads := #[{ frames := .invoking theMethod args0 :: below }]
def below0 : List Frame := [.native { method := ⟨0, 0⟩, args := #[] }]
def about1 : State := aboutOver below0
def p0 : Program := .bare "" "" ""
def e0 : Env := launch0.env 0 0 0
theorem w_frames : about1.frames = Frame.invoking theMethod args0 :: below0 := rfl
set_option maxRecDepth 65536 in
theorem w_args : argsFit about1.vm theMethod args0 = true := by decide +kernel
set_option maxRecDepth 65536 in
theorem w_heap : heapFits about1 = true := by decide +kernel
set_option maxRecDepth 65536 in
theorem w_runnable : about1.curStatus? = some .runnable := by decide +kernel
set_option maxRecDepth 65536 in
theorem w_alone : about1.alone = true := by decide +kernel
set_option maxRecDepth 65536 in
theorem w_named : about1.methodNamed? x = some theMethod := by decide +kernel
set_option maxRecDepth 65536 in
theorem w_hears : about1.hears theMethod below0 = true := by decide +kernel
set_option maxRecDepth 65536 in
theorem w_ripe : about1.ripe theMethod args0 below0 = true := by decide +kernel
theorem w_running : about1.status = .running := rfl
set_option maxRecDepth 65536 in
theorem w_room : about1.hasRoom e0.platform room_1 = true :=
  launch0.hasRoom_least _ room_1 (by decide +kernel) (by decide +kernel) (by decide +kernel) (by decide +kernel) (by decide +kernel) (by decide +kernel)
theorem allAtoms_all (ts : List Jvm.Cond) (a : Array Jvm.Value) (st : Jvm.State) : (allAtoms ts).before a st = ts.all (fun c => c.before a st) := by
  induction ts with
  | nil => rfl
  | cons c t ih =>
    show (Jvm.Cond.and c (allAtoms t)).before a st = _
    rw [Jvm.Cond.before_and, ih, List.all_cons]
def words1 : List Jvm.Cond := Jvm.Cond.code x code maxLocals ret :: tables_1
/-- a 'code' word, met by the world's own term for the bytes: nothing is compared byte by byte -/
theorem code_word {y : MethodName} {bytes : ByteArray} {mx : Nat} {rt : Option FieldType} {a : Array Value} {s : State} {m : MethodId} {meth : Method} {c : Code} (h1 : s.methodNamed? y = some m) (h2 : s.vm.method? m = some meth) (h3 : meth.code = some c) (h4 : c.code = bytes)
    (h5 : (c.maxLocals == mx && c.exceptionTable.isEmpty && decide (c.maxStack ≤ mostOperands) && decide (meth.sig.returnType = rt) && !meth.locks && decide (parseMethodDescriptor y.desc = some meth.sig)) = true) : (Jvm.Cond.code y bytes mx rt).before a s = true := by
  simp only [Bool.and_eq_true, beq_iff_eq, Bool.not_eq_true', decide_eq_true_eq] at h5
  obtain ⟨⟨⟨⟨⟨g1, g2⟩, g3⟩, g4⟩, g5⟩, g6⟩ := h5
  simp [Cond.before, Cond.holds, Cond.value, h1, h2, h3, h4, g1, g2, g3, g4, g5, g6]
def isCode : Jvm.Cond → Bool
  | .code _ _ _ _ => true
  | _ => false
theorem all_split {L : List Jvm.Cond} {P : Jvm.Cond → Bool} (h1 : L.all (fun c => isCode c || P c) = true) (h2 : ∀ c ∈ L.filter isCode, P c = true) : L.all P = true := by
  refine List.all_eq_true.mpr fun c hc => ?_
  have h := List.all_eq_true.mp h1 c hc
  rcases Bool.eq_false_or_eq_true (isCode c) with hi | hi
  · exact h2 c (List.mem_filter.mpr ⟨hc, hi⟩)
  · simpa [hi] using h
set_option maxRecDepth 65536 in
theorem w_c0 : (Jvm.Cond.code x code maxLocals ret).before args0 about1 = true := code_word (m := ⟨1, 1⟩) (meth := k1m1) (c := k1c1) (by decide +kernel) rfl rfl rfl (by decide +kernel)
set_option maxRecDepth 65536 in
theorem w_c1 : (Jvm.Cond.code ({ cls := "com/example/pemgate/pemgate/admin/Role", name := "mayChange", desc := "()Z" } : Jvm.MethodName) prog_2_method_6_code (1 : Nat) (Option.some Jvm.ClassFile.FieldType.boolean)).before args0 about1 = true := code_word (m := ⟨6, 0⟩) (meth := k6m0) (c := k6c0) (by decide +kernel) rfl rfl rfl (by decide +kernel)
def codes1 : List Jvm.Cond := [Jvm.Cond.code x code maxLocals ret, Jvm.Cond.code ({ cls := "com/example/pemgate/pemgate/admin/Role", name := "mayChange", desc := "()Z" } : Jvm.MethodName) prog_2_method_6_code (1 : Nat) (Option.some Jvm.ClassFile.FieldType.boolean)]
set_option maxRecDepth 65536 in
theorem codes_eq : words1.filter isCode = codes1 := rfl
theorem w_codes : ∀ c ∈ words1.filter isCode, c.before args0 about1 = true := by
  rw [codes_eq]
  intro c hc
  simp only [codes1, List.mem_cons, List.not_mem_nil, or_false] at hc
  rcases hc with rfl | rfl
  · exact w_c0
  · exact w_c1
set_option maxRecDepth 65536 in
theorem w_t1 : words1.all (fun c => isCode c || c.before args0 about1) = true := by decide +kernel
theorem w_tables : (allAtoms (Jvm.Cond.code x code maxLocals ret :: tables_1)).before args0 about1 = true := by
  rw [allAtoms_all]
  show words1.all (fun c => c.before args0 about1) = true
  refine all_split ?_ w_codes
  rw [w_t1]
set_option maxRecDepth 65536 in
theorem w_case : (Jvm.Cond.and given_1 narrow_1).before args0 about1 = true := by decide +kernel
theorem w_applies : (headSpec (Jvm.Cond.code x code maxLocals ret :: tables_1) room_1).applies x e0.platform about1 = true :=
  (Spec.applies_iff w_frames).mpr ⟨w_running, w_runnable, w_alone, w_named, w_hears, w_ripe, w_room, w_tables⟩
theorem atStart : AtStart classFile x code maxLocals ret World_1 tables_1 room_1 Calls_1 rest_1 Pre_1 launch0 p0 e0 about1 theMethod args0 below0 :=
  ⟨lists_1, trivial, launch0.admits_env _ _ _, launch0.least_env, fairChoices_fair.cas, fairChoices_fair.clock, w_frames, w_args, w_heap, w_applies, trivial, trivial, w_case⟩
end start1
theorem witness_1 : WitnessClaimed_1 := ⟨start1.p0, start1.e0, start1.about1, start1.theMethod, start1.args0, start1.below0, start1.atStart⟩
end Jvm.Pilot.@@N@@
