import JvmDerived
import JvmDerived.Pilot.@@N@@Statement
import JvmDerived.Pilot.@@N@@Code
set_option linter.unusedVariables false
set_option linter.unusedSimpArgs false
namespace Jvm.RoadKit
open Sem ClassFile Op Lib Jvm.Stand Jvm.Free Jvm.LawKit
section New
variable {p : Program} {l : Launch} {e : Env} {R : Room} {s : State} {m : MethodId} {args : Array Value} {below : List Frame} {meth : Method} {c : Code} {T : State} {locs : List Loc} {cells slots : Nat}
theorem retI (X : Stand p l e R s m args below meth c T locs cells slots) (hx : p.tables.exec = Jvm.exec) {pc : Nat} {Ls : Array Slot} {z : Int32} {rest : List Value} (hret : meth.sig.returnType = some .int) (hd : decode c.code pc = .ok (.ireturn, 1)) {fs : List Frame}
    (hl : ∀ (f : JFrame) (acts : List Action), f.method = m → f.locked = none → f.entered = [] → (doReturn e (T.setTop f) acts (some (.int z))).1 = T.setFrames fs) : Steps p.tables e below (T.setTop (mkF m pc Ls (.int z :: rest))) (T.setFrames fs) := by
  have hm' : T.vm.method? m = some meth := X.method'
  have hn : narrow .int (.int z) = .int z := rfl
  show Steps p.tables e below (T.setTop { method := m, pc := pc, locals := Ls, stack := _ :: rest, locked := none }) _
  jvm_step X.here [X.here.top, hx, hd, hm', hret, hn]
  first | (intro acts; rw [hl _ acts rfl rfl rfl]) | rw [hl _ _ rfl rfl rfl]
  exact Steps.refl _
theorem own_nb {t : FieldType} {c : Prop} [Decidable c] {a b : Int32} (ha : nar t a = a) (hb : nar t b = b) : nar t (if c then a else b) = (if c then a else b) := by
  by_cases h : c
  · rw [if_pos h]; exact ha
  · rw [if_neg h]; exact hb
theorem own_retN (X : Stand p l e R s m args below meth c T locs cells slots) (hx : p.tables.exec = Jvm.exec) {pc : Nat} {Ls : Array Slot} {z : Int32} {t : FieldType} {rest : List Value} (hret : meth.sig.returnType = some t) (ht : t = .boolean ∨ t = .byte ∨ t = .char ∨ t = .short) (hz : nar t z = z)
    (hd : decode c.code pc = .ok (.ireturn, 1)) {fs : List Frame} (hl : ∀ (f : JFrame) (acts : List Action), f.method = m → f.locked = none → f.entered = [] → (doReturn e (T.setTop f) acts (some (.int z))).1 = T.setFrames fs) :
    Steps p.tables e below (T.setTop (mkF m pc Ls (.int z :: rest))) (T.setFrames fs) := retN X hx hret ht hd (by rw [hz]; exact hl)
end New
end Jvm.RoadKit
namespace Jvm.Pilot.@@N@@
open Jvm Jvm.ClassFile Sem Op Lib Jvm.Free Jvm.Stand Jvm.LawKit Jvm.RoadKit Bundle Jvm.Pilot.@@N@@.Jvm.D
/-- from the state A the run comes to some end that P takes -/
def Go (tb : Tables) (e : Env) (below : List Frame) (A : State) (P : State → Outcome → Prop) : Prop := ∃ t o, Steps tb e below A t ∧ P t o
theorem Go.st {tb : Tables} {e : Env} {below : List Frame} {A B : State} {P : State → Outcome → Prop} (h : ∀ t, Steps tb e below A t → Steps tb e below B t) (k : Go tb e below A P) : Go tb e below B P := by
  obtain ⟨t, o, h1, h2⟩ := k; exact ⟨t, o, h t h1, h2⟩
theorem Go.tr {tb : Tables} {e : Env} {below : List Frame} {A B : State} {P : State → Outcome → Prop} (h : Steps tb e below B A) (k : Go tb e below A P) : Go tb e below B P := by
  obtain ⟨t, o, h1, h2⟩ := k; exact ⟨t, o, h.trans h1, h2⟩
theorem Go.start {tb : Tables} {e : Env} {below : List Frame} {A : State} {P0 : State → Outcome → Prop} (h : ∀ P : State → Outcome → Prop, (∀ t o, P0 t o → P t o) → Go tb e below A P) : ∃ t o, Steps tb e below A t ∧ P0 t o := h P0 (fun _ _ q => q)
theorem own_cat {v : Value} (h : v.isRef = true) : v.category = 1 := by rcases ref_cases h with rfl | ⟨_, rfl⟩ <;> rfl
theorem own_cst {tb : Tables} {e : Env} {below : List Frame} {T : State} {m : MethodId} {J : Nat} {Ls : Array Slot} {a b : Int32} {rest : List Value} {t : State} (h : a = b) (k : Steps tb e below (T.setTop (mkF m J Ls (.int a :: rest))) t) : Steps tb e below (T.setTop (mkF m J Ls (.int b :: rest))) t := h ▸ k
theorem own_lt {x y : Int64} (h : x < y) : lcmpW x y < 0 := (lw_lt x y).mpr h
theorem own_nlt {x y : Int64} (h : ¬ x < y) : ¬ lcmpW x y < 0 := fun q => h ((lw_lt x y).mp q)
theorem own_gt {x y : Int64} (h : y < x) : 0 < lcmpW x y := (lw_gt x y).mpr h
theorem own_ngt {x y : Int64} (h : ¬ y < x) : ¬ 0 < lcmpW x y := fun q => h ((lw_gt x y).mp q)
theorem own_eq {x y : Int64} (h : x = y) : lcmpW x y = 0 := (lw_eq x y).mpr h
theorem own_neq {x y : Int64} (h : ¬ x = y) : ¬ lcmpW x y = 0 := fun q => h ((lw_eq x y).mp q)
theorem own_eqI {args : Array Value} {first s : State} {o : Option Outcome} {idx : List Nat} {t : Term} {z : Int32} (h : (Cond.eq t (.int z)).value args first o s idx = some true) : t.eval args first o idx s = some (.int z) := by
  simp only [Cond.value, Term.eval] at h
  cases ht : t.eval args first o idx s with
  | none => simp [ht] at h
  | some x => cases x <;> simp [ht] at h ⊢; exact h
theorem own_eqR {args : Array Value} {first s : State} {o : Option Outcome} {idx : List Nat} {t u : Term} {b : Addr} (hu : u.eval args first o idx s = some (.ref b)) (h : (Cond.eq t u).value args first o s idx = some true) : t.eval args first o idx s = some (.ref b) := by
  simp only [Cond.value, hu] at h
  cases ht : t.eval args first o idx s with
  | none => simp [ht] at h
  | some x => cases x <;> simp [ht] at h ⊢; exact h
theorem own_neR {args : Array Value} {first s : State} {o : Option Outcome} {idx : List Nat} {t u : Term} {a b : Addr} (ht : t.eval args first o idx s = some (.ref a)) (hu : u.eval args first o idx s = some (.ref b)) (h : (Cond.not (.eq t u)).value args first o s idx = some true) : a ≠ b := fun q => by
  subst q
  simp [Cond.value, ht, hu] at h
theorem d_prog_25_method_2_0 : decode prog_25_method_2_code 0 = .ok (.getstatic 13, 3) := by decide +kernel
theorem d_prog_25_method_2_3 : decode prog_25_method_2_code 3 = .ok (.iload_n 0, 1) := by decide +kernel
theorem d_prog_25_method_2_4 : decode prog_25_method_2_code 4 = .ok (.ifCond .eq 7, 3) := by decide +kernel
theorem d_prog_25_method_2_11 : decode prog_25_method_2_code 11 = .ok (.iconst 0, 1) := by decide +kernel
theorem d_prog_25_method_2_12 : decode prog_25_method_2_code 12 = .ok (.iload_n 1, 1) := by decide +kernel
theorem d_prog_25_method_2_13 : decode prog_25_method_2_code 13 = .ok (.ifCond .eq 7, 3) := by decide +kernel
theorem d_prog_25_method_2_20 : decode prog_25_method_2_code 20 = .ok (.iconst 0, 1) := by decide +kernel
theorem d_prog_25_method_2_21 : decode prog_25_method_2_code 21 = .ok (.ior, 1) := by decide +kernel
theorem d_prog_25_method_2_22 : decode prog_25_method_2_code 22 = .ok (.aaload, 1) := by decide +kernel
theorem d_prog_25_method_2_23 : decode prog_25_method_2_code 23 = .ok (.areturn, 1) := by decide +kernel
theorem pn_0 : plainName "com/example/baton/baton/TraceFlags" = true := by first | (simp [plainName, overriddenIn]; done) | decide +kernel
theorem ef_rmOf0 (mi : MethodId) (ar : Addr) (ka : ClassId) (f0 : Addr) (f1 : Addr) (f2 : Addr) (f3 : Addr) (f5 : Addr) (f7 : Addr) (f8 : Addr) (f10 : Addr) : entryFrame mi #[(.int (0 : Int32)), (.int (0 : Int32))] 2 = mkF mi 0 #[.val (.int (0 : Int32)), .val (.int (0 : Int32))] [] := by first | (simp [entryFrame, mkF, argsToLocals, Value.category]; done) | rfl
def Q_rmOf0 (Z : State) (ar : Addr) (ka : ClassId) (f0 : Addr) (f1 : Addr) (f2 : Addr) (f3 : Addr) (f5 : Addr) (f7 : Addr) (f8 : Addr) (f10 : Addr) (h0 : Heap) (n0 : Nat) (vv_ : Option Value) (hh_ : Heap) (LL_ : List Loc) : Prop := vv_ = some (.ref f0) ∧ Fr n0 LL_ ∧ hh_ = h0
set_option maxRecDepth 65536 in
set_option maxHeartbeats 40000000 in
theorem rmOf0 (l : Launch) (Z : State) (a0 : Array Value) (hw : ∀ d ∈ tables_1, d.before a0 Z = true) (ws : List Jvm.Cond) (ar : Addr) (ka : ClassId) (f0 : Addr) (f1 : Addr) (f2 : Addr) (f3 : Addr) (f5 : Addr) (f7 : Addr) (f8 : Addr) (f10 : Addr) (h0 : Heap) (n0 : Nat) (Z0 : n0 ≤ h0.size) (S0 : Sta Z h0 "com/example/baton/baton/TraceFlags" "BY_BITS" "[Lcom/example/baton/baton/TraceFlags;" (.ref ar)) (A0 : Arv Z h0 ar ka (.object "com/example/baton/baton/TraceFlags") (11 : Int32) [(.ref f0), (.ref f1), (.ref f2), (.ref f3), .null, (.ref f5), .null, (.ref f7), (.ref f8), .null, (.ref f10)] .null) :
    MetFree l (⟨"com/example/baton/baton/TraceFlags", "of", "(ZZ)Lcom/example/baton/baton/TraceFlags;"⟩ : MethodName) (head1 (Jvm.Cond.code (⟨"com/example/baton/baton/TraceFlags", "of", "(ZZ)Lcom/example/baton/baton/TraceFlags;"⟩ : MethodName) prog_25_method_2_code 2 (some (.object "com/example/baton/baton/TraceFlags")) :: ws) ({ frames := 0, cells := 0, slots := 0, locals := 0 } : Room)) (fun aa_ U => aa_ = #[(.int (0 : Int32)), (.int (0 : Int32))] ∧ Z.Warmed39 U.vm ∧ U.heap = h0) (fun _ _ _ _ _ => True) (fun _ U oo_ UV_ => ∃ vv_ LL_, oo_ = .returned vv_ ∧ Q_rmOf0 Z ar ka f0 f1 f2 f3 f5 f7 f8 f10 h0 n0 vv_ UV_.heap LL_ ∧ FrameEnd U oo_ UV_ LL_ ({ frames := 0, cells := 0, slots := 0, locals := 0 } : Room).cells ({ frames := 0, cells := 0, slots := 0, locals := 0 } : Room).slots) := by
  refine MetFree.of_bodySF (plainFor_of_name pn_0) hisR ?_
  intro pg ev si mi args below meth ci s₁ Bd hml0 hP0 hK
  obtain ⟨rfl, hZ, hh⟩ := hP0
  have hx := Bd.exec
  have hby := Bd.bytes
  have hml : ci.maxLocals = 2 := hml0
  have hown : si.vm.findClass "com/example/baton/baton/TraceFlags" = some mi.cls := findClass_of_methodNamed Bd.named
  have hnm := (name_of_methodNamed Bd.named Bd.method).1
  have X0 : Stand pg l ev ({ frames := 0, cells := 0, slots := 0, locals := 0 } : Room) si mi #[(.int (0 : Int32)), (.int (0 : Int32))] below meth ci s₁ [] 0 0 := Stand.of_body Bd
  have e0 : s₁.heap = h0 := by rw [← hh, Bd.state]; rfl
  have N0 := Fr.nil n0
  refine Go.start (fun P hP => ?_)
  refine Go.st (fun t_ k_ => castTop (ef_rmOf0 mi ar ka f0 f1 f2 f3 f5 f7 f8 f10) k_) (A := s₁.setTop (mkF mi 0 #[.val (.int (0 : Int32)), .val (.int (0 : Int32))] [])) ?_
  show Go pg.tables ev below (s₁.setTop (mkF mi 0 #[.val (.int (0 : Int32)), .val (.int (0 : Int32))] [])) P
  obtain ⟨T1, X1, e1, st1⟩ := getS2 X0 hx hZ hown (host := "") (Or.inl (hw _ (List.mem_of_getElem? (i := 4) rfl))) Via.refl e0 S0 (g := (mkF mi 0 #[.val (.int (0 : Int32)), .val (.int (0 : Int32))] [])) rfl (hb hby d_prog_25_method_2_0)
  refine Go.st st1 ?_
  show Go pg.tables ev below (T1.setTop (mkF mi 3 #[.val (.int (0 : Int32)), .val (.int (0 : Int32))] [(.ref ar)])) P
  refine Go.st (fun t_ k_ => XS.iloadN X1.here hx rfl (hb hby d_prog_25_method_2_3) rfl k_) ?_
  show Go pg.tables ev below (T1.setTop (mkF mi 4 #[.val (.int (0 : Int32)), .val (.int (0 : Int32))] [(.int (0 : Int32)), (.ref ar)])) P
  refine Go.st (fun t_ k_ => XS.ifYes X1.here hx rfl (pc0 := 4) (pc' := 11) rfl (hb hby d_prog_25_method_2_4) rfl ((if0 _ _).trans (teq rfl).1) (by decide) (by decide) k_) ?_
  show Go pg.tables ev below (T1.setTop (mkF mi 11 #[.val (.int (0 : Int32)), .val (.int (0 : Int32))] [(.ref ar)])) P
  refine Go.st (fun t_ k_ => XS.iconst X1.here hx rfl (hb hby d_prog_25_method_2_11) k_) ?_
  show Go pg.tables ev below (T1.setTop (mkF mi 12 #[.val (.int (0 : Int32)), .val (.int (0 : Int32))] [(.int (0 : Int32)), (.ref ar)])) P
  refine Go.st (fun t_ k_ => XS.iloadN X1.here hx rfl (hb hby d_prog_25_method_2_12) rfl k_) ?_
  show Go pg.tables ev below (T1.setTop (mkF mi 13 #[.val (.int (0 : Int32)), .val (.int (0 : Int32))] [(.int (0 : Int32)), (.int (0 : Int32)), (.ref ar)])) P
  refine Go.st (fun t_ k_ => XS.ifYes X1.here hx rfl (pc0 := 13) (pc' := 20) rfl (hb hby d_prog_25_method_2_13) rfl ((if0 _ _).trans (teq rfl).1) (by decide) (by decide) k_) ?_
  show Go pg.tables ev below (T1.setTop (mkF mi 20 #[.val (.int (0 : Int32)), .val (.int (0 : Int32))] [(.int (0 : Int32)), (.ref ar)])) P
  refine Go.st (fun t_ k_ => XS.iconst X1.here hx rfl (hb hby d_prog_25_method_2_20) k_) ?_
  show Go pg.tables ev below (T1.setTop (mkF mi 21 #[.val (.int (0 : Int32)), .val (.int (0 : Int32))] [(.int (0 : Int32)), (.int (0 : Int32)), (.ref ar)])) P
  refine Go.st (fun t_ k_ => XS.ior X1.here hx rfl (hb hby d_prog_25_method_2_21) rfl k_) ?_
  show Go pg.tables ev below (T1.setTop (mkF mi 22 #[.val (.int (0 : Int32)), .val (.int (0 : Int32))] [(.int (0 : Int32)), (.ref ar)])) P
  have ov2 := A0
  obtain ⟨cl2, Ar2, q2, S2, M2, H2, G2⟩ := ov2
  have hin2 : ¬ ((0 : Int32) < 0 ∨ cl2.slots.size ≤ ((0 : Int32)).toNatClampNeg) := inb_of S2 ⟨by decide, by decide⟩
  have hat2 : cl2.slots[((0 : Int32)).toNatClampNeg]? = some (.ref f0) := Has.at H2 hin2 rfl
  refine Go.st (X1.aaload hx (j := (0 : Int32)) (v := (.ref f0)) (by rw [e1]; exact Ar2.1) (State.isArrayOf_alike hZ.alike Ar2.2.1) rfl Ar2.2.2 hin2 hat2 (g := (mkF mi 22 #[.val (.int (0 : Int32)), .val (.int (0 : Int32))] [(.int (0 : Int32)), (.ref ar)])) rfl rfl (hb hby d_prog_25_method_2_22)) ?_
  show Go pg.tables ev below (T1.setTop (mkF mi 23 #[.val (.int (0 : Int32)), .val (.int (0 : Int32))] [(.ref f0)])) P
  obtain ⟨fs, hr, hrun, hended, hW, hsame⟩ := X1.leave (v := some (.ref f0)) (fun h => by rw [Bd.returns] at h; cases h) (BodyLoose.notSynchronized Bd)
  refine ⟨_, _, ?_, hP _ _ ⟨hrun, hended, _, _, rfl, ?_, ⟨_, rfl⟩, hW, hsame.mono (by decide) (by decide)⟩⟩
  · exact retOut X1 hx Bd.returns rfl (Or.inr (Or.inr (Or.inr (Or.inr ⟨rfl, rfl, rfl⟩)))) (hb hby d_prog_25_method_2_23) hr
  · show (some (.ref f0) : Option Value) = some (.ref f0) ∧ Fr n0 _ ∧ T1.heap = h0
    rw [e1]
    exact ⟨rfl, N0, rfl⟩
theorem d_prog_25_method_2_16 : decode prog_25_method_2_code 16 = .ok (.iconst 2, 1) := by decide +kernel
theorem d_prog_25_method_2_17 : decode prog_25_method_2_code 17 = .ok (.goto 4, 3) := by decide +kernel
theorem ef_rmOf2 (mi : MethodId) (ar : Addr) (ka : ClassId) (f0 : Addr) (f1 : Addr) (f2 : Addr) (f3 : Addr) (f5 : Addr) (f7 : Addr) (f8 : Addr) (f10 : Addr) : entryFrame mi #[(.int (0 : Int32)), (.int (1 : Int32))] 2 = mkF mi 0 #[.val (.int (0 : Int32)), .val (.int (1 : Int32))] [] := by first | (simp [entryFrame, mkF, argsToLocals, Value.category]; done) | rfl
def Q_rmOf2 (Z : State) (ar : Addr) (ka : ClassId) (f0 : Addr) (f1 : Addr) (f2 : Addr) (f3 : Addr) (f5 : Addr) (f7 : Addr) (f8 : Addr) (f10 : Addr) (h0 : Heap) (n0 : Nat) (vv_ : Option Value) (hh_ : Heap) (LL_ : List Loc) : Prop := vv_ = some (.ref f2) ∧ Fr n0 LL_ ∧ hh_ = h0
set_option maxRecDepth 65536 in
set_option maxHeartbeats 40000000 in
theorem rmOf2 (l : Launch) (Z : State) (a0 : Array Value) (hw : ∀ d ∈ tables_1, d.before a0 Z = true) (ws : List Jvm.Cond) (ar : Addr) (ka : ClassId) (f0 : Addr) (f1 : Addr) (f2 : Addr) (f3 : Addr) (f5 : Addr) (f7 : Addr) (f8 : Addr) (f10 : Addr) (h0 : Heap) (n0 : Nat) (Z0 : n0 ≤ h0.size) (S0 : Sta Z h0 "com/example/baton/baton/TraceFlags" "BY_BITS" "[Lcom/example/baton/baton/TraceFlags;" (.ref ar)) (A0 : Arv Z h0 ar ka (.object "com/example/baton/baton/TraceFlags") (11 : Int32) [(.ref f0), (.ref f1), (.ref f2), (.ref f3), .null, (.ref f5), .null, (.ref f7), (.ref f8), .null, (.ref f10)] .null) :
    MetFree l (⟨"com/example/baton/baton/TraceFlags", "of", "(ZZ)Lcom/example/baton/baton/TraceFlags;"⟩ : MethodName) (head1 (Jvm.Cond.code (⟨"com/example/baton/baton/TraceFlags", "of", "(ZZ)Lcom/example/baton/baton/TraceFlags;"⟩ : MethodName) prog_25_method_2_code 2 (some (.object "com/example/baton/baton/TraceFlags")) :: ws) ({ frames := 0, cells := 0, slots := 0, locals := 0 } : Room)) (fun aa_ U => aa_ = #[(.int (0 : Int32)), (.int (1 : Int32))] ∧ Z.Warmed39 U.vm ∧ U.heap = h0) (fun _ _ _ _ _ => True) (fun _ U oo_ UV_ => ∃ vv_ LL_, oo_ = .returned vv_ ∧ Q_rmOf2 Z ar ka f0 f1 f2 f3 f5 f7 f8 f10 h0 n0 vv_ UV_.heap LL_ ∧ FrameEnd U oo_ UV_ LL_ ({ frames := 0, cells := 0, slots := 0, locals := 0 } : Room).cells ({ frames := 0, cells := 0, slots := 0, locals := 0 } : Room).slots) := by
  refine MetFree.of_bodySF (plainFor_of_name pn_0) hisR ?_
  intro pg ev si mi args below meth ci s₁ Bd hml0 hP0 hK
  obtain ⟨rfl, hZ, hh⟩ := hP0
  have hx := Bd.exec
  have hby := Bd.bytes
  have hml : ci.maxLocals = 2 := hml0
  have hown : si.vm.findClass "com/example/baton/baton/TraceFlags" = some mi.cls := findClass_of_methodNamed Bd.named
  have hnm := (name_of_methodNamed Bd.named Bd.method).1
  have X0 : Stand pg l ev ({ frames := 0, cells := 0, slots := 0, locals := 0 } : Room) si mi #[(.int (0 : Int32)), (.int (1 : Int32))] below meth ci s₁ [] 0 0 := Stand.of_body Bd
  have e0 : s₁.heap = h0 := by rw [← hh, Bd.state]; rfl
  have N0 := Fr.nil n0
  refine Go.start (fun P hP => ?_)
  refine Go.st (fun t_ k_ => castTop (ef_rmOf2 mi ar ka f0 f1 f2 f3 f5 f7 f8 f10) k_) (A := s₁.setTop (mkF mi 0 #[.val (.int (0 : Int32)), .val (.int (1 : Int32))] [])) ?_
  show Go pg.tables ev below (s₁.setTop (mkF mi 0 #[.val (.int (0 : Int32)), .val (.int (1 : Int32))] [])) P
  obtain ⟨T1, X1, e1, st1⟩ := getS2 X0 hx hZ hown (host := "") (Or.inl (hw _ (List.mem_of_getElem? (i := 4) rfl))) Via.refl e0 S0 (g := (mkF mi 0 #[.val (.int (0 : Int32)), .val (.int (1 : Int32))] [])) rfl (hb hby d_prog_25_method_2_0)
  refine Go.st st1 ?_
  show Go pg.tables ev below (T1.setTop (mkF mi 3 #[.val (.int (0 : Int32)), .val (.int (1 : Int32))] [(.ref ar)])) P
  refine Go.st (fun t_ k_ => XS.iloadN X1.here hx rfl (hb hby d_prog_25_method_2_3) rfl k_) ?_
  show Go pg.tables ev below (T1.setTop (mkF mi 4 #[.val (.int (0 : Int32)), .val (.int (1 : Int32))] [(.int (0 : Int32)), (.ref ar)])) P
  refine Go.st (fun t_ k_ => XS.ifYes X1.here hx rfl (pc0 := 4) (pc' := 11) rfl (hb hby d_prog_25_method_2_4) rfl ((if0 _ _).trans (teq rfl).1) (by decide) (by decide) k_) ?_
  show Go pg.tables ev below (T1.setTop (mkF mi 11 #[.val (.int (0 : Int32)), .val (.int (1 : Int32))] [(.ref ar)])) P
  refine Go.st (fun t_ k_ => XS.iconst X1.here hx rfl (hb hby d_prog_25_method_2_11) k_) ?_
  show Go pg.tables ev below (T1.setTop (mkF mi 12 #[.val (.int (0 : Int32)), .val (.int (1 : Int32))] [(.int (0 : Int32)), (.ref ar)])) P
  refine Go.st (fun t_ k_ => XS.iloadN X1.here hx rfl (hb hby d_prog_25_method_2_12) rfl k_) ?_
  show Go pg.tables ev below (T1.setTop (mkF mi 13 #[.val (.int (0 : Int32)), .val (.int (1 : Int32))] [(.int (1 : Int32)), (.int (0 : Int32)), (.ref ar)])) P
  refine Go.st (fun t_ k_ => XS.ifNo X1.here hx rfl (hb hby d_prog_25_method_2_13) rfl ((if0 _ _).trans (feq (by decide)).1) k_) ?_
  show Go pg.tables ev below (T1.setTop (mkF mi 16 #[.val (.int (0 : Int32)), .val (.int (1 : Int32))] [(.int (0 : Int32)), (.ref ar)])) P
  refine Go.st (fun t_ k_ => XS.iconst X1.here hx rfl (hb hby d_prog_25_method_2_16) k_) ?_
  show Go pg.tables ev below (T1.setTop (mkF mi 17 #[.val (.int (0 : Int32)), .val (.int (1 : Int32))] [(.int (2 : Int32)), (.int (0 : Int32)), (.ref ar)])) P
  refine Go.st (fun t_ k_ => XS.goto X1.here hx rfl (pc0 := 17) (pc' := 21) rfl (hb hby d_prog_25_method_2_17) (by decide) (by decide) k_) ?_
  show Go pg.tables ev below (T1.setTop (mkF mi 21 #[.val (.int (0 : Int32)), .val (.int (1 : Int32))] [(.int (2 : Int32)), (.int (0 : Int32)), (.ref ar)])) P
  refine Go.st (fun t_ k_ => XS.ior X1.here hx rfl (hb hby d_prog_25_method_2_21) rfl k_) ?_
  show Go pg.tables ev below (T1.setTop (mkF mi 22 #[.val (.int (0 : Int32)), .val (.int (1 : Int32))] [(.int (2 : Int32)), (.ref ar)])) P
  have ov2 := A0
  obtain ⟨cl2, Ar2, q2, S2, M2, H2, G2⟩ := ov2
  have hin2 : ¬ ((2 : Int32) < 0 ∨ cl2.slots.size ≤ ((2 : Int32)).toNatClampNeg) := inb_of S2 ⟨by decide, by decide⟩
  have hat2 : cl2.slots[((2 : Int32)).toNatClampNeg]? = some (.ref f2) := Has.at H2 hin2 rfl
  refine Go.st (X1.aaload hx (j := (2 : Int32)) (v := (.ref f2)) (by rw [e1]; exact Ar2.1) (State.isArrayOf_alike hZ.alike Ar2.2.1) rfl Ar2.2.2 hin2 hat2 (g := (mkF mi 22 #[.val (.int (0 : Int32)), .val (.int (1 : Int32))] [(.int (2 : Int32)), (.ref ar)])) rfl rfl (hb hby d_prog_25_method_2_22)) ?_
  show Go pg.tables ev below (T1.setTop (mkF mi 23 #[.val (.int (0 : Int32)), .val (.int (1 : Int32))] [(.ref f2)])) P
  obtain ⟨fs, hr, hrun, hended, hW, hsame⟩ := X1.leave (v := some (.ref f2)) (fun h => by rw [Bd.returns] at h; cases h) (BodyLoose.notSynchronized Bd)
  refine ⟨_, _, ?_, hP _ _ ⟨hrun, hended, _, _, rfl, ?_, ⟨_, rfl⟩, hW, hsame.mono (by decide) (by decide)⟩⟩
  · exact retOut X1 hx Bd.returns rfl (Or.inr (Or.inr (Or.inr (Or.inr ⟨rfl, rfl, rfl⟩)))) (hb hby d_prog_25_method_2_23) hr
  · show (some (.ref f2) : Option Value) = some (.ref f2) ∧ Fr n0 _ ∧ T1.heap = h0
    rw [e1]
    exact ⟨rfl, N0, rfl⟩
theorem d_prog_25_method_2_7 : decode prog_25_method_2_code 7 = .ok (.iconst 1, 1) := by decide +kernel
theorem d_prog_25_method_2_8 : decode prog_25_method_2_code 8 = .ok (.goto 4, 3) := by decide +kernel
theorem ef_rmOf1 (mi : MethodId) (ar : Addr) (ka : ClassId) (f0 : Addr) (f1 : Addr) (f2 : Addr) (f3 : Addr) (f5 : Addr) (f7 : Addr) (f8 : Addr) (f10 : Addr) : entryFrame mi #[(.int (1 : Int32)), (.int (0 : Int32))] 2 = mkF mi 0 #[.val (.int (1 : Int32)), .val (.int (0 : Int32))] [] := by first | (simp [entryFrame, mkF, argsToLocals, Value.category]; done) | rfl
def Q_rmOf1 (Z : State) (ar : Addr) (ka : ClassId) (f0 : Addr) (f1 : Addr) (f2 : Addr) (f3 : Addr) (f5 : Addr) (f7 : Addr) (f8 : Addr) (f10 : Addr) (h0 : Heap) (n0 : Nat) (vv_ : Option Value) (hh_ : Heap) (LL_ : List Loc) : Prop := vv_ = some (.ref f1) ∧ Fr n0 LL_ ∧ hh_ = h0
set_option maxRecDepth 65536 in
set_option maxHeartbeats 40000000 in
theorem rmOf1 (l : Launch) (Z : State) (a0 : Array Value) (hw : ∀ d ∈ tables_1, d.before a0 Z = true) (ws : List Jvm.Cond) (ar : Addr) (ka : ClassId) (f0 : Addr) (f1 : Addr) (f2 : Addr) (f3 : Addr) (f5 : Addr) (f7 : Addr) (f8 : Addr) (f10 : Addr) (h0 : Heap) (n0 : Nat) (Z0 : n0 ≤ h0.size) (S0 : Sta Z h0 "com/example/baton/baton/TraceFlags" "BY_BITS" "[Lcom/example/baton/baton/TraceFlags;" (.ref ar)) (A0 : Arv Z h0 ar ka (.object "com/example/baton/baton/TraceFlags") (11 : Int32) [(.ref f0), (.ref f1), (.ref f2), (.ref f3), .null, (.ref f5), .null, (.ref f7), (.ref f8), .null, (.ref f10)] .null) :
    MetFree l (⟨"com/example/baton/baton/TraceFlags", "of", "(ZZ)Lcom/example/baton/baton/TraceFlags;"⟩ : MethodName) (head1 (Jvm.Cond.code (⟨"com/example/baton/baton/TraceFlags", "of", "(ZZ)Lcom/example/baton/baton/TraceFlags;"⟩ : MethodName) prog_25_method_2_code 2 (some (.object "com/example/baton/baton/TraceFlags")) :: ws) ({ frames := 0, cells := 0, slots := 0, locals := 0 } : Room)) (fun aa_ U => aa_ = #[(.int (1 : Int32)), (.int (0 : Int32))] ∧ Z.Warmed39 U.vm ∧ U.heap = h0) (fun _ _ _ _ _ => True) (fun _ U oo_ UV_ => ∃ vv_ LL_, oo_ = .returned vv_ ∧ Q_rmOf1 Z ar ka f0 f1 f2 f3 f5 f7 f8 f10 h0 n0 vv_ UV_.heap LL_ ∧ FrameEnd U oo_ UV_ LL_ ({ frames := 0, cells := 0, slots := 0, locals := 0 } : Room).cells ({ frames := 0, cells := 0, slots := 0, locals := 0 } : Room).slots) := by
  refine MetFree.of_bodySF (plainFor_of_name pn_0) hisR ?_
  intro pg ev si mi args below meth ci s₁ Bd hml0 hP0 hK
  obtain ⟨rfl, hZ, hh⟩ := hP0
  have hx := Bd.exec
  have hby := Bd.bytes
  have hml : ci.maxLocals = 2 := hml0
  have hown : si.vm.findClass "com/example/baton/baton/TraceFlags" = some mi.cls := findClass_of_methodNamed Bd.named
  have hnm := (name_of_methodNamed Bd.named Bd.method).1
  have X0 : Stand pg l ev ({ frames := 0, cells := 0, slots := 0, locals := 0 } : Room) si mi #[(.int (1 : Int32)), (.int (0 : Int32))] below meth ci s₁ [] 0 0 := Stand.of_body Bd
  have e0 : s₁.heap = h0 := by rw [← hh, Bd.state]; rfl
  have N0 := Fr.nil n0
  refine Go.start (fun P hP => ?_)
  refine Go.st (fun t_ k_ => castTop (ef_rmOf1 mi ar ka f0 f1 f2 f3 f5 f7 f8 f10) k_) (A := s₁.setTop (mkF mi 0 #[.val (.int (1 : Int32)), .val (.int (0 : Int32))] [])) ?_
  show Go pg.tables ev below (s₁.setTop (mkF mi 0 #[.val (.int (1 : Int32)), .val (.int (0 : Int32))] [])) P
  obtain ⟨T1, X1, e1, st1⟩ := getS2 X0 hx hZ hown (host := "") (Or.inl (hw _ (List.mem_of_getElem? (i := 4) rfl))) Via.refl e0 S0 (g := (mkF mi 0 #[.val (.int (1 : Int32)), .val (.int (0 : Int32))] [])) rfl (hb hby d_prog_25_method_2_0)
  refine Go.st st1 ?_
  show Go pg.tables ev below (T1.setTop (mkF mi 3 #[.val (.int (1 : Int32)), .val (.int (0 : Int32))] [(.ref ar)])) P
  refine Go.st (fun t_ k_ => XS.iloadN X1.here hx rfl (hb hby d_prog_25_method_2_3) rfl k_) ?_
  show Go pg.tables ev below (T1.setTop (mkF mi 4 #[.val (.int (1 : Int32)), .val (.int (0 : Int32))] [(.int (1 : Int32)), (.ref ar)])) P
  refine Go.st (fun t_ k_ => XS.ifNo X1.here hx rfl (hb hby d_prog_25_method_2_4) rfl ((if0 _ _).trans (feq (by decide)).1) k_) ?_
  show Go pg.tables ev below (T1.setTop (mkF mi 7 #[.val (.int (1 : Int32)), .val (.int (0 : Int32))] [(.ref ar)])) P
  refine Go.st (fun t_ k_ => XS.iconst X1.here hx rfl (hb hby d_prog_25_method_2_7) k_) ?_
  show Go pg.tables ev below (T1.setTop (mkF mi 8 #[.val (.int (1 : Int32)), .val (.int (0 : Int32))] [(.int (1 : Int32)), (.ref ar)])) P
  refine Go.st (fun t_ k_ => XS.goto X1.here hx rfl (pc0 := 8) (pc' := 12) rfl (hb hby d_prog_25_method_2_8) (by decide) (by decide) k_) ?_
  show Go pg.tables ev below (T1.setTop (mkF mi 12 #[.val (.int (1 : Int32)), .val (.int (0 : Int32))] [(.int (1 : Int32)), (.ref ar)])) P
  refine Go.st (fun t_ k_ => XS.iloadN X1.here hx rfl (hb hby d_prog_25_method_2_12) rfl k_) ?_
  show Go pg.tables ev below (T1.setTop (mkF mi 13 #[.val (.int (1 : Int32)), .val (.int (0 : Int32))] [(.int (0 : Int32)), (.int (1 : Int32)), (.ref ar)])) P
  refine Go.st (fun t_ k_ => XS.ifYes X1.here hx rfl (pc0 := 13) (pc' := 20) rfl (hb hby d_prog_25_method_2_13) rfl ((if0 _ _).trans (teq rfl).1) (by decide) (by decide) k_) ?_
  show Go pg.tables ev below (T1.setTop (mkF mi 20 #[.val (.int (1 : Int32)), .val (.int (0 : Int32))] [(.int (1 : Int32)), (.ref ar)])) P
  refine Go.st (fun t_ k_ => XS.iconst X1.here hx rfl (hb hby d_prog_25_method_2_20) k_) ?_
  show Go pg.tables ev below (T1.setTop (mkF mi 21 #[.val (.int (1 : Int32)), .val (.int (0 : Int32))] [(.int (0 : Int32)), (.int (1 : Int32)), (.ref ar)])) P
  refine Go.st (fun t_ k_ => XS.ior X1.here hx rfl (hb hby d_prog_25_method_2_21) rfl k_) ?_
  show Go pg.tables ev below (T1.setTop (mkF mi 22 #[.val (.int (1 : Int32)), .val (.int (0 : Int32))] [(.int (1 : Int32)), (.ref ar)])) P
  have ov2 := A0
  obtain ⟨cl2, Ar2, q2, S2, M2, H2, G2⟩ := ov2
  have hin2 : ¬ ((1 : Int32) < 0 ∨ cl2.slots.size ≤ ((1 : Int32)).toNatClampNeg) := inb_of S2 ⟨by decide, by decide⟩
  have hat2 : cl2.slots[((1 : Int32)).toNatClampNeg]? = some (.ref f1) := Has.at H2 hin2 rfl
  refine Go.st (X1.aaload hx (j := (1 : Int32)) (v := (.ref f1)) (by rw [e1]; exact Ar2.1) (State.isArrayOf_alike hZ.alike Ar2.2.1) rfl Ar2.2.2 hin2 hat2 (g := (mkF mi 22 #[.val (.int (1 : Int32)), .val (.int (0 : Int32))] [(.int (1 : Int32)), (.ref ar)])) rfl rfl (hb hby d_prog_25_method_2_22)) ?_
  show Go pg.tables ev below (T1.setTop (mkF mi 23 #[.val (.int (1 : Int32)), .val (.int (0 : Int32))] [(.ref f1)])) P
  obtain ⟨fs, hr, hrun, hended, hW, hsame⟩ := X1.leave (v := some (.ref f1)) (fun h => by rw [Bd.returns] at h; cases h) (BodyLoose.notSynchronized Bd)
  refine ⟨_, _, ?_, hP _ _ ⟨hrun, hended, _, _, rfl, ?_, ⟨_, rfl⟩, hW, hsame.mono (by decide) (by decide)⟩⟩
  · exact retOut X1 hx Bd.returns rfl (Or.inr (Or.inr (Or.inr (Or.inr ⟨rfl, rfl, rfl⟩)))) (hb hby d_prog_25_method_2_23) hr
  · show (some (.ref f1) : Option Value) = some (.ref f1) ∧ Fr n0 _ ∧ T1.heap = h0
    rw [e1]
    exact ⟨rfl, N0, rfl⟩
theorem ef_rmOf3 (mi : MethodId) (ar : Addr) (ka : ClassId) (f0 : Addr) (f1 : Addr) (f2 : Addr) (f3 : Addr) (f5 : Addr) (f7 : Addr) (f8 : Addr) (f10 : Addr) : entryFrame mi #[(.int (1 : Int32)), (.int (1 : Int32))] 2 = mkF mi 0 #[.val (.int (1 : Int32)), .val (.int (1 : Int32))] [] := by first | (simp [entryFrame, mkF, argsToLocals, Value.category]; done) | rfl
def Q_rmOf3 (Z : State) (ar : Addr) (ka : ClassId) (f0 : Addr) (f1 : Addr) (f2 : Addr) (f3 : Addr) (f5 : Addr) (f7 : Addr) (f8 : Addr) (f10 : Addr) (h0 : Heap) (n0 : Nat) (vv_ : Option Value) (hh_ : Heap) (LL_ : List Loc) : Prop := vv_ = some (.ref f3) ∧ Fr n0 LL_ ∧ hh_ = h0
set_option maxRecDepth 65536 in
set_option maxHeartbeats 40000000 in
theorem rmOf3 (l : Launch) (Z : State) (a0 : Array Value) (hw : ∀ d ∈ tables_1, d.before a0 Z = true) (ws : List Jvm.Cond) (ar : Addr) (ka : ClassId) (f0 : Addr) (f1 : Addr) (f2 : Addr) (f3 : Addr) (f5 : Addr) (f7 : Addr) (f8 : Addr) (f10 : Addr) (h0 : Heap) (n0 : Nat) (Z0 : n0 ≤ h0.size) (S0 : Sta Z h0 "com/example/baton/baton/TraceFlags" "BY_BITS" "[Lcom/example/baton/baton/TraceFlags;" (.ref ar)) (A0 : Arv Z h0 ar ka (.object "com/example/baton/baton/TraceFlags") (11 : Int32) [(.ref f0), (.ref f1), (.ref f2), (.ref f3), .null, (.ref f5), .null, (.ref f7), (.ref f8), .null, (.ref f10)] .null) :
    MetFree l (⟨"com/example/baton/baton/TraceFlags", "of", "(ZZ)Lcom/example/baton/baton/TraceFlags;"⟩ : MethodName) (head1 (Jvm.Cond.code (⟨"com/example/baton/baton/TraceFlags", "of", "(ZZ)Lcom/example/baton/baton/TraceFlags;"⟩ : MethodName) prog_25_method_2_code 2 (some (.object "com/example/baton/baton/TraceFlags")) :: ws) ({ frames := 0, cells := 0, slots := 0, locals := 0 } : Room)) (fun aa_ U => aa_ = #[(.int (1 : Int32)), (.int (1 : Int32))] ∧ Z.Warmed39 U.vm ∧ U.heap = h0) (fun _ _ _ _ _ => True) (fun _ U oo_ UV_ => ∃ vv_ LL_, oo_ = .returned vv_ ∧ Q_rmOf3 Z ar ka f0 f1 f2 f3 f5 f7 f8 f10 h0 n0 vv_ UV_.heap LL_ ∧ FrameEnd U oo_ UV_ LL_ ({ frames := 0, cells := 0, slots := 0, locals := 0 } : Room).cells ({ frames := 0, cells := 0, slots := 0, locals := 0 } : Room).slots) := by
  refine MetFree.of_bodySF (plainFor_of_name pn_0) hisR ?_
  intro pg ev si mi args below meth ci s₁ Bd hml0 hP0 hK
  obtain ⟨rfl, hZ, hh⟩ := hP0
  have hx := Bd.exec
  have hby := Bd.bytes
  have hml : ci.maxLocals = 2 := hml0
  have hown : si.vm.findClass "com/example/baton/baton/TraceFlags" = some mi.cls := findClass_of_methodNamed Bd.named
  have hnm := (name_of_methodNamed Bd.named Bd.method).1
  have X0 : Stand pg l ev ({ frames := 0, cells := 0, slots := 0, locals := 0 } : Room) si mi #[(.int (1 : Int32)), (.int (1 : Int32))] below meth ci s₁ [] 0 0 := Stand.of_body Bd
  have e0 : s₁.heap = h0 := by rw [← hh, Bd.state]; rfl
  have N0 := Fr.nil n0
  refine Go.start (fun P hP => ?_)
  refine Go.st (fun t_ k_ => castTop (ef_rmOf3 mi ar ka f0 f1 f2 f3 f5 f7 f8 f10) k_) (A := s₁.setTop (mkF mi 0 #[.val (.int (1 : Int32)), .val (.int (1 : Int32))] [])) ?_
  show Go pg.tables ev below (s₁.setTop (mkF mi 0 #[.val (.int (1 : Int32)), .val (.int (1 : Int32))] [])) P
  obtain ⟨T1, X1, e1, st1⟩ := getS2 X0 hx hZ hown (host := "") (Or.inl (hw _ (List.mem_of_getElem? (i := 4) rfl))) Via.refl e0 S0 (g := (mkF mi 0 #[.val (.int (1 : Int32)), .val (.int (1 : Int32))] [])) rfl (hb hby d_prog_25_method_2_0)
  refine Go.st st1 ?_
  show Go pg.tables ev below (T1.setTop (mkF mi 3 #[.val (.int (1 : Int32)), .val (.int (1 : Int32))] [(.ref ar)])) P
  refine Go.st (fun t_ k_ => XS.iloadN X1.here hx rfl (hb hby d_prog_25_method_2_3) rfl k_) ?_
  show Go pg.tables ev below (T1.setTop (mkF mi 4 #[.val (.int (1 : Int32)), .val (.int (1 : Int32))] [(.int (1 : Int32)), (.ref ar)])) P
  refine Go.st (fun t_ k_ => XS.ifNo X1.here hx rfl (hb hby d_prog_25_method_2_4) rfl ((if0 _ _).trans (feq (by decide)).1) k_) ?_
  show Go pg.tables ev below (T1.setTop (mkF mi 7 #[.val (.int (1 : Int32)), .val (.int (1 : Int32))] [(.ref ar)])) P
  refine Go.st (fun t_ k_ => XS.iconst X1.here hx rfl (hb hby d_prog_25_method_2_7) k_) ?_
  show Go pg.tables ev below (T1.setTop (mkF mi 8 #[.val (.int (1 : Int32)), .val (.int (1 : Int32))] [(.int (1 : Int32)), (.ref ar)])) P
  refine Go.st (fun t_ k_ => XS.goto X1.here hx rfl (pc0 := 8) (pc' := 12) rfl (hb hby d_prog_25_method_2_8) (by decide) (by decide) k_) ?_
  show Go pg.tables ev below (T1.setTop (mkF mi 12 #[.val (.int (1 : Int32)), .val (.int (1 : Int32))] [(.int (1 : Int32)), (.ref ar)])) P
  refine Go.st (fun t_ k_ => XS.iloadN X1.here hx rfl (hb hby d_prog_25_method_2_12) rfl k_) ?_
  show Go pg.tables ev below (T1.setTop (mkF mi 13 #[.val (.int (1 : Int32)), .val (.int (1 : Int32))] [(.int (1 : Int32)), (.int (1 : Int32)), (.ref ar)])) P
  refine Go.st (fun t_ k_ => XS.ifNo X1.here hx rfl (hb hby d_prog_25_method_2_13) rfl ((if0 _ _).trans (feq (by decide)).1) k_) ?_
  show Go pg.tables ev below (T1.setTop (mkF mi 16 #[.val (.int (1 : Int32)), .val (.int (1 : Int32))] [(.int (1 : Int32)), (.ref ar)])) P
  refine Go.st (fun t_ k_ => XS.iconst X1.here hx rfl (hb hby d_prog_25_method_2_16) k_) ?_
  show Go pg.tables ev below (T1.setTop (mkF mi 17 #[.val (.int (1 : Int32)), .val (.int (1 : Int32))] [(.int (2 : Int32)), (.int (1 : Int32)), (.ref ar)])) P
  refine Go.st (fun t_ k_ => XS.goto X1.here hx rfl (pc0 := 17) (pc' := 21) rfl (hb hby d_prog_25_method_2_17) (by decide) (by decide) k_) ?_
  show Go pg.tables ev below (T1.setTop (mkF mi 21 #[.val (.int (1 : Int32)), .val (.int (1 : Int32))] [(.int (2 : Int32)), (.int (1 : Int32)), (.ref ar)])) P
  refine Go.st (fun t_ k_ => XS.ior X1.here hx rfl (hb hby d_prog_25_method_2_21) rfl k_) ?_
  show Go pg.tables ev below (T1.setTop (mkF mi 22 #[.val (.int (1 : Int32)), .val (.int (1 : Int32))] [(.int (3 : Int32)), (.ref ar)])) P
  have ov2 := A0
  obtain ⟨cl2, Ar2, q2, S2, M2, H2, G2⟩ := ov2
  have hin2 : ¬ ((3 : Int32) < 0 ∨ cl2.slots.size ≤ ((3 : Int32)).toNatClampNeg) := inb_of S2 ⟨by decide, by decide⟩
  have hat2 : cl2.slots[((3 : Int32)).toNatClampNeg]? = some (.ref f3) := Has.at H2 hin2 rfl
  refine Go.st (X1.aaload hx (j := (3 : Int32)) (v := (.ref f3)) (by rw [e1]; exact Ar2.1) (State.isArrayOf_alike hZ.alike Ar2.2.1) rfl Ar2.2.2 hin2 hat2 (g := (mkF mi 22 #[.val (.int (1 : Int32)), .val (.int (1 : Int32))] [(.int (3 : Int32)), (.ref ar)])) rfl rfl (hb hby d_prog_25_method_2_22)) ?_
  show Go pg.tables ev below (T1.setTop (mkF mi 23 #[.val (.int (1 : Int32)), .val (.int (1 : Int32))] [(.ref f3)])) P
  obtain ⟨fs, hr, hrun, hended, hW, hsame⟩ := X1.leave (v := some (.ref f3)) (fun h => by rw [Bd.returns] at h; cases h) (BodyLoose.notSynchronized Bd)
  refine ⟨_, _, ?_, hP _ _ ⟨hrun, hended, _, _, rfl, ?_, ⟨_, rfl⟩, hW, hsame.mono (by decide) (by decide)⟩⟩
  · exact retOut X1 hx Bd.returns rfl (Or.inr (Or.inr (Or.inr (Or.inr ⟨rfl, rfl, rfl⟩)))) (hb hby d_prog_25_method_2_23) hr
  · show (some (.ref f3) : Option Value) = some (.ref f3) ∧ Fr n0 _ ∧ T1.heap = h0
    rw [e1]
    exact ⟨rfl, N0, rfl⟩
theorem d_prog_25_method_6_0 : decode prog_25_method_6_code 0 = .ok (.aload_n 0, 1) := by decide +kernel
theorem d_prog_25_method_6_1 : decode prog_25_method_6_code 1 = .ok (.getfield 9, 3) := by decide +kernel
theorem d_prog_25_method_6_4 : decode prog_25_method_6_code 4 = .ok (.iconst 1, 1) := by decide +kernel
theorem d_prog_25_method_6_5 : decode prog_25_method_6_code 5 = .ok (.iand, 1) := by decide +kernel
theorem d_prog_25_method_6_6 : decode prog_25_method_6_code 6 = .ok (.ifCond .eq 7, 3) := by decide +kernel
theorem d_prog_25_method_6_13 : decode prog_25_method_6_code 13 = .ok (.iconst 0, 1) := by decide +kernel
theorem d_prog_25_method_6_9 : decode prog_25_method_6_code 9 = .ok (.iconst 1, 1) := by decide +kernel
theorem d_prog_25_method_6_10 : decode prog_25_method_6_code 10 = .ok (.goto 4, 3) := by decide +kernel
theorem d_prog_25_method_6_14 : decode prog_25_method_6_code 14 = .ok (.ireturn, 1) := by decide +kernel
theorem ef_rmA (mi : MethodId) (o : Addr) (u : Int32) : entryFrame mi #[(.ref o)] 1 = mkF mi 0 #[.val (.ref o)] [] := by first | (simp [entryFrame, mkF, argsToLocals, Value.category]; done) | rfl
def Q_rmA (Z : State) (o : Addr) (u : Int32) (h0 : Heap) (n0 : Nat) (vv_ : Option Value) (hh_ : Heap) (LL_ : List Loc) : Prop := vv_ = some (.int (if (u &&& (1 : Int32)) = (0 : Int32) then (0 : Int32) else (1 : Int32))) ∧ Fr n0 LL_ ∧ hh_ = h0
set_option maxRecDepth 65536 in
set_option maxHeartbeats 40000000 in
theorem rmA (l : Launch) (Z : State) (a0 : Array Value) (hw : ∀ d ∈ tables_1, d.before a0 Z = true) (ws : List Jvm.Cond) (o : Addr) (u : Int32) (h0 : Heap) (n0 : Nat) (Z0 : n0 ≤ h0.size) (F0 : Fld Z h0 o "com/example/baton/baton/TraceFlags" "bits" "I" (.int u)) :
    MetFree l (⟨"com/example/baton/baton/TraceFlags", "sampled", "()Z"⟩ : MethodName) (head1 (Jvm.Cond.code (⟨"com/example/baton/baton/TraceFlags", "sampled", "()Z"⟩ : MethodName) prog_25_method_6_code 1 (some .boolean) :: ws) ({ frames := 0, cells := 0, slots := 0, locals := 0 } : Room)) (fun aa_ U => aa_ = #[(.ref o)] ∧ Z.Warmed39 U.vm ∧ U.heap = h0) (fun _ _ _ _ _ => True) (fun _ U oo_ UV_ => ∃ vv_ LL_, oo_ = .returned vv_ ∧ Q_rmA Z o u h0 n0 vv_ UV_.heap LL_ ∧ FrameEnd U oo_ UV_ LL_ ({ frames := 0, cells := 0, slots := 0, locals := 0 } : Room).cells ({ frames := 0, cells := 0, slots := 0, locals := 0 } : Room).slots) := by
  refine MetFree.of_bodySF (plainFor_of_name pn_0) hisR ?_
  intro pg ev si mi args below meth ci s₁ Bd hml0 hP0 hK
  obtain ⟨rfl, hZ, hh⟩ := hP0
  have hx := Bd.exec
  have hby := Bd.bytes
  have hml : ci.maxLocals = 1 := hml0
  have hown : si.vm.findClass "com/example/baton/baton/TraceFlags" = some mi.cls := findClass_of_methodNamed Bd.named
  have hnm := (name_of_methodNamed Bd.named Bd.method).1
  have X0 : Stand pg l ev ({ frames := 0, cells := 0, slots := 0, locals := 0 } : Room) si mi #[(.ref o)] below meth ci s₁ [] 0 0 := Stand.of_body Bd
  have e0 : s₁.heap = h0 := by rw [← hh, Bd.state]; rfl
  have N0 := Fr.nil n0
  refine Go.start (fun P hP => ?_)
  refine Go.st (fun t_ k_ => castTop (ef_rmA mi o u) k_) (A := s₁.setTop (mkF mi 0 #[.val (.ref o)] [])) ?_
  show Go pg.tables ev below (s₁.setTop (mkF mi 0 #[.val (.ref o)] [])) P
  refine Go.st (fun t_ k_ => XS.aloadN X0.here hx rfl (hb hby d_prog_25_method_6_0) rfl rfl k_) ?_
  show Go pg.tables ev below (s₁.setTop (mkF mi 1 #[.val (.ref o)] [(.ref o)])) P
  obtain ⟨T1, X1, e1, st1⟩ := getF X0 hx hZ hown (host := "") (Or.inl (hw _ (List.mem_of_getElem? (i := 11) rfl))) Via.refl e0 F0 (g := (mkF mi 1 #[.val (.ref o)] [(.ref o)])) rfl rfl (hb hby d_prog_25_method_6_1)
  refine Go.st st1 ?_
  show Go pg.tables ev below (T1.setTop (mkF mi 4 #[.val (.ref o)] [(.int u)])) P
  refine Go.st (fun t_ k_ => XS.iconst X1.here hx rfl (hb hby d_prog_25_method_6_4) k_) ?_
  show Go pg.tables ev below (T1.setTop (mkF mi 5 #[.val (.ref o)] [(.int (1 : Int32)), (.int u)])) P
  refine Go.st (fun t_ k_ => XS.iand X1.here hx rfl (hb hby d_prog_25_method_6_5) rfl k_) ?_
  show Go pg.tables ev below (T1.setTop (mkF mi 6 #[.val (.ref o)] [(.int (u &&& (1 : Int32)))])) P
  have dm2 : ∀ t_, Steps pg.tables ev below (T1.setTop (mkF mi 14 #[.val (.ref o)] [(.int (if (u &&& (1 : Int32)) = (0 : Int32) then (0 : Int32) else (1 : Int32)))])) t_ → Steps pg.tables ev below (T1.setTop (mkF mi 6 #[.val (.ref o)] [(.int (u &&& (1 : Int32)))])) t_ := by
    intro t_ k_
    by_cases hd : (u &&& (1 : Int32)) = (0 : Int32)
    · refine XS.ifYes X1.here hx rfl (pc0 := 6) (pc' := 13) rfl (hb hby d_prog_25_method_6_6) rfl ((if0 _ _).trans (teq hd).1) (by decide) (by decide) ?_
      show Steps pg.tables ev below (T1.setTop (mkF mi 13 #[.val (.ref o)] [])) t_
      refine XS.iconst X1.here hx rfl (hb hby d_prog_25_method_6_13) ?_
      show Steps pg.tables ev below (T1.setTop (mkF mi 14 #[.val (.ref o)] [(.int (0 : Int32))])) t_
      exact own_cst (if_pos hd) k_
    · refine XS.ifNo X1.here hx rfl (hb hby d_prog_25_method_6_6) rfl ((if0 _ _).trans (feq hd).1) ?_
      show Steps pg.tables ev below (T1.setTop (mkF mi 9 #[.val (.ref o)] [])) t_
      refine XS.iconst X1.here hx rfl (hb hby d_prog_25_method_6_9) ?_
      show Steps pg.tables ev below (T1.setTop (mkF mi 10 #[.val (.ref o)] [(.int (1 : Int32))])) t_
      refine XS.goto X1.here hx rfl (pc0 := 10) (pc' := 14) rfl (hb hby d_prog_25_method_6_10) (by decide) (by decide) ?_
      show Steps pg.tables ev below (T1.setTop (mkF mi 14 #[.val (.ref o)] [(.int (1 : Int32))])) t_
      exact own_cst (if_neg hd) k_
  refine Go.st dm2 ?_
  show Go pg.tables ev below (T1.setTop (mkF mi 14 #[.val (.ref o)] [(.int (if (u &&& (1 : Int32)) = (0 : Int32) then (0 : Int32) else (1 : Int32)))])) P
  obtain ⟨fs, hr, hrun, hended, hW, hsame⟩ := X1.leave (v := some (.int (if (u &&& (1 : Int32)) = (0 : Int32) then (0 : Int32) else (1 : Int32)))) (fun h => by rw [Bd.returns] at h; cases h) (BodyLoose.notSynchronized Bd)
  refine ⟨_, _, ?_, hP _ _ ⟨hrun, hended, _, _, rfl, ?_, ⟨_, rfl⟩, hW, hsame.mono (by decide) (by decide)⟩⟩
  · exact own_retN X1 hx (t := .boolean) Bd.returns (by simp) (own_nb rfl rfl) (hb hby d_prog_25_method_6_14) hr
  · show (some (.int (if (u &&& (1 : Int32)) = (0 : Int32) then (0 : Int32) else (1 : Int32))) : Option Value) = some (.int (if (u &&& (1 : Int32)) = (0 : Int32) then (0 : Int32) else (1 : Int32))) ∧ Fr n0 _ ∧ T1.heap = h0
    rw [e1]
    exact ⟨rfl, N0, rfl⟩
theorem d_prog_25_method_7_0 : decode prog_25_method_7_code 0 = .ok (.aload_n 0, 1) := by decide +kernel
theorem d_prog_25_method_7_1 : decode prog_25_method_7_code 1 = .ok (.getfield 9, 3) := by decide +kernel
theorem d_prog_25_method_7_4 : decode prog_25_method_7_code 4 = .ok (.iconst 2, 1) := by decide +kernel
theorem d_prog_25_method_7_5 : decode prog_25_method_7_code 5 = .ok (.iand, 1) := by decide +kernel
theorem d_prog_25_method_7_6 : decode prog_25_method_7_code 6 = .ok (.ifCond .eq 7, 3) := by decide +kernel
theorem d_prog_25_method_7_13 : decode prog_25_method_7_code 13 = .ok (.iconst 0, 1) := by decide +kernel
theorem d_prog_25_method_7_9 : decode prog_25_method_7_code 9 = .ok (.iconst 1, 1) := by decide +kernel
theorem d_prog_25_method_7_10 : decode prog_25_method_7_code 10 = .ok (.goto 4, 3) := by decide +kernel
theorem d_prog_25_method_7_14 : decode prog_25_method_7_code 14 = .ok (.ireturn, 1) := by decide +kernel
theorem ef_rmB (mi : MethodId) (o : Addr) (u : Int32) : entryFrame mi #[(.ref o)] 1 = mkF mi 0 #[.val (.ref o)] [] := by first | (simp [entryFrame, mkF, argsToLocals, Value.category]; done) | rfl
def Q_rmB (Z : State) (o : Addr) (u : Int32) (h0 : Heap) (n0 : Nat) (vv_ : Option Value) (hh_ : Heap) (LL_ : List Loc) : Prop := vv_ = some (.int (if (u &&& (2 : Int32)) = (0 : Int32) then (0 : Int32) else (1 : Int32))) ∧ Fr n0 LL_ ∧ hh_ = h0
set_option maxRecDepth 65536 in
set_option maxHeartbeats 40000000 in
theorem rmB (l : Launch) (Z : State) (a0 : Array Value) (hw : ∀ d ∈ tables_1, d.before a0 Z = true) (ws : List Jvm.Cond) (o : Addr) (u : Int32) (h0 : Heap) (n0 : Nat) (Z0 : n0 ≤ h0.size) (F0 : Fld Z h0 o "com/example/baton/baton/TraceFlags" "bits" "I" (.int u)) :
    MetFree l (⟨"com/example/baton/baton/TraceFlags", "randomTraceId", "()Z"⟩ : MethodName) (head1 (Jvm.Cond.code (⟨"com/example/baton/baton/TraceFlags", "randomTraceId", "()Z"⟩ : MethodName) prog_25_method_7_code 1 (some .boolean) :: ws) ({ frames := 0, cells := 0, slots := 0, locals := 0 } : Room)) (fun aa_ U => aa_ = #[(.ref o)] ∧ Z.Warmed39 U.vm ∧ U.heap = h0) (fun _ _ _ _ _ => True) (fun _ U oo_ UV_ => ∃ vv_ LL_, oo_ = .returned vv_ ∧ Q_rmB Z o u h0 n0 vv_ UV_.heap LL_ ∧ FrameEnd U oo_ UV_ LL_ ({ frames := 0, cells := 0, slots := 0, locals := 0 } : Room).cells ({ frames := 0, cells := 0, slots := 0, locals := 0 } : Room).slots) := by
  refine MetFree.of_bodySF (plainFor_of_name pn_0) hisR ?_
  intro pg ev si mi args below meth ci s₁ Bd hml0 hP0 hK
  obtain ⟨rfl, hZ, hh⟩ := hP0
  have hx := Bd.exec
  have hby := Bd.bytes
  have hml : ci.maxLocals = 1 := hml0
  have hown : si.vm.findClass "com/example/baton/baton/TraceFlags" = some mi.cls := findClass_of_methodNamed Bd.named
  have hnm := (name_of_methodNamed Bd.named Bd.method).1
  have X0 : Stand pg l ev ({ frames := 0, cells := 0, slots := 0, locals := 0 } : Room) si mi #[(.ref o)] below meth ci s₁ [] 0 0 := Stand.of_body Bd
  have e0 : s₁.heap = h0 := by rw [← hh, Bd.state]; rfl
  have N0 := Fr.nil n0
  refine Go.start (fun P hP => ?_)
  refine Go.st (fun t_ k_ => castTop (ef_rmB mi o u) k_) (A := s₁.setTop (mkF mi 0 #[.val (.ref o)] [])) ?_
  show Go pg.tables ev below (s₁.setTop (mkF mi 0 #[.val (.ref o)] [])) P
  refine Go.st (fun t_ k_ => XS.aloadN X0.here hx rfl (hb hby d_prog_25_method_7_0) rfl rfl k_) ?_
  show Go pg.tables ev below (s₁.setTop (mkF mi 1 #[.val (.ref o)] [(.ref o)])) P
  obtain ⟨T1, X1, e1, st1⟩ := getF X0 hx hZ hown (host := "") (Or.inl (hw _ (List.mem_of_getElem? (i := 11) rfl))) Via.refl e0 F0 (g := (mkF mi 1 #[.val (.ref o)] [(.ref o)])) rfl rfl (hb hby d_prog_25_method_7_1)
  refine Go.st st1 ?_
  show Go pg.tables ev below (T1.setTop (mkF mi 4 #[.val (.ref o)] [(.int u)])) P
  refine Go.st (fun t_ k_ => XS.iconst X1.here hx rfl (hb hby d_prog_25_method_7_4) k_) ?_
  show Go pg.tables ev below (T1.setTop (mkF mi 5 #[.val (.ref o)] [(.int (2 : Int32)), (.int u)])) P
  refine Go.st (fun t_ k_ => XS.iand X1.here hx rfl (hb hby d_prog_25_method_7_5) rfl k_) ?_
  show Go pg.tables ev below (T1.setTop (mkF mi 6 #[.val (.ref o)] [(.int (u &&& (2 : Int32)))])) P
  have dm2 : ∀ t_, Steps pg.tables ev below (T1.setTop (mkF mi 14 #[.val (.ref o)] [(.int (if (u &&& (2 : Int32)) = (0 : Int32) then (0 : Int32) else (1 : Int32)))])) t_ → Steps pg.tables ev below (T1.setTop (mkF mi 6 #[.val (.ref o)] [(.int (u &&& (2 : Int32)))])) t_ := by
    intro t_ k_
    by_cases hd : (u &&& (2 : Int32)) = (0 : Int32)
    · refine XS.ifYes X1.here hx rfl (pc0 := 6) (pc' := 13) rfl (hb hby d_prog_25_method_7_6) rfl ((if0 _ _).trans (teq hd).1) (by decide) (by decide) ?_
      show Steps pg.tables ev below (T1.setTop (mkF mi 13 #[.val (.ref o)] [])) t_
      refine XS.iconst X1.here hx rfl (hb hby d_prog_25_method_7_13) ?_
      show Steps pg.tables ev below (T1.setTop (mkF mi 14 #[.val (.ref o)] [(.int (0 : Int32))])) t_
      exact own_cst (if_pos hd) k_
    · refine XS.ifNo X1.here hx rfl (hb hby d_prog_25_method_7_6) rfl ((if0 _ _).trans (feq hd).1) ?_
      show Steps pg.tables ev below (T1.setTop (mkF mi 9 #[.val (.ref o)] [])) t_
      refine XS.iconst X1.here hx rfl (hb hby d_prog_25_method_7_9) ?_
      show Steps pg.tables ev below (T1.setTop (mkF mi 10 #[.val (.ref o)] [(.int (1 : Int32))])) t_
      refine XS.goto X1.here hx rfl (pc0 := 10) (pc' := 14) rfl (hb hby d_prog_25_method_7_10) (by decide) (by decide) ?_
      show Steps pg.tables ev below (T1.setTop (mkF mi 14 #[.val (.ref o)] [(.int (1 : Int32))])) t_
      exact own_cst (if_neg hd) k_
  refine Go.st dm2 ?_
  show Go pg.tables ev below (T1.setTop (mkF mi 14 #[.val (.ref o)] [(.int (if (u &&& (2 : Int32)) = (0 : Int32) then (0 : Int32) else (1 : Int32)))])) P
  obtain ⟨fs, hr, hrun, hended, hW, hsame⟩ := X1.leave (v := some (.int (if (u &&& (2 : Int32)) = (0 : Int32) then (0 : Int32) else (1 : Int32)))) (fun h => by rw [Bd.returns] at h; cases h) (BodyLoose.notSynchronized Bd)
  refine ⟨_, _, ?_, hP _ _ ⟨hrun, hended, _, _, rfl, ?_, ⟨_, rfl⟩, hW, hsame.mono (by decide) (by decide)⟩⟩
  · exact own_retN X1 hx (t := .boolean) Bd.returns (by simp) (own_nb rfl rfl) (hb hby d_prog_25_method_7_14) hr
  · show (some (.int (if (u &&& (2 : Int32)) = (0 : Int32) then (0 : Int32) else (1 : Int32))) : Option Value) = some (.int (if (u &&& (2 : Int32)) = (0 : Int32) then (0 : Int32) else (1 : Int32))) ∧ Fr n0 _ ∧ T1.heap = h0
    rw [e1]
    exact ⟨rfl, N0, rfl⟩
theorem d_prog_25_method_8_0 : decode prog_25_method_8_code 0 = .ok (.aload_n 0, 1) := by decide +kernel
theorem d_prog_25_method_8_1 : decode prog_25_method_8_code 1 = .ok (.getfield 9, 3) := by decide +kernel
theorem d_prog_25_method_8_4 : decode prog_25_method_8_code 4 = .ok (.iconst 4, 1) := by decide +kernel
theorem d_prog_25_method_8_5 : decode prog_25_method_8_code 5 = .ok (.iand, 1) := by decide +kernel
theorem d_prog_25_method_8_6 : decode prog_25_method_8_code 6 = .ok (.ifCond .eq 7, 3) := by decide +kernel
theorem d_prog_25_method_8_13 : decode prog_25_method_8_code 13 = .ok (.iconst 0, 1) := by decide +kernel
theorem d_prog_25_method_8_9 : decode prog_25_method_8_code 9 = .ok (.iconst 1, 1) := by decide +kernel
theorem d_prog_25_method_8_10 : decode prog_25_method_8_code 10 = .ok (.goto 4, 3) := by decide +kernel
theorem d_prog_25_method_8_14 : decode prog_25_method_8_code 14 = .ok (.ireturn, 1) := by decide +kernel
theorem ef_rmC (mi : MethodId) (o : Addr) (u : Int32) : entryFrame mi #[(.ref o)] 1 = mkF mi 0 #[.val (.ref o)] [] := by first | (simp [entryFrame, mkF, argsToLocals, Value.category]; done) | rfl
def Q_rmC (Z : State) (o : Addr) (u : Int32) (h0 : Heap) (n0 : Nat) (vv_ : Option Value) (hh_ : Heap) (LL_ : List Loc) : Prop := vv_ = some (.int (if (u &&& (4 : Int32)) = (0 : Int32) then (0 : Int32) else (1 : Int32))) ∧ Fr n0 LL_ ∧ hh_ = h0
set_option maxRecDepth 65536 in
set_option maxHeartbeats 40000000 in
theorem rmC (l : Launch) (Z : State) (a0 : Array Value) (hw : ∀ d ∈ tables_1, d.before a0 Z = true) (ws : List Jvm.Cond) (o : Addr) (u : Int32) (h0 : Heap) (n0 : Nat) (Z0 : n0 ≤ h0.size) (F0 : Fld Z h0 o "com/example/baton/baton/TraceFlags" "bits" "I" (.int u)) :
    MetFree l (⟨"com/example/baton/baton/TraceFlags", "debug", "()Z"⟩ : MethodName) (head1 (Jvm.Cond.code (⟨"com/example/baton/baton/TraceFlags", "debug", "()Z"⟩ : MethodName) prog_25_method_8_code 1 (some .boolean) :: ws) ({ frames := 0, cells := 0, slots := 0, locals := 0 } : Room)) (fun aa_ U => aa_ = #[(.ref o)] ∧ Z.Warmed39 U.vm ∧ U.heap = h0) (fun _ _ _ _ _ => True) (fun _ U oo_ UV_ => ∃ vv_ LL_, oo_ = .returned vv_ ∧ Q_rmC Z o u h0 n0 vv_ UV_.heap LL_ ∧ FrameEnd U oo_ UV_ LL_ ({ frames := 0, cells := 0, slots := 0, locals := 0 } : Room).cells ({ frames := 0, cells := 0, slots := 0, locals := 0 } : Room).slots) := by
  refine MetFree.of_bodySF (plainFor_of_name pn_0) hisR ?_
  intro pg ev si mi args below meth ci s₁ Bd hml0 hP0 hK
  obtain ⟨rfl, hZ, hh⟩ := hP0
  have hx := Bd.exec
  have hby := Bd.bytes
  have hml : ci.maxLocals = 1 := hml0
  have hown : si.vm.findClass "com/example/baton/baton/TraceFlags" = some mi.cls := findClass_of_methodNamed Bd.named
  have hnm := (name_of_methodNamed Bd.named Bd.method).1
  have X0 : Stand pg l ev ({ frames := 0, cells := 0, slots := 0, locals := 0 } : Room) si mi #[(.ref o)] below meth ci s₁ [] 0 0 := Stand.of_body Bd
  have e0 : s₁.heap = h0 := by rw [← hh, Bd.state]; rfl
  have N0 := Fr.nil n0
  refine Go.start (fun P hP => ?_)
  refine Go.st (fun t_ k_ => castTop (ef_rmC mi o u) k_) (A := s₁.setTop (mkF mi 0 #[.val (.ref o)] [])) ?_
  show Go pg.tables ev below (s₁.setTop (mkF mi 0 #[.val (.ref o)] [])) P
  refine Go.st (fun t_ k_ => XS.aloadN X0.here hx rfl (hb hby d_prog_25_method_8_0) rfl rfl k_) ?_
  show Go pg.tables ev below (s₁.setTop (mkF mi 1 #[.val (.ref o)] [(.ref o)])) P
  obtain ⟨T1, X1, e1, st1⟩ := getF X0 hx hZ hown (host := "") (Or.inl (hw _ (List.mem_of_getElem? (i := 11) rfl))) Via.refl e0 F0 (g := (mkF mi 1 #[.val (.ref o)] [(.ref o)])) rfl rfl (hb hby d_prog_25_method_8_1)
  refine Go.st st1 ?_
  show Go pg.tables ev below (T1.setTop (mkF mi 4 #[.val (.ref o)] [(.int u)])) P
  refine Go.st (fun t_ k_ => XS.iconst X1.here hx rfl (hb hby d_prog_25_method_8_4) k_) ?_
  show Go pg.tables ev below (T1.setTop (mkF mi 5 #[.val (.ref o)] [(.int (4 : Int32)), (.int u)])) P
  refine Go.st (fun t_ k_ => XS.iand X1.here hx rfl (hb hby d_prog_25_method_8_5) rfl k_) ?_
  show Go pg.tables ev below (T1.setTop (mkF mi 6 #[.val (.ref o)] [(.int (u &&& (4 : Int32)))])) P
  have dm2 : ∀ t_, Steps pg.tables ev below (T1.setTop (mkF mi 14 #[.val (.ref o)] [(.int (if (u &&& (4 : Int32)) = (0 : Int32) then (0 : Int32) else (1 : Int32)))])) t_ → Steps pg.tables ev below (T1.setTop (mkF mi 6 #[.val (.ref o)] [(.int (u &&& (4 : Int32)))])) t_ := by
    intro t_ k_
    by_cases hd : (u &&& (4 : Int32)) = (0 : Int32)
    · refine XS.ifYes X1.here hx rfl (pc0 := 6) (pc' := 13) rfl (hb hby d_prog_25_method_8_6) rfl ((if0 _ _).trans (teq hd).1) (by decide) (by decide) ?_
      show Steps pg.tables ev below (T1.setTop (mkF mi 13 #[.val (.ref o)] [])) t_
      refine XS.iconst X1.here hx rfl (hb hby d_prog_25_method_8_13) ?_
      show Steps pg.tables ev below (T1.setTop (mkF mi 14 #[.val (.ref o)] [(.int (0 : Int32))])) t_
      exact own_cst (if_pos hd) k_
    · refine XS.ifNo X1.here hx rfl (hb hby d_prog_25_method_8_6) rfl ((if0 _ _).trans (feq hd).1) ?_
      show Steps pg.tables ev below (T1.setTop (mkF mi 9 #[.val (.ref o)] [])) t_
      refine XS.iconst X1.here hx rfl (hb hby d_prog_25_method_8_9) ?_
      show Steps pg.tables ev below (T1.setTop (mkF mi 10 #[.val (.ref o)] [(.int (1 : Int32))])) t_
      refine XS.goto X1.here hx rfl (pc0 := 10) (pc' := 14) rfl (hb hby d_prog_25_method_8_10) (by decide) (by decide) ?_
      show Steps pg.tables ev below (T1.setTop (mkF mi 14 #[.val (.ref o)] [(.int (1 : Int32))])) t_
      exact own_cst (if_neg hd) k_
  refine Go.st dm2 ?_
  show Go pg.tables ev below (T1.setTop (mkF mi 14 #[.val (.ref o)] [(.int (if (u &&& (4 : Int32)) = (0 : Int32) then (0 : Int32) else (1 : Int32)))])) P
  obtain ⟨fs, hr, hrun, hended, hW, hsame⟩ := X1.leave (v := some (.int (if (u &&& (4 : Int32)) = (0 : Int32) then (0 : Int32) else (1 : Int32)))) (fun h => by rw [Bd.returns] at h; cases h) (BodyLoose.notSynchronized Bd)
  refine ⟨_, _, ?_, hP _ _ ⟨hrun, hended, _, _, rfl, ?_, ⟨_, rfl⟩, hW, hsame.mono (by decide) (by decide)⟩⟩
  · exact own_retN X1 hx (t := .boolean) Bd.returns (by simp) (own_nb rfl rfl) (hb hby d_prog_25_method_8_14) hr
  · show (some (.int (if (u &&& (4 : Int32)) = (0 : Int32) then (0 : Int32) else (1 : Int32))) : Option Value) = some (.int (if (u &&& (4 : Int32)) = (0 : Int32) then (0 : Int32) else (1 : Int32))) ∧ Fr n0 _ ∧ T1.heap = h0
    rw [e1]
    exact ⟨rfl, N0, rfl⟩
theorem d_prog_25_method_9_0 : decode prog_25_method_9_code 0 = .ok (.aload_n 0, 1) := by decide +kernel
theorem d_prog_25_method_9_1 : decode prog_25_method_9_code 1 = .ok (.getfield 9, 3) := by decide +kernel
theorem d_prog_25_method_9_4 : decode prog_25_method_9_code 4 = .ok (.bipush 8, 2) := by decide +kernel
theorem d_prog_25_method_9_6 : decode prog_25_method_9_code 6 = .ok (.iand, 1) := by decide +kernel
theorem d_prog_25_method_9_7 : decode prog_25_method_9_code 7 = .ok (.ifCond .eq 7, 3) := by decide +kernel
theorem d_prog_25_method_9_14 : decode prog_25_method_9_code 14 = .ok (.iconst 0, 1) := by decide +kernel
theorem d_prog_25_method_9_10 : decode prog_25_method_9_code 10 = .ok (.iconst 1, 1) := by decide +kernel
theorem d_prog_25_method_9_11 : decode prog_25_method_9_code 11 = .ok (.goto 4, 3) := by decide +kernel
theorem d_prog_25_method_9_15 : decode prog_25_method_9_code 15 = .ok (.ireturn, 1) := by decide +kernel
theorem ef_rmD (mi : MethodId) (o : Addr) (u : Int32) : entryFrame mi #[(.ref o)] 1 = mkF mi 0 #[.val (.ref o)] [] := by first | (simp [entryFrame, mkF, argsToLocals, Value.category]; done) | rfl
def Q_rmD (Z : State) (o : Addr) (u : Int32) (h0 : Heap) (n0 : Nat) (vv_ : Option Value) (hh_ : Heap) (LL_ : List Loc) : Prop := vv_ = some (.int (if (u &&& (8 : Int32)) = (0 : Int32) then (0 : Int32) else (1 : Int32))) ∧ Fr n0 LL_ ∧ hh_ = h0
set_option maxRecDepth 65536 in
set_option maxHeartbeats 40000000 in
theorem rmD (l : Launch) (Z : State) (a0 : Array Value) (hw : ∀ d ∈ tables_1, d.before a0 Z = true) (ws : List Jvm.Cond) (o : Addr) (u : Int32) (h0 : Heap) (n0 : Nat) (Z0 : n0 ≤ h0.size) (F0 : Fld Z h0 o "com/example/baton/baton/TraceFlags" "bits" "I" (.int u)) :
    MetFree l (⟨"com/example/baton/baton/TraceFlags", "deferred", "()Z"⟩ : MethodName) (head1 (Jvm.Cond.code (⟨"com/example/baton/baton/TraceFlags", "deferred", "()Z"⟩ : MethodName) prog_25_method_9_code 1 (some .boolean) :: ws) ({ frames := 0, cells := 0, slots := 0, locals := 0 } : Room)) (fun aa_ U => aa_ = #[(.ref o)] ∧ Z.Warmed39 U.vm ∧ U.heap = h0) (fun _ _ _ _ _ => True) (fun _ U oo_ UV_ => ∃ vv_ LL_, oo_ = .returned vv_ ∧ Q_rmD Z o u h0 n0 vv_ UV_.heap LL_ ∧ FrameEnd U oo_ UV_ LL_ ({ frames := 0, cells := 0, slots := 0, locals := 0 } : Room).cells ({ frames := 0, cells := 0, slots := 0, locals := 0 } : Room).slots) := by
  refine MetFree.of_bodySF (plainFor_of_name pn_0) hisR ?_
  intro pg ev si mi args below meth ci s₁ Bd hml0 hP0 hK
  obtain ⟨rfl, hZ, hh⟩ := hP0
  have hx := Bd.exec
  have hby := Bd.bytes
  have hml : ci.maxLocals = 1 := hml0
  have hown : si.vm.findClass "com/example/baton/baton/TraceFlags" = some mi.cls := findClass_of_methodNamed Bd.named
  have hnm := (name_of_methodNamed Bd.named Bd.method).1
  have X0 : Stand pg l ev ({ frames := 0, cells := 0, slots := 0, locals := 0 } : Room) si mi #[(.ref o)] below meth ci s₁ [] 0 0 := Stand.of_body Bd
  have e0 : s₁.heap = h0 := by rw [← hh, Bd.state]; rfl
  have N0 := Fr.nil n0
  refine Go.start (fun P hP => ?_)
  refine Go.st (fun t_ k_ => castTop (ef_rmD mi o u) k_) (A := s₁.setTop (mkF mi 0 #[.val (.ref o)] [])) ?_
  show Go pg.tables ev below (s₁.setTop (mkF mi 0 #[.val (.ref o)] [])) P
  refine Go.st (fun t_ k_ => XS.aloadN X0.here hx rfl (hb hby d_prog_25_method_9_0) rfl rfl k_) ?_
  show Go pg.tables ev below (s₁.setTop (mkF mi 1 #[.val (.ref o)] [(.ref o)])) P
  obtain ⟨T1, X1, e1, st1⟩ := getF X0 hx hZ hown (host := "") (Or.inl (hw _ (List.mem_of_getElem? (i := 11) rfl))) Via.refl e0 F0 (g := (mkF mi 1 #[.val (.ref o)] [(.ref o)])) rfl rfl (hb hby d_prog_25_method_9_1)
  refine Go.st st1 ?_
  show Go pg.tables ev below (T1.setTop (mkF mi 4 #[.val (.ref o)] [(.int u)])) P
  refine Go.st (fun t_ k_ => XS.bipush X1.here hx rfl (hb hby d_prog_25_method_9_4) k_) ?_
  show Go pg.tables ev below (T1.setTop (mkF mi 6 #[.val (.ref o)] [(.int (8 : Int32)), (.int u)])) P
  refine Go.st (fun t_ k_ => XS.iand X1.here hx rfl (hb hby d_prog_25_method_9_6) rfl k_) ?_
  show Go pg.tables ev below (T1.setTop (mkF mi 7 #[.val (.ref o)] [(.int (u &&& (8 : Int32)))])) P
  have dm2 : ∀ t_, Steps pg.tables ev below (T1.setTop (mkF mi 15 #[.val (.ref o)] [(.int (if (u &&& (8 : Int32)) = (0 : Int32) then (0 : Int32) else (1 : Int32)))])) t_ → Steps pg.tables ev below (T1.setTop (mkF mi 7 #[.val (.ref o)] [(.int (u &&& (8 : Int32)))])) t_ := by
    intro t_ k_
    by_cases hd : (u &&& (8 : Int32)) = (0 : Int32)
    · refine XS.ifYes X1.here hx rfl (pc0 := 7) (pc' := 14) rfl (hb hby d_prog_25_method_9_7) rfl ((if0 _ _).trans (teq hd).1) (by decide) (by decide) ?_
      show Steps pg.tables ev below (T1.setTop (mkF mi 14 #[.val (.ref o)] [])) t_
      refine XS.iconst X1.here hx rfl (hb hby d_prog_25_method_9_14) ?_
      show Steps pg.tables ev below (T1.setTop (mkF mi 15 #[.val (.ref o)] [(.int (0 : Int32))])) t_
      exact own_cst (if_pos hd) k_
    · refine XS.ifNo X1.here hx rfl (hb hby d_prog_25_method_9_7) rfl ((if0 _ _).trans (feq hd).1) ?_
      show Steps pg.tables ev below (T1.setTop (mkF mi 10 #[.val (.ref o)] [])) t_
      refine XS.iconst X1.here hx rfl (hb hby d_prog_25_method_9_10) ?_
      show Steps pg.tables ev below (T1.setTop (mkF mi 11 #[.val (.ref o)] [(.int (1 : Int32))])) t_
      refine XS.goto X1.here hx rfl (pc0 := 11) (pc' := 15) rfl (hb hby d_prog_25_method_9_11) (by decide) (by decide) ?_
      show Steps pg.tables ev below (T1.setTop (mkF mi 15 #[.val (.ref o)] [(.int (1 : Int32))])) t_
      exact own_cst (if_neg hd) k_
  refine Go.st dm2 ?_
  show Go pg.tables ev below (T1.setTop (mkF mi 15 #[.val (.ref o)] [(.int (if (u &&& (8 : Int32)) = (0 : Int32) then (0 : Int32) else (1 : Int32)))])) P
  obtain ⟨fs, hr, hrun, hended, hW, hsame⟩ := X1.leave (v := some (.int (if (u &&& (8 : Int32)) = (0 : Int32) then (0 : Int32) else (1 : Int32)))) (fun h => by rw [Bd.returns] at h; cases h) (BodyLoose.notSynchronized Bd)
  refine ⟨_, _, ?_, hP _ _ ⟨hrun, hended, _, _, rfl, ?_, ⟨_, rfl⟩, hW, hsame.mono (by decide) (by decide)⟩⟩
  · exact own_retN X1 hx (t := .boolean) Bd.returns (by simp) (own_nb rfl rfl) (hb hby d_prog_25_method_9_15) hr
  · show (some (.int (if (u &&& (8 : Int32)) = (0 : Int32) then (0 : Int32) else (1 : Int32))) : Option Value) = some (.int (if (u &&& (8 : Int32)) = (0 : Int32) then (0 : Int32) else (1 : Int32))) ∧ Fr n0 _ ∧ T1.heap = h0
    rw [e1]
    exact ⟨rfl, N0, rfl⟩
theorem d_prog_25_method_10_0 : decode prog_25_method_10_code 0 = .ok (.aload_n 0, 1) := by decide +kernel
theorem d_prog_25_method_10_1 : decode prog_25_method_10_code 1 = .ok (.getfield 9, 3) := by decide +kernel
theorem d_prog_25_method_10_4 : decode prog_25_method_10_code 4 = .ok (.iconst 3, 1) := by decide +kernel
theorem d_prog_25_method_10_5 : decode prog_25_method_10_code 5 = .ok (.iand, 1) := by decide +kernel
theorem d_prog_25_method_10_6 : decode prog_25_method_10_code 6 = .ok (.ireturn, 1) := by decide +kernel
theorem ef_rmE (mi : MethodId) (o : Addr) (u : Int32) : entryFrame mi #[(.ref o)] 1 = mkF mi 0 #[.val (.ref o)] [] := by first | (simp [entryFrame, mkF, argsToLocals, Value.category]; done) | rfl
def Q_rmE (Z : State) (o : Addr) (u : Int32) (h0 : Heap) (n0 : Nat) (vv_ : Option Value) (hh_ : Heap) (LL_ : List Loc) : Prop := vv_ = some (.int (u &&& (3 : Int32))) ∧ Fr n0 LL_ ∧ hh_ = h0
set_option maxRecDepth 65536 in
set_option maxHeartbeats 40000000 in
theorem rmE (l : Launch) (Z : State) (a0 : Array Value) (hw : ∀ d ∈ tables_1, d.before a0 Z = true) (ws : List Jvm.Cond) (o : Addr) (u : Int32) (h0 : Heap) (n0 : Nat) (Z0 : n0 ≤ h0.size) (F0 : Fld Z h0 o "com/example/baton/baton/TraceFlags" "bits" "I" (.int u)) :
    MetFree l (⟨"com/example/baton/baton/TraceFlags", "bits", "()I"⟩ : MethodName) (head1 (Jvm.Cond.code (⟨"com/example/baton/baton/TraceFlags", "bits", "()I"⟩ : MethodName) prog_25_method_10_code 1 (some .int) :: ws) ({ frames := 0, cells := 0, slots := 0, locals := 0 } : Room)) (fun aa_ U => aa_ = #[(.ref o)] ∧ Z.Warmed39 U.vm ∧ U.heap = h0) (fun _ _ _ _ _ => True) (fun _ U oo_ UV_ => ∃ vv_ LL_, oo_ = .returned vv_ ∧ Q_rmE Z o u h0 n0 vv_ UV_.heap LL_ ∧ FrameEnd U oo_ UV_ LL_ ({ frames := 0, cells := 0, slots := 0, locals := 0 } : Room).cells ({ frames := 0, cells := 0, slots := 0, locals := 0 } : Room).slots) := by
  refine MetFree.of_bodySF (plainFor_of_name pn_0) hisR ?_
  intro pg ev si mi args below meth ci s₁ Bd hml0 hP0 hK
  obtain ⟨rfl, hZ, hh⟩ := hP0
  have hx := Bd.exec
  have hby := Bd.bytes
  have hml : ci.maxLocals = 1 := hml0
  have hown : si.vm.findClass "com/example/baton/baton/TraceFlags" = some mi.cls := findClass_of_methodNamed Bd.named
  have hnm := (name_of_methodNamed Bd.named Bd.method).1
  have X0 : Stand pg l ev ({ frames := 0, cells := 0, slots := 0, locals := 0 } : Room) si mi #[(.ref o)] below meth ci s₁ [] 0 0 := Stand.of_body Bd
  have e0 : s₁.heap = h0 := by rw [← hh, Bd.state]; rfl
  have N0 := Fr.nil n0
  refine Go.start (fun P hP => ?_)
  refine Go.st (fun t_ k_ => castTop (ef_rmE mi o u) k_) (A := s₁.setTop (mkF mi 0 #[.val (.ref o)] [])) ?_
  show Go pg.tables ev below (s₁.setTop (mkF mi 0 #[.val (.ref o)] [])) P
  refine Go.st (fun t_ k_ => XS.aloadN X0.here hx rfl (hb hby d_prog_25_method_10_0) rfl rfl k_) ?_
  show Go pg.tables ev below (s₁.setTop (mkF mi 1 #[.val (.ref o)] [(.ref o)])) P
  obtain ⟨T1, X1, e1, st1⟩ := getF X0 hx hZ hown (host := "") (Or.inl (hw _ (List.mem_of_getElem? (i := 11) rfl))) Via.refl e0 F0 (g := (mkF mi 1 #[.val (.ref o)] [(.ref o)])) rfl rfl (hb hby d_prog_25_method_10_1)
  refine Go.st st1 ?_
  show Go pg.tables ev below (T1.setTop (mkF mi 4 #[.val (.ref o)] [(.int u)])) P
  refine Go.st (fun t_ k_ => XS.iconst X1.here hx rfl (hb hby d_prog_25_method_10_4) k_) ?_
  show Go pg.tables ev below (T1.setTop (mkF mi 5 #[.val (.ref o)] [(.int (3 : Int32)), (.int u)])) P
  refine Go.st (fun t_ k_ => XS.iand X1.here hx rfl (hb hby d_prog_25_method_10_5) rfl k_) ?_
  show Go pg.tables ev below (T1.setTop (mkF mi 6 #[.val (.ref o)] [(.int (u &&& (3 : Int32)))])) P
  obtain ⟨fs, hr, hrun, hended, hW, hsame⟩ := X1.leave (v := some (.int (u &&& (3 : Int32)))) (fun h => by rw [Bd.returns] at h; cases h) (BodyLoose.notSynchronized Bd)
  refine ⟨_, _, ?_, hP _ _ ⟨hrun, hended, _, _, rfl, ?_, ⟨_, rfl⟩, hW, hsame.mono (by decide) (by decide)⟩⟩
  · exact retI X1 hx Bd.returns (hb hby d_prog_25_method_10_6) hr
  · show (some (.int (u &&& (3 : Int32))) : Option Value) = some (.int (u &&& (3 : Int32))) ∧ Fr n0 _ ∧ T1.heap = h0
    rw [e1]
    exact ⟨rfl, N0, rfl⟩
theorem pd_0 : parseMethodDescriptor "(ZZ)Lcom/example/baton/baton/TraceFlags;" = some ⟨[.boolean, .boolean], some (.object "com/example/baton/baton/TraceFlags")⟩ := by decide +kernel
theorem pd_1 : parseMethodDescriptor "()Z" = some ⟨[], some .boolean⟩ := by decide +kernel
theorem pd_2 : parseMethodDescriptor "()I" = some ⟨[], some .int⟩ := by decide +kernel
theorem pn_1 : plainName "com/example/baton/baton/TraceFlagsOfPinLaw" = true := by first | (simp [plainName, overriddenIn]; done) | decide +kernel
theorem ef_rm0 (mi : MethodId) (a : Int32) (b : Int32) (ar : Addr) (ka : ClassId) (f0 : Addr) (f1 : Addr) (f2 : Addr) (f3 : Addr) (f5 : Addr) (f7 : Addr) (f8 : Addr) (f10 : Addr) : entryFrame mi #[(.int a), (.int b)] maxLocals = mkF mi 0 #[.val (.int a), .val (.int b), .unset, .unset, .unset, .unset, .unset, .unset, .unset, .unset] [] := by first | (simp [entryFrame, mkF, argsToLocals, Value.category, maxLocals]; done) | rfl
def Q_rm0 (Z : State) (a : Int32) (b : Int32) (ar : Addr) (ka : ClassId) (f0 : Addr) (f1 : Addr) (f2 : Addr) (f3 : Addr) (f5 : Addr) (f7 : Addr) (f8 : Addr) (f10 : Addr) (h0 : Heap) (n0 : Nat) (vv_ : Option Value) (hh_ : Heap) (LL_ : List Loc) : Prop := vv_ = some (.int 1) ∧ Fr n0 LL_
set_option maxRecDepth 65536 in
set_option maxHeartbeats 40000000 in
theorem rm0 (l : Launch) (Z : State) (a0 : Array Value) (hw : ∀ d ∈ tables_1, d.before a0 Z = true) (ws : List Jvm.Cond) (a : Int32) (b : Int32) (ar : Addr) (ka : ClassId) (f0 : Addr) (f1 : Addr) (f2 : Addr) (f3 : Addr) (f5 : Addr) (f7 : Addr) (f8 : Addr) (f10 : Addr) (h0 : Heap) (n0 : Nat) (Z0 : n0 ≤ h0.size) (S0 : Sta Z h0 "com/example/baton/baton/TraceFlags" "BY_BITS" "[Lcom/example/baton/baton/TraceFlags;" (.ref ar)) (A0 : Arv Z h0 ar ka (.object "com/example/baton/baton/TraceFlags") (11 : Int32) [(.ref f0), (.ref f1), (.ref f2), (.ref f3), .null, (.ref f5), .null, (.ref f7), (.ref f8), .null, (.ref f10)] .null) (E0 : Exa Z h0 f0 "com/example/baton/baton/TraceFlags") (E1 : Exa Z h0 f1 "com/example/baton/baton/TraceFlags") (E2 : Exa Z h0 f2 "com/example/baton/baton/TraceFlags") (E3 : Exa Z h0 f3 "com/example/baton/baton/TraceFlags") (F0 : Fld Z h0 f0 "com/example/baton/baton/TraceFlags" "bits" "I" (.int (0 : Int32))) (F1 : Fld Z h0 f1 "com/example/baton/baton/TraceFlags" "bits" "I" (.int (1 : Int32))) (F2 : Fld Z h0 f2 "com/example/baton/baton/TraceFlags" "bits" "I" (.int (2 : Int32))) (F3 : Fld Z h0 f3 "com/example/baton/baton/TraceFlags" "bits" "I" (.int (3 : Int32))) (ne01 : f0 ≠ f1) (ne02 : f0 ≠ f2) (ne03 : f0 ≠ f3) (ne12 : f1 ≠ f2) (ne13 : f1 ≠ f3) (ne23 : f2 ≠ f3) :
    MetFree l x (head1 (Jvm.Cond.code x code maxLocals ret :: ws) room_1) (fun aa_ U => aa_ = #[(.int a), (.int b)] ∧ Z.Warmed39 U.vm ∧ U.heap = h0) (fun _ _ _ _ _ => True) (fun _ U oo_ UV_ => ∃ vv_ LL_, oo_ = .returned vv_ ∧ Q_rm0 Z a b ar ka f0 f1 f2 f3 f5 f7 f8 f10 h0 n0 vv_ UV_.heap LL_ ∧ FrameEnd U oo_ UV_ LL_ room_1.cells room_1.slots) := by
  refine MetFree.of_bodySF (plainFor_of_name pn_1) hisR ?_
  intro pg ev si mi args below meth ci s₁ Bd hml0 hP0 hK
  obtain ⟨rfl, hZ, hh⟩ := hP0
  have hx := Bd.exec
  have hby := Bd.bytes
  have hml : ci.maxLocals = 10 := hml0
  have hown : si.vm.findClass "com/example/baton/baton/TraceFlagsOfPinLaw" = some mi.cls := findClass_of_methodNamed Bd.named
  have hnm := (name_of_methodNamed Bd.named Bd.method).1
  have X0 : Stand pg l ev room_1 si mi #[(.int a), (.int b)] below meth ci s₁ [] 0 0 := Stand.of_body Bd
  have e0 : s₁.heap = h0 := by rw [← hh, Bd.state]; rfl
  have N0 := Fr.nil n0
  refine Go.start (fun P hP => ?_)
  refine Go.st (fun t_ k_ => castTop (ef_rm0 mi a b ar ka f0 f1 f2 f3 f5 f7 f8 f10) k_) (A := s₁.setTop (mkF mi 0 #[.val (.int a), .val (.int b), .unset, .unset, .unset, .unset, .unset, .unset, .unset, .unset] [])) ?_
  show Go pg.tables ev below (s₁.setTop (mkF mi 0 #[.val (.int a), .val (.int b), .unset, .unset, .unset, .unset, .unset, .unset, .unset, .unset] [])) P
  refine Go.st (fun t_ k_ => XS.iloadN X0.here hx rfl (hb hby at_0) rfl k_) ?_
  show Go pg.tables ev below (s₁.setTop (mkF mi 1 #[.val (.int a), .val (.int b), .unset, .unset, .unset, .unset, .unset, .unset, .unset, .unset] [(.int a)])) P
  refine Go.st (fun t_ k_ => XS.iconst X0.here hx rfl (hb hby at_1) k_) ?_
  show Go pg.tables ev below (s₁.setTop (mkF mi 2 #[.val (.int a), .val (.int b), .unset, .unset, .unset, .unset, .unset, .unset, .unset, .unset] [(.int (1 : Int32)), (.int a)])) P
  refine Go.st (fun t_ k_ => XS.iand X0.here hx rfl (hb hby at_2) rfl k_) ?_
  show Go pg.tables ev below (s₁.setTop (mkF mi 3 #[.val (.int a), .val (.int b), .unset, .unset, .unset, .unset, .unset, .unset, .unset, .unset] [(.int (a &&& (1 : Int32)))])) P
  by_cases hc3_1 : (a &&& (1 : Int32)) = (0 : Int32)
  · refine Go.st (fun t_ k_ => XS.ifYes X0.here hx rfl (pc0 := 3) (pc' := 10) rfl (hb hby at_3) rfl ((if0 _ _).trans (teq hc3_1).1) (by decide) (by decide) k_) ?_
    show Go pg.tables ev below (s₁.setTop (mkF mi 10 #[.val (.int a), .val (.int b), .unset, .unset, .unset, .unset, .unset, .unset, .unset, .unset] [])) P
    refine Go.st (fun t_ k_ => XS.iconst X0.here hx rfl (hb hby at_10) k_) ?_
    show Go pg.tables ev below (s₁.setTop (mkF mi 11 #[.val (.int a), .val (.int b), .unset, .unset, .unset, .unset, .unset, .unset, .unset, .unset] [(.int (0 : Int32))])) P
    refine Go.st (fun t_ k_ => XS.istoreN X0.here hx rfl (hb hby at_11) rfl (l' := #[.val (.int a), .val (.int b), .val (.int (0 : Int32)), .unset, .unset, .unset, .unset, .unset, .unset, .unset]) rfl k_) ?_
    show Go pg.tables ev below (s₁.setTop (mkF mi 12 #[.val (.int a), .val (.int b), .val (.int (0 : Int32)), .unset, .unset, .unset, .unset, .unset, .unset, .unset] [])) P
    refine Go.st (fun t_ k_ => XS.iloadN X0.here hx rfl (hb hby at_12) rfl k_) ?_
    show Go pg.tables ev below (s₁.setTop (mkF mi 13 #[.val (.int a), .val (.int b), .val (.int (0 : Int32)), .unset, .unset, .unset, .unset, .unset, .unset, .unset] [(.int a)])) P
    refine Go.st (fun t_ k_ => XS.iconst X0.here hx rfl (hb hby at_13) k_) ?_
    show Go pg.tables ev below (s₁.setTop (mkF mi 14 #[.val (.int a), .val (.int b), .val (.int (0 : Int32)), .unset, .unset, .unset, .unset, .unset, .unset, .unset] [(.int (2 : Int32)), (.int a)])) P
    refine Go.st (fun t_ k_ => XS.iand X0.here hx rfl (hb hby at_14) rfl k_) ?_
    show Go pg.tables ev below (s₁.setTop (mkF mi 15 #[.val (.int a), .val (.int b), .val (.int (0 : Int32)), .unset, .unset, .unset, .unset, .unset, .unset, .unset] [(.int (a &&& (2 : Int32)))])) P
    by_cases hc15_2 : (a &&& (2 : Int32)) = (0 : Int32)
    · refine Go.st (fun t_ k_ => XS.ifYes X0.here hx rfl (pc0 := 15) (pc' := 22) rfl (hb hby at_15) rfl ((if0 _ _).trans (teq hc15_2).1) (by decide) (by decide) k_) ?_
      show Go pg.tables ev below (s₁.setTop (mkF mi 22 #[.val (.int a), .val (.int b), .val (.int (0 : Int32)), .unset, .unset, .unset, .unset, .unset, .unset, .unset] [])) P
      refine Go.st (fun t_ k_ => XS.iconst X0.here hx rfl (hb hby at_22) k_) ?_
      show Go pg.tables ev below (s₁.setTop (mkF mi 23 #[.val (.int a), .val (.int b), .val (.int (0 : Int32)), .unset, .unset, .unset, .unset, .unset, .unset, .unset] [(.int (0 : Int32))])) P
      refine Go.st (fun t_ k_ => XS.istoreN X0.here hx rfl (hb hby at_23) rfl (l' := #[.val (.int a), .val (.int b), .val (.int (0 : Int32)), .val (.int (0 : Int32)), .unset, .unset, .unset, .unset, .unset, .unset]) rfl k_) ?_
      show Go pg.tables ev below (s₁.setTop (mkF mi 24 #[.val (.int a), .val (.int b), .val (.int (0 : Int32)), .val (.int (0 : Int32)), .unset, .unset, .unset, .unset, .unset, .unset] [])) P
      refine Go.st (fun t_ k_ => XS.iloadN X0.here hx rfl (hb hby at_24) rfl k_) ?_
      show Go pg.tables ev below (s₁.setTop (mkF mi 25 #[.val (.int a), .val (.int b), .val (.int (0 : Int32)), .val (.int (0 : Int32)), .unset, .unset, .unset, .unset, .unset, .unset] [(.int b)])) P
      refine Go.st (fun t_ k_ => XS.iconst X0.here hx rfl (hb hby at_25) k_) ?_
      show Go pg.tables ev below (s₁.setTop (mkF mi 26 #[.val (.int a), .val (.int b), .val (.int (0 : Int32)), .val (.int (0 : Int32)), .unset, .unset, .unset, .unset, .unset, .unset] [(.int (1 : Int32)), (.int b)])) P
      refine Go.st (fun t_ k_ => XS.iand X0.here hx rfl (hb hby at_26) rfl k_) ?_
      show Go pg.tables ev below (s₁.setTop (mkF mi 27 #[.val (.int a), .val (.int b), .val (.int (0 : Int32)), .val (.int (0 : Int32)), .unset, .unset, .unset, .unset, .unset, .unset] [(.int (b &&& (1 : Int32)))])) P
      have dm1 : ∀ t_, Steps pg.tables ev below (s₁.setTop (mkF mi 35 #[.val (.int a), .val (.int b), .val (.int (0 : Int32)), .val (.int (0 : Int32)), .unset, .unset, .unset, .unset, .unset, .unset] [(.int (if (b &&& (1 : Int32)) = (0 : Int32) then (0 : Int32) else (1 : Int32)))])) t_ → Steps pg.tables ev below (s₁.setTop (mkF mi 27 #[.val (.int a), .val (.int b), .val (.int (0 : Int32)), .val (.int (0 : Int32)), .unset, .unset, .unset, .unset, .unset, .unset] [(.int (b &&& (1 : Int32)))])) t_ := by
        intro t_ k_
        by_cases hd : (b &&& (1 : Int32)) = (0 : Int32)
        · refine XS.ifYes X0.here hx rfl (pc0 := 27) (pc' := 34) rfl (hb hby at_27) rfl ((if0 _ _).trans (teq hd).1) (by decide) (by decide) ?_
          show Steps pg.tables ev below (s₁.setTop (mkF mi 34 #[.val (.int a), .val (.int b), .val (.int (0 : Int32)), .val (.int (0 : Int32)), .unset, .unset, .unset, .unset, .unset, .unset] [])) t_
          refine XS.iconst X0.here hx rfl (hb hby at_34) ?_
          show Steps pg.tables ev below (s₁.setTop (mkF mi 35 #[.val (.int a), .val (.int b), .val (.int (0 : Int32)), .val (.int (0 : Int32)), .unset, .unset, .unset, .unset, .unset, .unset] [(.int (0 : Int32))])) t_
          exact own_cst (if_pos hd) k_
        · refine XS.ifNo X0.here hx rfl (hb hby at_27) rfl ((if0 _ _).trans (feq hd).1) ?_
          show Steps pg.tables ev below (s₁.setTop (mkF mi 30 #[.val (.int a), .val (.int b), .val (.int (0 : Int32)), .val (.int (0 : Int32)), .unset, .unset, .unset, .unset, .unset, .unset] [])) t_
          refine XS.iconst X0.here hx rfl (hb hby at_30) ?_
          show Steps pg.tables ev below (s₁.setTop (mkF mi 31 #[.val (.int a), .val (.int b), .val (.int (0 : Int32)), .val (.int (0 : Int32)), .unset, .unset, .unset, .unset, .unset, .unset] [(.int (1 : Int32))])) t_
          refine XS.goto X0.here hx rfl (pc0 := 31) (pc' := 35) rfl (hb hby at_31) (by decide) (by decide) ?_
          show Steps pg.tables ev below (s₁.setTop (mkF mi 35 #[.val (.int a), .val (.int b), .val (.int (0 : Int32)), .val (.int (0 : Int32)), .unset, .unset, .unset, .unset, .unset, .unset] [(.int (1 : Int32))])) t_
          exact own_cst (if_neg hd) k_
      refine Go.st dm1 ?_
      show Go pg.tables ev below (s₁.setTop (mkF mi 35 #[.val (.int a), .val (.int b), .val (.int (0 : Int32)), .val (.int (0 : Int32)), .unset, .unset, .unset, .unset, .unset, .unset] [(.int (if (b &&& (1 : Int32)) = (0 : Int32) then (0 : Int32) else (1 : Int32)))])) P
      refine Go.st (fun t_ k_ => XS.istore X0.here hx rfl (hb hby at_35) rfl (l' := #[.val (.int a), .val (.int b), .val (.int (0 : Int32)), .val (.int (0 : Int32)), .val (.int (if (b &&& (1 : Int32)) = (0 : Int32) then (0 : Int32) else (1 : Int32))), .unset, .unset, .unset, .unset, .unset]) rfl k_) ?_
      show Go pg.tables ev below (s₁.setTop (mkF mi 37 #[.val (.int a), .val (.int b), .val (.int (0 : Int32)), .val (.int (0 : Int32)), .val (.int (if (b &&& (1 : Int32)) = (0 : Int32) then (0 : Int32) else (1 : Int32))), .unset, .unset, .unset, .unset, .unset] [])) P
      refine Go.st (fun t_ k_ => XS.iloadN X0.here hx rfl (hb hby at_37) rfl k_) ?_
      show Go pg.tables ev below (s₁.setTop (mkF mi 38 #[.val (.int a), .val (.int b), .val (.int (0 : Int32)), .val (.int (0 : Int32)), .val (.int (if (b &&& (1 : Int32)) = (0 : Int32) then (0 : Int32) else (1 : Int32))), .unset, .unset, .unset, .unset, .unset] [(.int b)])) P
      refine Go.st (fun t_ k_ => XS.iconst X0.here hx rfl (hb hby at_38) k_) ?_
      show Go pg.tables ev below (s₁.setTop (mkF mi 39 #[.val (.int a), .val (.int b), .val (.int (0 : Int32)), .val (.int (0 : Int32)), .val (.int (if (b &&& (1 : Int32)) = (0 : Int32) then (0 : Int32) else (1 : Int32))), .unset, .unset, .unset, .unset, .unset] [(.int (2 : Int32)), (.int b)])) P
      refine Go.st (fun t_ k_ => XS.iand X0.here hx rfl (hb hby at_39) rfl k_) ?_
      show Go pg.tables ev below (s₁.setTop (mkF mi 40 #[.val (.int a), .val (.int b), .val (.int (0 : Int32)), .val (.int (0 : Int32)), .val (.int (if (b &&& (1 : Int32)) = (0 : Int32) then (0 : Int32) else (1 : Int32))), .unset, .unset, .unset, .unset, .unset] [(.int (b &&& (2 : Int32)))])) P
      have dm2 : ∀ t_, Steps pg.tables ev below (s₁.setTop (mkF mi 48 #[.val (.int a), .val (.int b), .val (.int (0 : Int32)), .val (.int (0 : Int32)), .val (.int (if (b &&& (1 : Int32)) = (0 : Int32) then (0 : Int32) else (1 : Int32))), .unset, .unset, .unset, .unset, .unset] [(.int (if (b &&& (2 : Int32)) = (0 : Int32) then (0 : Int32) else (1 : Int32)))])) t_ → Steps pg.tables ev below (s₁.setTop (mkF mi 40 #[.val (.int a), .val (.int b), .val (.int (0 : Int32)), .val (.int (0 : Int32)), .val (.int (if (b &&& (1 : Int32)) = (0 : Int32) then (0 : Int32) else (1 : Int32))), .unset, .unset, .unset, .unset, .unset] [(.int (b &&& (2 : Int32)))])) t_ := by
        intro t_ k_
        by_cases hd : (b &&& (2 : Int32)) = (0 : Int32)
        · refine XS.ifYes X0.here hx rfl (pc0 := 40) (pc' := 47) rfl (hb hby at_40) rfl ((if0 _ _).trans (teq hd).1) (by decide) (by decide) ?_
          show Steps pg.tables ev below (s₁.setTop (mkF mi 47 #[.val (.int a), .val (.int b), .val (.int (0 : Int32)), .val (.int (0 : Int32)), .val (.int (if (b &&& (1 : Int32)) = (0 : Int32) then (0 : Int32) else (1 : Int32))), .unset, .unset, .unset, .unset, .unset] [])) t_
          refine XS.iconst X0.here hx rfl (hb hby at_47) ?_
          show Steps pg.tables ev below (s₁.setTop (mkF mi 48 #[.val (.int a), .val (.int b), .val (.int (0 : Int32)), .val (.int (0 : Int32)), .val (.int (if (b &&& (1 : Int32)) = (0 : Int32) then (0 : Int32) else (1 : Int32))), .unset, .unset, .unset, .unset, .unset] [(.int (0 : Int32))])) t_
          exact own_cst (if_pos hd) k_
        · refine XS.ifNo X0.here hx rfl (hb hby at_40) rfl ((if0 _ _).trans (feq hd).1) ?_
          show Steps pg.tables ev below (s₁.setTop (mkF mi 43 #[.val (.int a), .val (.int b), .val (.int (0 : Int32)), .val (.int (0 : Int32)), .val (.int (if (b &&& (1 : Int32)) = (0 : Int32) then (0 : Int32) else (1 : Int32))), .unset, .unset, .unset, .unset, .unset] [])) t_
          refine XS.iconst X0.here hx rfl (hb hby at_43) ?_
          show Steps pg.tables ev below (s₁.setTop (mkF mi 44 #[.val (.int a), .val (.int b), .val (.int (0 : Int32)), .val (.int (0 : Int32)), .val (.int (if (b &&& (1 : Int32)) = (0 : Int32) then (0 : Int32) else (1 : Int32))), .unset, .unset, .unset, .unset, .unset] [(.int (1 : Int32))])) t_
          refine XS.goto X0.here hx rfl (pc0 := 44) (pc' := 48) rfl (hb hby at_44) (by decide) (by decide) ?_
          show Steps pg.tables ev below (s₁.setTop (mkF mi 48 #[.val (.int a), .val (.int b), .val (.int (0 : Int32)), .val (.int (0 : Int32)), .val (.int (if (b &&& (1 : Int32)) = (0 : Int32) then (0 : Int32) else (1 : Int32))), .unset, .unset, .unset, .unset, .unset] [(.int (1 : Int32))])) t_
          exact own_cst (if_neg hd) k_
      refine Go.st dm2 ?_
      show Go pg.tables ev below (s₁.setTop (mkF mi 48 #[.val (.int a), .val (.int b), .val (.int (0 : Int32)), .val (.int (0 : Int32)), .val (.int (if (b &&& (1 : Int32)) = (0 : Int32) then (0 : Int32) else (1 : Int32))), .unset, .unset, .unset, .unset, .unset] [(.int (if (b &&& (2 : Int32)) = (0 : Int32) then (0 : Int32) else (1 : Int32)))])) P
      refine Go.st (fun t_ k_ => XS.istore X0.here hx rfl (hb hby at_48) rfl (l' := #[.val (.int a), .val (.int b), .val (.int (0 : Int32)), .val (.int (0 : Int32)), .val (.int (if (b &&& (1 : Int32)) = (0 : Int32) then (0 : Int32) else (1 : Int32))), .val (.int (if (b &&& (2 : Int32)) = (0 : Int32) then (0 : Int32) else (1 : Int32))), .unset, .unset, .unset, .unset]) rfl k_) ?_
      show Go pg.tables ev below (s₁.setTop (mkF mi 50 #[.val (.int a), .val (.int b), .val (.int (0 : Int32)), .val (.int (0 : Int32)), .val (.int (if (b &&& (1 : Int32)) = (0 : Int32) then (0 : Int32) else (1 : Int32))), .val (.int (if (b &&& (2 : Int32)) = (0 : Int32) then (0 : Int32) else (1 : Int32))), .unset, .unset, .unset, .unset] [])) P
      refine Go.st (fun t_ k_ => XS.iloadN X0.here hx rfl (hb hby at_50) rfl k_) ?_
      show Go pg.tables ev below (s₁.setTop (mkF mi 51 #[.val (.int a), .val (.int b), .val (.int (0 : Int32)), .val (.int (0 : Int32)), .val (.int (if (b &&& (1 : Int32)) = (0 : Int32) then (0 : Int32) else (1 : Int32))), .val (.int (if (b &&& (2 : Int32)) = (0 : Int32) then (0 : Int32) else (1 : Int32))), .unset, .unset, .unset, .unset] [(.int (0 : Int32))])) P
      refine Go.st (fun t_ k_ => XS.ifYes X0.here hx rfl (pc0 := 51) (pc' := 58) rfl (hb hby at_51) rfl ((if0 _ _).trans (teq rfl).1) (by decide) (by decide) k_) ?_
      show Go pg.tables ev below (s₁.setTop (mkF mi 58 #[.val (.int a), .val (.int b), .val (.int (0 : Int32)), .val (.int (0 : Int32)), .val (.int (if (b &&& (1 : Int32)) = (0 : Int32) then (0 : Int32) else (1 : Int32))), .val (.int (if (b &&& (2 : Int32)) = (0 : Int32) then (0 : Int32) else (1 : Int32))), .unset, .unset, .unset, .unset] [])) P
      refine Go.st (fun t_ k_ => XS.iconst X0.here hx rfl (hb hby at_58) k_) ?_
      show Go pg.tables ev below (s₁.setTop (mkF mi 59 #[.val (.int a), .val (.int b), .val (.int (0 : Int32)), .val (.int (0 : Int32)), .val (.int (if (b &&& (1 : Int32)) = (0 : Int32) then (0 : Int32) else (1 : Int32))), .val (.int (if (b &&& (2 : Int32)) = (0 : Int32) then (0 : Int32) else (1 : Int32))), .unset, .unset, .unset, .unset] [(.int (0 : Int32))])) P
      refine Go.st (fun t_ k_ => XS.iloadN X0.here hx rfl (hb hby at_59) rfl k_) ?_
      show Go pg.tables ev below (s₁.setTop (mkF mi 60 #[.val (.int a), .val (.int b), .val (.int (0 : Int32)), .val (.int (0 : Int32)), .val (.int (if (b &&& (1 : Int32)) = (0 : Int32) then (0 : Int32) else (1 : Int32))), .val (.int (if (b &&& (2 : Int32)) = (0 : Int32) then (0 : Int32) else (1 : Int32))), .unset, .unset, .unset, .unset] [(.int (0 : Int32)), (.int (0 : Int32))])) P
      refine Go.st (fun t_ k_ => XS.ifYes X0.here hx rfl (pc0 := 60) (pc' := 67) rfl (hb hby at_60) rfl ((if0 _ _).trans (teq rfl).1) (by decide) (by decide) k_) ?_
      show Go pg.tables ev below (s₁.setTop (mkF mi 67 #[.val (.int a), .val (.int b), .val (.int (0 : Int32)), .val (.int (0 : Int32)), .val (.int (if (b &&& (1 : Int32)) = (0 : Int32) then (0 : Int32) else (1 : Int32))), .val (.int (if (b &&& (2 : Int32)) = (0 : Int32) then (0 : Int32) else (1 : Int32))), .unset, .unset, .unset, .unset] [(.int (0 : Int32))])) P
      refine Go.st (fun t_ k_ => XS.iconst X0.here hx rfl (hb hby at_67) k_) ?_
      show Go pg.tables ev below (s₁.setTop (mkF mi 68 #[.val (.int a), .val (.int b), .val (.int (0 : Int32)), .val (.int (0 : Int32)), .val (.int (if (b &&& (1 : Int32)) = (0 : Int32) then (0 : Int32) else (1 : Int32))), .val (.int (if (b &&& (2 : Int32)) = (0 : Int32) then (0 : Int32) else (1 : Int32))), .unset, .unset, .unset, .unset] [(.int (0 : Int32)), (.int (0 : Int32))])) P
      refine Go.st (fun t_ k_ => XS.ior X0.here hx rfl (hb hby at_68) rfl k_) ?_
      show Go pg.tables ev below (s₁.setTop (mkF mi 69 #[.val (.int a), .val (.int b), .val (.int (0 : Int32)), .val (.int (0 : Int32)), .val (.int (if (b &&& (1 : Int32)) = (0 : Int32) then (0 : Int32) else (1 : Int32))), .val (.int (if (b &&& (2 : Int32)) = (0 : Int32) then (0 : Int32) else (1 : Int32))), .unset, .unset, .unset, .unset] [(.int (0 : Int32))])) P
      refine Go.st (fun t_ k_ => XS.istore X0.here hx rfl (hb hby at_69) rfl (l' := #[.val (.int a), .val (.int b), .val (.int (0 : Int32)), .val (.int (0 : Int32)), .val (.int (if (b &&& (1 : Int32)) = (0 : Int32) then (0 : Int32) else (1 : Int32))), .val (.int (if (b &&& (2 : Int32)) = (0 : Int32) then (0 : Int32) else (1 : Int32))), .val (.int (0 : Int32)), .unset, .unset, .unset]) rfl k_) ?_
      show Go pg.tables ev below (s₁.setTop (mkF mi 71 #[.val (.int a), .val (.int b), .val (.int (0 : Int32)), .val (.int (0 : Int32)), .val (.int (if (b &&& (1 : Int32)) = (0 : Int32) then (0 : Int32) else (1 : Int32))), .val (.int (if (b &&& (2 : Int32)) = (0 : Int32) then (0 : Int32) else (1 : Int32))), .val (.int (0 : Int32)), .unset, .unset, .unset] [])) P
      refine Go.st (fun t_ k_ => XS.iloadN X0.here hx rfl (hb hby at_71) rfl k_) ?_
      show Go pg.tables ev below (s₁.setTop (mkF mi 72 #[.val (.int a), .val (.int b), .val (.int (0 : Int32)), .val (.int (0 : Int32)), .val (.int (if (b &&& (1 : Int32)) = (0 : Int32) then (0 : Int32) else (1 : Int32))), .val (.int (if (b &&& (2 : Int32)) = (0 : Int32) then (0 : Int32) else (1 : Int32))), .val (.int (0 : Int32)), .unset, .unset, .unset] [(.int (0 : Int32))])) P
      refine Go.st (fun t_ k_ => XS.iloadN X0.here hx rfl (hb hby at_72) rfl k_) ?_
      show Go pg.tables ev below (s₁.setTop (mkF mi 73 #[.val (.int a), .val (.int b), .val (.int (0 : Int32)), .val (.int (0 : Int32)), .val (.int (if (b &&& (1 : Int32)) = (0 : Int32) then (0 : Int32) else (1 : Int32))), .val (.int (if (b &&& (2 : Int32)) = (0 : Int32) then (0 : Int32) else (1 : Int32))), .val (.int (0 : Int32)), .unset, .unset, .unset] [(.int (0 : Int32)), (.int (0 : Int32))])) P
      obtain ⟨_, _, ⟨T3, L3, k3, n3⟩, -, X3, ⟨Lc3, hQ3, l3, y3, z3⟩, st3⟩ := Jvm.LawKit.callS X0 hx (y := (⟨"com/example/baton/baton/TraceFlags", "of", "(ZZ)Lcom/example/baton/baton/TraceFlags;"⟩ : MethodName)) hown (mvT hZ (hw _ (List.mem_of_getElem? (i := 0) rfl))) (mvT hZ (hw _ (List.mem_of_getElem? (i := 1) rfl))) (mvT hZ (hw _ (List.mem_of_getElem? (i := 2) rfl))) (mvT hZ (hw _ (List.mem_of_getElem? (i := 3) rfl))) (by decide) (backOf (W := 0) (rmOf0 l Z a0 hw [] ar ka f0 f1 f2 f3 f5 f7 f8 f10 h0 n0 Z0 S0 A0) hZ (hw _ (List.mem_of_getElem? (i := 3) rfl)) (hw _ (List.mem_of_getElem? (i := 2) rfl)) (by decide) (by decide)) (g := (mkF mi 73 #[.val (.int a), .val (.int b), .val (.int (0 : Int32)), .val (.int (0 : Int32)), .val (.int (if (b &&& (1 : Int32)) = (0 : Int32) then (0 : Int32) else (1 : Int32))), .val (.int (if (b &&& (2 : Int32)) = (0 : Int32) then (0 : Int32) else (1 : Int32))), .val (.int (0 : Int32)), .unset, .unset, .unset] [(.int (0 : Int32)), (.int (0 : Int32))])) rfl (by rw [hml]; rfl) (argsL := [(.int (0 : Int32)), (.int (0 : Int32))]) (rest := []) (lenOf pd_0 rfl) rfl (by show 2 * 0 + _ ≤ _; exact Nat.le_of_eq rfl) (hb hby at_73) (fun _ _ => ⟨rfl, e0, (by decide : 0 + 0 ≤ _), (by decide : 0 + 0 ≤ _)⟩)
      dsimp only [Pt.U, Pt.locs, Pt.cells, Pt.slots] at X3 l3 y3 z3 st3 hQ3
      subst l3 y3 z3
      obtain ⟨rfl, N3q, e3⟩ := hQ3
      have N3 := Fr.app N0 N3q
      refine Go.st st3 ?_
      show Go pg.tables ev below (T3.setTop (mkF mi 76 #[.val (.int a), .val (.int b), .val (.int (0 : Int32)), .val (.int (0 : Int32)), .val (.int (if (b &&& (1 : Int32)) = (0 : Int32) then (0 : Int32) else (1 : Int32))), .val (.int (if (b &&& (2 : Int32)) = (0 : Int32) then (0 : Int32) else (1 : Int32))), .val (.int (0 : Int32)), .unset, .unset, .unset] [(.ref f0)])) P
      refine Go.st (fun t_ k_ => XS.astore X3.here hx rfl (hb hby at_76) rfl rfl (l' := #[.val (.int a), .val (.int b), .val (.int (0 : Int32)), .val (.int (0 : Int32)), .val (.int (if (b &&& (1 : Int32)) = (0 : Int32) then (0 : Int32) else (1 : Int32))), .val (.int (if (b &&& (2 : Int32)) = (0 : Int32) then (0 : Int32) else (1 : Int32))), .val (.int (0 : Int32)), .val (.ref f0), .unset, .unset]) rfl k_) ?_
      show Go pg.tables ev below (T3.setTop (mkF mi 78 #[.val (.int a), .val (.int b), .val (.int (0 : Int32)), .val (.int (0 : Int32)), .val (.int (if (b &&& (1 : Int32)) = (0 : Int32) then (0 : Int32) else (1 : Int32))), .val (.int (if (b &&& (2 : Int32)) = (0 : Int32) then (0 : Int32) else (1 : Int32))), .val (.int (0 : Int32)), .val (.ref f0), .unset, .unset] [])) P
      refine Go.st (fun t_ k_ => XS.aload X3.here hx rfl (hb hby at_78) rfl rfl k_) ?_
      show Go pg.tables ev below (T3.setTop (mkF mi 80 #[.val (.int a), .val (.int b), .val (.int (0 : Int32)), .val (.int (0 : Int32)), .val (.int (if (b &&& (1 : Int32)) = (0 : Int32) then (0 : Int32) else (1 : Int32))), .val (.int (if (b &&& (2 : Int32)) = (0 : Int32) then (0 : Int32) else (1 : Int32))), .val (.int (0 : Int32)), .val (.ref f0), .unset, .unset] [(.ref f0)])) P
      refine Go.st (fun t_ k_ => XS.ifnonnullYes X3.here hx rfl (pc0 := 80) (pc' := 85) rfl (hb hby at_80) rfl (by decide) (by decide) k_) ?_
      show Go pg.tables ev below (T3.setTop (mkF mi 85 #[.val (.int a), .val (.int b), .val (.int (0 : Int32)), .val (.int (0 : Int32)), .val (.int (if (b &&& (1 : Int32)) = (0 : Int32) then (0 : Int32) else (1 : Int32))), .val (.int (if (b &&& (2 : Int32)) = (0 : Int32) then (0 : Int32) else (1 : Int32))), .val (.int (0 : Int32)), .val (.ref f0), .unset, .unset] [])) P
      refine Go.st (fun t_ k_ => XS.aload X3.here hx rfl (hb hby at_85) rfl rfl k_) ?_
      show Go pg.tables ev below (T3.setTop (mkF mi 87 #[.val (.int a), .val (.int b), .val (.int (0 : Int32)), .val (.int (0 : Int32)), .val (.int (if (b &&& (1 : Int32)) = (0 : Int32) then (0 : Int32) else (1 : Int32))), .val (.int (if (b &&& (2 : Int32)) = (0 : Int32) then (0 : Int32) else (1 : Int32))), .val (.int (0 : Int32)), .val (.ref f0), .unset, .unset] [(.ref f0)])) P
      obtain ⟨cq4, kq4, q4a, q4b, q4c⟩ := isOf hZ e3 E0
      obtain ⟨_, _, ⟨T4, L4, k4, n4⟩, -, X4, ⟨Lc4, hQ4, l4, y4, z4⟩, st4⟩ := X3.virtualBack hx (y := (⟨"com/example/baton/baton/TraceFlags", "sampled", "()Z"⟩ : MethodName)) (z := (⟨"com/example/baton/baton/TraceFlags", "sampled", "()Z"⟩ : MethodName)) hown (mvT hZ (hw _ (List.mem_of_getElem? (i := 6) rfl))) (mvT hZ (hw _ (List.mem_of_getElem? (i := 7) rfl))) (notFace_of_selects (args := #[]) (mvT hZ (hw _ (List.mem_of_getElem? (i := 9) rfl)))) (mvT hZ (hw _ (List.mem_of_getElem? (i := 9) rfl))) (mvT hZ (hw _ (List.mem_of_getElem? (i := 8) rfl))) (by decide) (backOf (W := 0) (rmA l Z a0 hw [] f0 (0 : Int32) h0 n0 Z0 F0) hZ (hw _ (List.mem_of_getElem? (i := 10) rfl)) (hw _ (List.mem_of_getElem? (i := 2) rfl)) (by decide) (by decide)) q4a q4c (g := (mkF mi 87 #[.val (.int a), .val (.int b), .val (.int (0 : Int32)), .val (.int (0 : Int32)), .val (.int (if (b &&& (1 : Int32)) = (0 : Int32) then (0 : Int32) else (1 : Int32))), .val (.int (if (b &&& (2 : Int32)) = (0 : Int32) then (0 : Int32) else (1 : Int32))), .val (.int (0 : Int32)), .val (.ref f0), .unset, .unset] [(.ref f0)])) rfl (by rw [hml]; rfl) (Steps.refl _) (argsL := []) (rest := []) (lenOf pd_1 rfl) rfl (by show 2 * 0 + _ ≤ _; exact Nat.le_of_eq rfl) (hb hby at_87) (fun _ _ => ⟨rfl, e3, (by decide : 0 + 0 ≤ _), (by decide : 0 + 0 ≤ _)⟩)
      dsimp only [Pt.U, Pt.locs, Pt.cells, Pt.slots] at X4 l4 y4 z4 st4 hQ4
      subst l4 y4 z4
      obtain ⟨rfl, N4q, e4⟩ := hQ4
      have N4 := Fr.app N3 N4q
      refine Go.tr st4 ?_
      show Go pg.tables ev below (T4.setTop (mkF mi 90 #[.val (.int a), .val (.int b), .val (.int (0 : Int32)), .val (.int (0 : Int32)), .val (.int (if (b &&& (1 : Int32)) = (0 : Int32) then (0 : Int32) else (1 : Int32))), .val (.int (if (b &&& (2 : Int32)) = (0 : Int32) then (0 : Int32) else (1 : Int32))), .val (.int (0 : Int32)), .val (.ref f0), .unset, .unset] [(.int (0 : Int32))])) P
      refine Go.st (fun t_ k_ => XS.iloadN X4.here hx rfl (hb hby at_90) rfl k_) ?_
      show Go pg.tables ev below (T4.setTop (mkF mi 91 #[.val (.int a), .val (.int b), .val (.int (0 : Int32)), .val (.int (0 : Int32)), .val (.int (if (b &&& (1 : Int32)) = (0 : Int32) then (0 : Int32) else (1 : Int32))), .val (.int (if (b &&& (2 : Int32)) = (0 : Int32) then (0 : Int32) else (1 : Int32))), .val (.int (0 : Int32)), .val (.ref f0), .unset, .unset] [(.int (0 : Int32)), (.int (0 : Int32))])) P
      refine Go.st (fun t_ k_ => XS.icmpNo X4.here hx rfl (hb hby at_91) rfl (teq rfl).2 k_) ?_
      show Go pg.tables ev below (T4.setTop (mkF mi 94 #[.val (.int a), .val (.int b), .val (.int (0 : Int32)), .val (.int (0 : Int32)), .val (.int (if (b &&& (1 : Int32)) = (0 : Int32) then (0 : Int32) else (1 : Int32))), .val (.int (if (b &&& (2 : Int32)) = (0 : Int32) then (0 : Int32) else (1 : Int32))), .val (.int (0 : Int32)), .val (.ref f0), .unset, .unset] [])) P
      refine Go.st (fun t_ k_ => XS.iconst X4.here hx rfl (hb hby at_94) k_) ?_
      show Go pg.tables ev below (T4.setTop (mkF mi 95 #[.val (.int a), .val (.int b), .val (.int (0 : Int32)), .val (.int (0 : Int32)), .val (.int (if (b &&& (1 : Int32)) = (0 : Int32) then (0 : Int32) else (1 : Int32))), .val (.int (if (b &&& (2 : Int32)) = (0 : Int32) then (0 : Int32) else (1 : Int32))), .val (.int (0 : Int32)), .val (.ref f0), .unset, .unset] [(.int (1 : Int32))])) P
      refine Go.st (fun t_ k_ => XS.goto X4.here hx rfl (pc0 := 95) (pc' := 99) rfl (hb hby at_95) (by decide) (by decide) k_) ?_
      show Go pg.tables ev below (T4.setTop (mkF mi 99 #[.val (.int a), .val (.int b), .val (.int (0 : Int32)), .val (.int (0 : Int32)), .val (.int (if (b &&& (1 : Int32)) = (0 : Int32) then (0 : Int32) else (1 : Int32))), .val (.int (if (b &&& (2 : Int32)) = (0 : Int32) then (0 : Int32) else (1 : Int32))), .val (.int (0 : Int32)), .val (.ref f0), .unset, .unset] [(.int (1 : Int32))])) P
      refine Go.st (fun t_ k_ => XS.istore X4.here hx rfl (hb hby at_99) rfl (l' := #[.val (.int a), .val (.int b), .val (.int (0 : Int32)), .val (.int (0 : Int32)), .val (.int (if (b &&& (1 : Int32)) = (0 : Int32) then (0 : Int32) else (1 : Int32))), .val (.int (if (b &&& (2 : Int32)) = (0 : Int32) then (0 : Int32) else (1 : Int32))), .val (.int (0 : Int32)), .val (.ref f0), .val (.int (1 : Int32)), .unset]) rfl k_) ?_
      show Go pg.tables ev below (T4.setTop (mkF mi 101 #[.val (.int a), .val (.int b), .val (.int (0 : Int32)), .val (.int (0 : Int32)), .val (.int (if (b &&& (1 : Int32)) = (0 : Int32) then (0 : Int32) else (1 : Int32))), .val (.int (if (b &&& (2 : Int32)) = (0 : Int32) then (0 : Int32) else (1 : Int32))), .val (.int (0 : Int32)), .val (.ref f0), .val (.int (1 : Int32)), .unset] [])) P
      refine Go.st (fun t_ k_ => XS.iload X4.here hx rfl (hb hby at_101) rfl k_) ?_
      show Go pg.tables ev below (T4.setTop (mkF mi 103 #[.val (.int a), .val (.int b), .val (.int (0 : Int32)), .val (.int (0 : Int32)), .val (.int (if (b &&& (1 : Int32)) = (0 : Int32) then (0 : Int32) else (1 : Int32))), .val (.int (if (b &&& (2 : Int32)) = (0 : Int32) then (0 : Int32) else (1 : Int32))), .val (.int (0 : Int32)), .val (.ref f0), .val (.int (1 : Int32)), .unset] [(.int (1 : Int32))])) P
      refine Go.st (fun t_ k_ => XS.ifNo X4.here hx rfl (hb hby at_103) rfl ((if0 _ _).trans (feq (by decide)).1) k_) ?_
      show Go pg.tables ev below (T4.setTop (mkF mi 106 #[.val (.int a), .val (.int b), .val (.int (0 : Int32)), .val (.int (0 : Int32)), .val (.int (if (b &&& (1 : Int32)) = (0 : Int32) then (0 : Int32) else (1 : Int32))), .val (.int (if (b &&& (2 : Int32)) = (0 : Int32) then (0 : Int32) else (1 : Int32))), .val (.int (0 : Int32)), .val (.ref f0), .val (.int (1 : Int32)), .unset] [])) P
      refine Go.st (fun t_ k_ => XS.aload X4.here hx rfl (hb hby at_106) rfl rfl k_) ?_
      show Go pg.tables ev below (T4.setTop (mkF mi 108 #[.val (.int a), .val (.int b), .val (.int (0 : Int32)), .val (.int (0 : Int32)), .val (.int (if (b &&& (1 : Int32)) = (0 : Int32) then (0 : Int32) else (1 : Int32))), .val (.int (if (b &&& (2 : Int32)) = (0 : Int32) then (0 : Int32) else (1 : Int32))), .val (.int (0 : Int32)), .val (.ref f0), .val (.int (1 : Int32)), .unset] [(.ref f0)])) P
      obtain ⟨cq5, kq5, q5a, q5b, q5c⟩ := isOf hZ e4 E0
      obtain ⟨_, _, ⟨T5, L5, k5, n5⟩, -, X5, ⟨Lc5, hQ5, l5, y5, z5⟩, st5⟩ := X4.virtualBack hx (y := (⟨"com/example/baton/baton/TraceFlags", "randomTraceId", "()Z"⟩ : MethodName)) (z := (⟨"com/example/baton/baton/TraceFlags", "randomTraceId", "()Z"⟩ : MethodName)) hown (mvT hZ (hw _ (List.mem_of_getElem? (i := 13) rfl))) (mvT hZ (hw _ (List.mem_of_getElem? (i := 14) rfl))) (notFace_of_selects (args := #[]) (mvT hZ (hw _ (List.mem_of_getElem? (i := 16) rfl)))) (mvT hZ (hw _ (List.mem_of_getElem? (i := 16) rfl))) (mvT hZ (hw _ (List.mem_of_getElem? (i := 15) rfl))) (by decide) (backOf (W := 0) (rmB l Z a0 hw [] f0 (0 : Int32) h0 n0 Z0 F0) hZ (hw _ (List.mem_of_getElem? (i := 17) rfl)) (hw _ (List.mem_of_getElem? (i := 2) rfl)) (by decide) (by decide)) q5a q5c (g := (mkF mi 108 #[.val (.int a), .val (.int b), .val (.int (0 : Int32)), .val (.int (0 : Int32)), .val (.int (if (b &&& (1 : Int32)) = (0 : Int32) then (0 : Int32) else (1 : Int32))), .val (.int (if (b &&& (2 : Int32)) = (0 : Int32) then (0 : Int32) else (1 : Int32))), .val (.int (0 : Int32)), .val (.ref f0), .val (.int (1 : Int32)), .unset] [(.ref f0)])) rfl (by rw [hml]; rfl) (Steps.refl _) (argsL := []) (rest := []) (lenOf pd_1 rfl) rfl (by show 2 * 0 + _ ≤ _; exact Nat.le_of_eq rfl) (hb hby at_108) (fun _ _ => ⟨rfl, e4, (by decide : 0 + 0 ≤ _), (by decide : 0 + 0 ≤ _)⟩)
      dsimp only [Pt.U, Pt.locs, Pt.cells, Pt.slots] at X5 l5 y5 z5 st5 hQ5
      subst l5 y5 z5
      obtain ⟨rfl, N5q, e5⟩ := hQ5
      have N5 := Fr.app N4 N5q
      refine Go.tr st5 ?_
      show Go pg.tables ev below (T5.setTop (mkF mi 111 #[.val (.int a), .val (.int b), .val (.int (0 : Int32)), .val (.int (0 : Int32)), .val (.int (if (b &&& (1 : Int32)) = (0 : Int32) then (0 : Int32) else (1 : Int32))), .val (.int (if (b &&& (2 : Int32)) = (0 : Int32) then (0 : Int32) else (1 : Int32))), .val (.int (0 : Int32)), .val (.ref f0), .val (.int (1 : Int32)), .unset] [(.int (0 : Int32))])) P
      refine Go.st (fun t_ k_ => XS.iloadN X5.here hx rfl (hb hby at_111) rfl k_) ?_
      show Go pg.tables ev below (T5.setTop (mkF mi 112 #[.val (.int a), .val (.int b), .val (.int (0 : Int32)), .val (.int (0 : Int32)), .val (.int (if (b &&& (1 : Int32)) = (0 : Int32) then (0 : Int32) else (1 : Int32))), .val (.int (if (b &&& (2 : Int32)) = (0 : Int32) then (0 : Int32) else (1 : Int32))), .val (.int (0 : Int32)), .val (.ref f0), .val (.int (1 : Int32)), .unset] [(.int (0 : Int32)), (.int (0 : Int32))])) P
      refine Go.st (fun t_ k_ => XS.icmpNo X5.here hx rfl (hb hby at_112) rfl (teq rfl).2 k_) ?_
      show Go pg.tables ev below (T5.setTop (mkF mi 115 #[.val (.int a), .val (.int b), .val (.int (0 : Int32)), .val (.int (0 : Int32)), .val (.int (if (b &&& (1 : Int32)) = (0 : Int32) then (0 : Int32) else (1 : Int32))), .val (.int (if (b &&& (2 : Int32)) = (0 : Int32) then (0 : Int32) else (1 : Int32))), .val (.int (0 : Int32)), .val (.ref f0), .val (.int (1 : Int32)), .unset] [])) P
      refine Go.st (fun t_ k_ => XS.iconst X5.here hx rfl (hb hby at_115) k_) ?_
      show Go pg.tables ev below (T5.setTop (mkF mi 116 #[.val (.int a), .val (.int b), .val (.int (0 : Int32)), .val (.int (0 : Int32)), .val (.int (if (b &&& (1 : Int32)) = (0 : Int32) then (0 : Int32) else (1 : Int32))), .val (.int (if (b &&& (2 : Int32)) = (0 : Int32) then (0 : Int32) else (1 : Int32))), .val (.int (0 : Int32)), .val (.ref f0), .val (.int (1 : Int32)), .unset] [(.int (1 : Int32))])) P
      refine Go.st (fun t_ k_ => XS.goto X5.here hx rfl (pc0 := 116) (pc' := 120) rfl (hb hby at_116) (by decide) (by decide) k_) ?_
      show Go pg.tables ev below (T5.setTop (mkF mi 120 #[.val (.int a), .val (.int b), .val (.int (0 : Int32)), .val (.int (0 : Int32)), .val (.int (if (b &&& (1 : Int32)) = (0 : Int32) then (0 : Int32) else (1 : Int32))), .val (.int (if (b &&& (2 : Int32)) = (0 : Int32) then (0 : Int32) else (1 : Int32))), .val (.int (0 : Int32)), .val (.ref f0), .val (.int (1 : Int32)), .unset] [(.int (1 : Int32))])) P
      refine Go.st (fun t_ k_ => XS.istore X5.here hx rfl (hb hby at_120) rfl (l' := #[.val (.int a), .val (.int b), .val (.int (0 : Int32)), .val (.int (0 : Int32)), .val (.int (if (b &&& (1 : Int32)) = (0 : Int32) then (0 : Int32) else (1 : Int32))), .val (.int (if (b &&& (2 : Int32)) = (0 : Int32) then (0 : Int32) else (1 : Int32))), .val (.int (0 : Int32)), .val (.ref f0), .val (.int (1 : Int32)), .unset]) rfl k_) ?_
      show Go pg.tables ev below (T5.setTop (mkF mi 122 #[.val (.int a), .val (.int b), .val (.int (0 : Int32)), .val (.int (0 : Int32)), .val (.int (if (b &&& (1 : Int32)) = (0 : Int32) then (0 : Int32) else (1 : Int32))), .val (.int (if (b &&& (2 : Int32)) = (0 : Int32) then (0 : Int32) else (1 : Int32))), .val (.int (0 : Int32)), .val (.ref f0), .val (.int (1 : Int32)), .unset] [])) P
      refine Go.st (fun t_ k_ => XS.iload X5.here hx rfl (hb hby at_122) rfl k_) ?_
      show Go pg.tables ev below (T5.setTop (mkF mi 124 #[.val (.int a), .val (.int b), .val (.int (0 : Int32)), .val (.int (0 : Int32)), .val (.int (if (b &&& (1 : Int32)) = (0 : Int32) then (0 : Int32) else (1 : Int32))), .val (.int (if (b &&& (2 : Int32)) = (0 : Int32) then (0 : Int32) else (1 : Int32))), .val (.int (0 : Int32)), .val (.ref f0), .val (.int (1 : Int32)), .unset] [(.int (1 : Int32))])) P
      refine Go.st (fun t_ k_ => XS.ifNo X5.here hx rfl (hb hby at_124) rfl ((if0 _ _).trans (feq (by decide)).1) k_) ?_
      show Go pg.tables ev below (T5.setTop (mkF mi 127 #[.val (.int a), .val (.int b), .val (.int (0 : Int32)), .val (.int (0 : Int32)), .val (.int (if (b &&& (1 : Int32)) = (0 : Int32) then (0 : Int32) else (1 : Int32))), .val (.int (if (b &&& (2 : Int32)) = (0 : Int32) then (0 : Int32) else (1 : Int32))), .val (.int (0 : Int32)), .val (.ref f0), .val (.int (1 : Int32)), .unset] [])) P
      refine Go.st (fun t_ k_ => XS.aload X5.here hx rfl (hb hby at_127) rfl rfl k_) ?_
      show Go pg.tables ev below (T5.setTop (mkF mi 129 #[.val (.int a), .val (.int b), .val (.int (0 : Int32)), .val (.int (0 : Int32)), .val (.int (if (b &&& (1 : Int32)) = (0 : Int32) then (0 : Int32) else (1 : Int32))), .val (.int (if (b &&& (2 : Int32)) = (0 : Int32) then (0 : Int32) else (1 : Int32))), .val (.int (0 : Int32)), .val (.ref f0), .val (.int (1 : Int32)), .unset] [(.ref f0)])) P
      obtain ⟨cq6, kq6, q6a, q6b, q6c⟩ := isOf hZ e5 E0
      obtain ⟨_, _, ⟨T6, L6, k6, n6⟩, -, X6, ⟨Lc6, hQ6, l6, y6, z6⟩, st6⟩ := X5.virtualBack hx (y := (⟨"com/example/baton/baton/TraceFlags", "debug", "()Z"⟩ : MethodName)) (z := (⟨"com/example/baton/baton/TraceFlags", "debug", "()Z"⟩ : MethodName)) hown (mvT hZ (hw _ (List.mem_of_getElem? (i := 18) rfl))) (mvT hZ (hw _ (List.mem_of_getElem? (i := 19) rfl))) (notFace_of_selects (args := #[]) (mvT hZ (hw _ (List.mem_of_getElem? (i := 21) rfl)))) (mvT hZ (hw _ (List.mem_of_getElem? (i := 21) rfl))) (mvT hZ (hw _ (List.mem_of_getElem? (i := 20) rfl))) (by decide) (backOf (W := 0) (rmC l Z a0 hw [] f0 (0 : Int32) h0 n0 Z0 F0) hZ (hw _ (List.mem_of_getElem? (i := 22) rfl)) (hw _ (List.mem_of_getElem? (i := 2) rfl)) (by decide) (by decide)) q6a q6c (g := (mkF mi 129 #[.val (.int a), .val (.int b), .val (.int (0 : Int32)), .val (.int (0 : Int32)), .val (.int (if (b &&& (1 : Int32)) = (0 : Int32) then (0 : Int32) else (1 : Int32))), .val (.int (if (b &&& (2 : Int32)) = (0 : Int32) then (0 : Int32) else (1 : Int32))), .val (.int (0 : Int32)), .val (.ref f0), .val (.int (1 : Int32)), .unset] [(.ref f0)])) rfl (by rw [hml]; rfl) (Steps.refl _) (argsL := []) (rest := []) (lenOf pd_1 rfl) rfl (by show 2 * 0 + _ ≤ _; exact Nat.le_of_eq rfl) (hb hby at_129) (fun _ _ => ⟨rfl, e5, (by decide : 0 + 0 ≤ _), (by decide : 0 + 0 ≤ _)⟩)
      dsimp only [Pt.U, Pt.locs, Pt.cells, Pt.slots] at X6 l6 y6 z6 st6 hQ6
      subst l6 y6 z6
      obtain ⟨rfl, N6q, e6⟩ := hQ6
      have N6 := Fr.app N5 N6q
      refine Go.tr st6 ?_
      show Go pg.tables ev below (T6.setTop (mkF mi 132 #[.val (.int a), .val (.int b), .val (.int (0 : Int32)), .val (.int (0 : Int32)), .val (.int (if (b &&& (1 : Int32)) = (0 : Int32) then (0 : Int32) else (1 : Int32))), .val (.int (if (b &&& (2 : Int32)) = (0 : Int32) then (0 : Int32) else (1 : Int32))), .val (.int (0 : Int32)), .val (.ref f0), .val (.int (1 : Int32)), .unset] [(.int (0 : Int32))])) P
      refine Go.st (fun t_ k_ => XS.ifNo X6.here hx rfl (hb hby at_132) rfl ((if0 _ _).trans (teq rfl).2) k_) ?_
      show Go pg.tables ev below (T6.setTop (mkF mi 135 #[.val (.int a), .val (.int b), .val (.int (0 : Int32)), .val (.int (0 : Int32)), .val (.int (if (b &&& (1 : Int32)) = (0 : Int32) then (0 : Int32) else (1 : Int32))), .val (.int (if (b &&& (2 : Int32)) = (0 : Int32) then (0 : Int32) else (1 : Int32))), .val (.int (0 : Int32)), .val (.ref f0), .val (.int (1 : Int32)), .unset] [])) P
      refine Go.st (fun t_ k_ => XS.iconst X6.here hx rfl (hb hby at_135) k_) ?_
      show Go pg.tables ev below (T6.setTop (mkF mi 136 #[.val (.int a), .val (.int b), .val (.int (0 : Int32)), .val (.int (0 : Int32)), .val (.int (if (b &&& (1 : Int32)) = (0 : Int32) then (0 : Int32) else (1 : Int32))), .val (.int (if (b &&& (2 : Int32)) = (0 : Int32) then (0 : Int32) else (1 : Int32))), .val (.int (0 : Int32)), .val (.ref f0), .val (.int (1 : Int32)), .unset] [(.int (1 : Int32))])) P
      refine Go.st (fun t_ k_ => XS.goto X6.here hx rfl (pc0 := 136) (pc' := 140) rfl (hb hby at_136) (by decide) (by decide) k_) ?_
      show Go pg.tables ev below (T6.setTop (mkF mi 140 #[.val (.int a), .val (.int b), .val (.int (0 : Int32)), .val (.int (0 : Int32)), .val (.int (if (b &&& (1 : Int32)) = (0 : Int32) then (0 : Int32) else (1 : Int32))), .val (.int (if (b &&& (2 : Int32)) = (0 : Int32) then (0 : Int32) else (1 : Int32))), .val (.int (0 : Int32)), .val (.ref f0), .val (.int (1 : Int32)), .unset] [(.int (1 : Int32))])) P
      refine Go.st (fun t_ k_ => XS.istore X6.here hx rfl (hb hby at_140) rfl (l' := #[.val (.int a), .val (.int b), .val (.int (0 : Int32)), .val (.int (0 : Int32)), .val (.int (if (b &&& (1 : Int32)) = (0 : Int32) then (0 : Int32) else (1 : Int32))), .val (.int (if (b &&& (2 : Int32)) = (0 : Int32) then (0 : Int32) else (1 : Int32))), .val (.int (0 : Int32)), .val (.ref f0), .val (.int (1 : Int32)), .unset]) rfl k_) ?_
      show Go pg.tables ev below (T6.setTop (mkF mi 142 #[.val (.int a), .val (.int b), .val (.int (0 : Int32)), .val (.int (0 : Int32)), .val (.int (if (b &&& (1 : Int32)) = (0 : Int32) then (0 : Int32) else (1 : Int32))), .val (.int (if (b &&& (2 : Int32)) = (0 : Int32) then (0 : Int32) else (1 : Int32))), .val (.int (0 : Int32)), .val (.ref f0), .val (.int (1 : Int32)), .unset] [])) P
      refine Go.st (fun t_ k_ => XS.iload X6.here hx rfl (hb hby at_142) rfl k_) ?_
      show Go pg.tables ev below (T6.setTop (mkF mi 144 #[.val (.int a), .val (.int b), .val (.int (0 : Int32)), .val (.int (0 : Int32)), .val (.int (if (b &&& (1 : Int32)) = (0 : Int32) then (0 : Int32) else (1 : Int32))), .val (.int (if (b &&& (2 : Int32)) = (0 : Int32) then (0 : Int32) else (1 : Int32))), .val (.int (0 : Int32)), .val (.ref f0), .val (.int (1 : Int32)), .unset] [(.int (1 : Int32))])) P
      refine Go.st (fun t_ k_ => XS.ifNo X6.here hx rfl (hb hby at_144) rfl ((if0 _ _).trans (feq (by decide)).1) k_) ?_
      show Go pg.tables ev below (T6.setTop (mkF mi 147 #[.val (.int a), .val (.int b), .val (.int (0 : Int32)), .val (.int (0 : Int32)), .val (.int (if (b &&& (1 : Int32)) = (0 : Int32) then (0 : Int32) else (1 : Int32))), .val (.int (if (b &&& (2 : Int32)) = (0 : Int32) then (0 : Int32) else (1 : Int32))), .val (.int (0 : Int32)), .val (.ref f0), .val (.int (1 : Int32)), .unset] [])) P
      refine Go.st (fun t_ k_ => XS.aload X6.here hx rfl (hb hby at_147) rfl rfl k_) ?_
      show Go pg.tables ev below (T6.setTop (mkF mi 149 #[.val (.int a), .val (.int b), .val (.int (0 : Int32)), .val (.int (0 : Int32)), .val (.int (if (b &&& (1 : Int32)) = (0 : Int32) then (0 : Int32) else (1 : Int32))), .val (.int (if (b &&& (2 : Int32)) = (0 : Int32) then (0 : Int32) else (1 : Int32))), .val (.int (0 : Int32)), .val (.ref f0), .val (.int (1 : Int32)), .unset] [(.ref f0)])) P
      obtain ⟨cq7, kq7, q7a, q7b, q7c⟩ := isOf hZ e6 E0
      obtain ⟨_, _, ⟨T7, L7, k7, n7⟩, -, X7, ⟨Lc7, hQ7, l7, y7, z7⟩, st7⟩ := X6.virtualBack hx (y := (⟨"com/example/baton/baton/TraceFlags", "deferred", "()Z"⟩ : MethodName)) (z := (⟨"com/example/baton/baton/TraceFlags", "deferred", "()Z"⟩ : MethodName)) hown (mvT hZ (hw _ (List.mem_of_getElem? (i := 23) rfl))) (mvT hZ (hw _ (List.mem_of_getElem? (i := 24) rfl))) (notFace_of_selects (args := #[]) (mvT hZ (hw _ (List.mem_of_getElem? (i := 26) rfl)))) (mvT hZ (hw _ (List.mem_of_getElem? (i := 26) rfl))) (mvT hZ (hw _ (List.mem_of_getElem? (i := 25) rfl))) (by decide) (backOf (W := 0) (rmD l Z a0 hw [] f0 (0 : Int32) h0 n0 Z0 F0) hZ (hw _ (List.mem_of_getElem? (i := 27) rfl)) (hw _ (List.mem_of_getElem? (i := 2) rfl)) (by decide) (by decide)) q7a q7c (g := (mkF mi 149 #[.val (.int a), .val (.int b), .val (.int (0 : Int32)), .val (.int (0 : Int32)), .val (.int (if (b &&& (1 : Int32)) = (0 : Int32) then (0 : Int32) else (1 : Int32))), .val (.int (if (b &&& (2 : Int32)) = (0 : Int32) then (0 : Int32) else (1 : Int32))), .val (.int (0 : Int32)), .val (.ref f0), .val (.int (1 : Int32)), .unset] [(.ref f0)])) rfl (by rw [hml]; rfl) (Steps.refl _) (argsL := []) (rest := []) (lenOf pd_1 rfl) rfl (by show 2 * 0 + _ ≤ _; exact Nat.le_of_eq rfl) (hb hby at_149) (fun _ _ => ⟨rfl, e6, (by decide : 0 + 0 ≤ _), (by decide : 0 + 0 ≤ _)⟩)
      dsimp only [Pt.U, Pt.locs, Pt.cells, Pt.slots] at X7 l7 y7 z7 st7 hQ7
      subst l7 y7 z7
      obtain ⟨rfl, N7q, e7⟩ := hQ7
      have N7 := Fr.app N6 N7q
      refine Go.tr st7 ?_
      show Go pg.tables ev below (T7.setTop (mkF mi 152 #[.val (.int a), .val (.int b), .val (.int (0 : Int32)), .val (.int (0 : Int32)), .val (.int (if (b &&& (1 : Int32)) = (0 : Int32) then (0 : Int32) else (1 : Int32))), .val (.int (if (b &&& (2 : Int32)) = (0 : Int32) then (0 : Int32) else (1 : Int32))), .val (.int (0 : Int32)), .val (.ref f0), .val (.int (1 : Int32)), .unset] [(.int (0 : Int32))])) P
      refine Go.st (fun t_ k_ => XS.ifNo X7.here hx rfl (hb hby at_152) rfl ((if0 _ _).trans (teq rfl).2) k_) ?_
      show Go pg.tables ev below (T7.setTop (mkF mi 155 #[.val (.int a), .val (.int b), .val (.int (0 : Int32)), .val (.int (0 : Int32)), .val (.int (if (b &&& (1 : Int32)) = (0 : Int32) then (0 : Int32) else (1 : Int32))), .val (.int (if (b &&& (2 : Int32)) = (0 : Int32) then (0 : Int32) else (1 : Int32))), .val (.int (0 : Int32)), .val (.ref f0), .val (.int (1 : Int32)), .unset] [])) P
      refine Go.st (fun t_ k_ => XS.iconst X7.here hx rfl (hb hby at_155) k_) ?_
      show Go pg.tables ev below (T7.setTop (mkF mi 156 #[.val (.int a), .val (.int b), .val (.int (0 : Int32)), .val (.int (0 : Int32)), .val (.int (if (b &&& (1 : Int32)) = (0 : Int32) then (0 : Int32) else (1 : Int32))), .val (.int (if (b &&& (2 : Int32)) = (0 : Int32) then (0 : Int32) else (1 : Int32))), .val (.int (0 : Int32)), .val (.ref f0), .val (.int (1 : Int32)), .unset] [(.int (1 : Int32))])) P
      refine Go.st (fun t_ k_ => XS.goto X7.here hx rfl (pc0 := 156) (pc' := 160) rfl (hb hby at_156) (by decide) (by decide) k_) ?_
      show Go pg.tables ev below (T7.setTop (mkF mi 160 #[.val (.int a), .val (.int b), .val (.int (0 : Int32)), .val (.int (0 : Int32)), .val (.int (if (b &&& (1 : Int32)) = (0 : Int32) then (0 : Int32) else (1 : Int32))), .val (.int (if (b &&& (2 : Int32)) = (0 : Int32) then (0 : Int32) else (1 : Int32))), .val (.int (0 : Int32)), .val (.ref f0), .val (.int (1 : Int32)), .unset] [(.int (1 : Int32))])) P
      refine Go.st (fun t_ k_ => XS.istore X7.here hx rfl (hb hby at_160) rfl (l' := #[.val (.int a), .val (.int b), .val (.int (0 : Int32)), .val (.int (0 : Int32)), .val (.int (if (b &&& (1 : Int32)) = (0 : Int32) then (0 : Int32) else (1 : Int32))), .val (.int (if (b &&& (2 : Int32)) = (0 : Int32) then (0 : Int32) else (1 : Int32))), .val (.int (0 : Int32)), .val (.ref f0), .val (.int (1 : Int32)), .unset]) rfl k_) ?_
      show Go pg.tables ev below (T7.setTop (mkF mi 162 #[.val (.int a), .val (.int b), .val (.int (0 : Int32)), .val (.int (0 : Int32)), .val (.int (if (b &&& (1 : Int32)) = (0 : Int32) then (0 : Int32) else (1 : Int32))), .val (.int (if (b &&& (2 : Int32)) = (0 : Int32) then (0 : Int32) else (1 : Int32))), .val (.int (0 : Int32)), .val (.ref f0), .val (.int (1 : Int32)), .unset] [])) P
      refine Go.st (fun t_ k_ => XS.iload X7.here hx rfl (hb hby at_162) rfl k_) ?_
      show Go pg.tables ev below (T7.setTop (mkF mi 164 #[.val (.int a), .val (.int b), .val (.int (0 : Int32)), .val (.int (0 : Int32)), .val (.int (if (b &&& (1 : Int32)) = (0 : Int32) then (0 : Int32) else (1 : Int32))), .val (.int (if (b &&& (2 : Int32)) = (0 : Int32) then (0 : Int32) else (1 : Int32))), .val (.int (0 : Int32)), .val (.ref f0), .val (.int (1 : Int32)), .unset] [(.int (1 : Int32))])) P
      refine Go.st (fun t_ k_ => XS.ifNo X7.here hx rfl (hb hby at_164) rfl ((if0 _ _).trans (feq (by decide)).1) k_) ?_
      show Go pg.tables ev below (T7.setTop (mkF mi 167 #[.val (.int a), .val (.int b), .val (.int (0 : Int32)), .val (.int (0 : Int32)), .val (.int (if (b &&& (1 : Int32)) = (0 : Int32) then (0 : Int32) else (1 : Int32))), .val (.int (if (b &&& (2 : Int32)) = (0 : Int32) then (0 : Int32) else (1 : Int32))), .val (.int (0 : Int32)), .val (.ref f0), .val (.int (1 : Int32)), .unset] [])) P
      refine Go.st (fun t_ k_ => XS.aload X7.here hx rfl (hb hby at_167) rfl rfl k_) ?_
      show Go pg.tables ev below (T7.setTop (mkF mi 169 #[.val (.int a), .val (.int b), .val (.int (0 : Int32)), .val (.int (0 : Int32)), .val (.int (if (b &&& (1 : Int32)) = (0 : Int32) then (0 : Int32) else (1 : Int32))), .val (.int (if (b &&& (2 : Int32)) = (0 : Int32) then (0 : Int32) else (1 : Int32))), .val (.int (0 : Int32)), .val (.ref f0), .val (.int (1 : Int32)), .unset] [(.ref f0)])) P
      obtain ⟨cq8, kq8, q8a, q8b, q8c⟩ := isOf hZ e7 E0
      obtain ⟨_, _, ⟨T8, L8, k8, n8⟩, -, X8, ⟨Lc8, hQ8, l8, y8, z8⟩, st8⟩ := X7.virtualBack hx (y := (⟨"com/example/baton/baton/TraceFlags", "bits", "()I"⟩ : MethodName)) (z := (⟨"com/example/baton/baton/TraceFlags", "bits", "()I"⟩ : MethodName)) hown (mvT hZ (hw _ (List.mem_of_getElem? (i := 28) rfl))) (mvT hZ (hw _ (List.mem_of_getElem? (i := 29) rfl))) (notFace_of_selects (args := #[]) (mvT hZ (hw _ (List.mem_of_getElem? (i := 31) rfl)))) (mvT hZ (hw _ (List.mem_of_getElem? (i := 31) rfl))) (mvT hZ (hw _ (List.mem_of_getElem? (i := 30) rfl))) (by decide) (backOf (W := 0) (rmE l Z a0 hw [] f0 (0 : Int32) h0 n0 Z0 F0) hZ (hw _ (List.mem_of_getElem? (i := 32) rfl)) (hw _ (List.mem_of_getElem? (i := 2) rfl)) (by decide) (by decide)) q8a q8c (g := (mkF mi 169 #[.val (.int a), .val (.int b), .val (.int (0 : Int32)), .val (.int (0 : Int32)), .val (.int (if (b &&& (1 : Int32)) = (0 : Int32) then (0 : Int32) else (1 : Int32))), .val (.int (if (b &&& (2 : Int32)) = (0 : Int32) then (0 : Int32) else (1 : Int32))), .val (.int (0 : Int32)), .val (.ref f0), .val (.int (1 : Int32)), .unset] [(.ref f0)])) rfl (by rw [hml]; rfl) (Steps.refl _) (argsL := []) (rest := []) (lenOf pd_2 rfl) rfl (by show 2 * 0 + _ ≤ _; exact Nat.le_of_eq rfl) (hb hby at_169) (fun _ _ => ⟨rfl, e7, (by decide : 0 + 0 ≤ _), (by decide : 0 + 0 ≤ _)⟩)
      dsimp only [Pt.U, Pt.locs, Pt.cells, Pt.slots] at X8 l8 y8 z8 st8 hQ8
      subst l8 y8 z8
      obtain ⟨rfl, N8q, e8⟩ := hQ8
      have N8 := Fr.app N7 N8q
      refine Go.tr st8 ?_
      show Go pg.tables ev below (T8.setTop (mkF mi 172 #[.val (.int a), .val (.int b), .val (.int (0 : Int32)), .val (.int (0 : Int32)), .val (.int (if (b &&& (1 : Int32)) = (0 : Int32) then (0 : Int32) else (1 : Int32))), .val (.int (if (b &&& (2 : Int32)) = (0 : Int32) then (0 : Int32) else (1 : Int32))), .val (.int (0 : Int32)), .val (.ref f0), .val (.int (1 : Int32)), .unset] [(.int (0 : Int32))])) P
      refine Go.st (fun t_ k_ => XS.iload X8.here hx rfl (hb hby at_172) rfl k_) ?_
      show Go pg.tables ev below (T8.setTop (mkF mi 174 #[.val (.int a), .val (.int b), .val (.int (0 : Int32)), .val (.int (0 : Int32)), .val (.int (if (b &&& (1 : Int32)) = (0 : Int32) then (0 : Int32) else (1 : Int32))), .val (.int (if (b &&& (2 : Int32)) = (0 : Int32) then (0 : Int32) else (1 : Int32))), .val (.int (0 : Int32)), .val (.ref f0), .val (.int (1 : Int32)), .unset] [(.int (0 : Int32)), (.int (0 : Int32))])) P
      refine Go.st (fun t_ k_ => XS.icmpNo X8.here hx rfl (hb hby at_174) rfl (teq rfl).2 k_) ?_
      show Go pg.tables ev below (T8.setTop (mkF mi 177 #[.val (.int a), .val (.int b), .val (.int (0 : Int32)), .val (.int (0 : Int32)), .val (.int (if (b &&& (1 : Int32)) = (0 : Int32) then (0 : Int32) else (1 : Int32))), .val (.int (if (b &&& (2 : Int32)) = (0 : Int32) then (0 : Int32) else (1 : Int32))), .val (.int (0 : Int32)), .val (.ref f0), .val (.int (1 : Int32)), .unset] [])) P
      refine Go.st (fun t_ k_ => XS.iconst X8.here hx rfl (hb hby at_177) k_) ?_
      show Go pg.tables ev below (T8.setTop (mkF mi 178 #[.val (.int a), .val (.int b), .val (.int (0 : Int32)), .val (.int (0 : Int32)), .val (.int (if (b &&& (1 : Int32)) = (0 : Int32) then (0 : Int32) else (1 : Int32))), .val (.int (if (b &&& (2 : Int32)) = (0 : Int32) then (0 : Int32) else (1 : Int32))), .val (.int (0 : Int32)), .val (.ref f0), .val (.int (1 : Int32)), .unset] [(.int (1 : Int32))])) P
      refine Go.st (fun t_ k_ => XS.goto X8.here hx rfl (pc0 := 178) (pc' := 182) rfl (hb hby at_178) (by decide) (by decide) k_) ?_
      show Go pg.tables ev below (T8.setTop (mkF mi 182 #[.val (.int a), .val (.int b), .val (.int (0 : Int32)), .val (.int (0 : Int32)), .val (.int (if (b &&& (1 : Int32)) = (0 : Int32) then (0 : Int32) else (1 : Int32))), .val (.int (if (b &&& (2 : Int32)) = (0 : Int32) then (0 : Int32) else (1 : Int32))), .val (.int (0 : Int32)), .val (.ref f0), .val (.int (1 : Int32)), .unset] [(.int (1 : Int32))])) P
      refine Go.st (fun t_ k_ => XS.istore X8.here hx rfl (hb hby at_182) rfl (l' := #[.val (.int a), .val (.int b), .val (.int (0 : Int32)), .val (.int (0 : Int32)), .val (.int (if (b &&& (1 : Int32)) = (0 : Int32) then (0 : Int32) else (1 : Int32))), .val (.int (if (b &&& (2 : Int32)) = (0 : Int32) then (0 : Int32) else (1 : Int32))), .val (.int (0 : Int32)), .val (.ref f0), .val (.int (1 : Int32)), .unset]) rfl k_) ?_
      show Go pg.tables ev below (T8.setTop (mkF mi 184 #[.val (.int a), .val (.int b), .val (.int (0 : Int32)), .val (.int (0 : Int32)), .val (.int (if (b &&& (1 : Int32)) = (0 : Int32) then (0 : Int32) else (1 : Int32))), .val (.int (if (b &&& (2 : Int32)) = (0 : Int32) then (0 : Int32) else (1 : Int32))), .val (.int (0 : Int32)), .val (.ref f0), .val (.int (1 : Int32)), .unset] [])) P
      by_cases hk4 : (b &&& (1 : Int32)) = (0 : Int32)
      · rw [if_pos hk4]
        show Go pg.tables ev below (T8.setTop (mkF mi 184 #[.val (.int a), .val (.int b), .val (.int (0 : Int32)), .val (.int (0 : Int32)), .val (.int (0 : Int32)), .val (.int (if (b &&& (2 : Int32)) = (0 : Int32) then (0 : Int32) else (1 : Int32))), .val (.int (0 : Int32)), .val (.ref f0), .val (.int (1 : Int32)), .unset] [])) P
        by_cases hk5 : (b &&& (2 : Int32)) = (0 : Int32)
        · rw [if_pos hk5]
          show Go pg.tables ev below (T8.setTop (mkF mi 184 #[.val (.int a), .val (.int b), .val (.int (0 : Int32)), .val (.int (0 : Int32)), .val (.int (0 : Int32)), .val (.int (0 : Int32)), .val (.int (0 : Int32)), .val (.ref f0), .val (.int (1 : Int32)), .unset] [])) P
          refine Go.st (fun t_ k_ => XS.iload X8.here hx rfl (hb hby at_184) rfl k_) ?_
          show Go pg.tables ev below (T8.setTop (mkF mi 186 #[.val (.int a), .val (.int b), .val (.int (0 : Int32)), .val (.int (0 : Int32)), .val (.int (0 : Int32)), .val (.int (0 : Int32)), .val (.int (0 : Int32)), .val (.ref f0), .val (.int (1 : Int32)), .unset] [(.int (0 : Int32))])) P
          refine Go.st (fun t_ k_ => XS.iload X8.here hx rfl (hb hby at_186) rfl k_) ?_
          show Go pg.tables ev below (T8.setTop (mkF mi 188 #[.val (.int a), .val (.int b), .val (.int (0 : Int32)), .val (.int (0 : Int32)), .val (.int (0 : Int32)), .val (.int (0 : Int32)), .val (.int (0 : Int32)), .val (.ref f0), .val (.int (1 : Int32)), .unset] [(.int (0 : Int32)), (.int (0 : Int32))])) P
          obtain ⟨_, _, ⟨T9, L9, k9, n9⟩, -, X9, ⟨Lc9, hQ9, l9, y9, z9⟩, st9⟩ := Jvm.LawKit.callS X8 hx (y := (⟨"com/example/baton/baton/TraceFlags", "of", "(ZZ)Lcom/example/baton/baton/TraceFlags;"⟩ : MethodName)) hown (mvT hZ (hw _ (List.mem_of_getElem? (i := 0) rfl))) (mvT hZ (hw _ (List.mem_of_getElem? (i := 1) rfl))) (mvT hZ (hw _ (List.mem_of_getElem? (i := 2) rfl))) (mvT hZ (hw _ (List.mem_of_getElem? (i := 3) rfl))) (by decide) (backOf (W := 0) (rmOf0 l Z a0 hw [] ar ka f0 f1 f2 f3 f5 f7 f8 f10 h0 n0 Z0 S0 A0) hZ (hw _ (List.mem_of_getElem? (i := 3) rfl)) (hw _ (List.mem_of_getElem? (i := 2) rfl)) (by decide) (by decide)) (g := (mkF mi 188 #[.val (.int a), .val (.int b), .val (.int (0 : Int32)), .val (.int (0 : Int32)), .val (.int (0 : Int32)), .val (.int (0 : Int32)), .val (.int (0 : Int32)), .val (.ref f0), .val (.int (1 : Int32)), .unset] [(.int (0 : Int32)), (.int (0 : Int32))])) rfl (by rw [hml]; rfl) (argsL := [(.int (0 : Int32)), (.int (0 : Int32))]) (rest := []) (lenOf pd_0 rfl) rfl (by show 2 * 0 + _ ≤ _; exact Nat.le_of_eq rfl) (hb hby at_188) (fun _ _ => ⟨rfl, e8, (by decide : 0 + 0 ≤ _), (by decide : 0 + 0 ≤ _)⟩)
          dsimp only [Pt.U, Pt.locs, Pt.cells, Pt.slots] at X9 l9 y9 z9 st9 hQ9
          subst l9 y9 z9
          obtain ⟨rfl, N9q, e9⟩ := hQ9
          have N9 := Fr.app N8 N9q
          refine Go.st st9 ?_
          show Go pg.tables ev below (T9.setTop (mkF mi 191 #[.val (.int a), .val (.int b), .val (.int (0 : Int32)), .val (.int (0 : Int32)), .val (.int (0 : Int32)), .val (.int (0 : Int32)), .val (.int (0 : Int32)), .val (.ref f0), .val (.int (1 : Int32)), .unset] [(.ref f0)])) P
          refine Go.st (fun t_ k_ => XS.astore X9.here hx rfl (hb hby at_191) rfl rfl (l' := #[.val (.int a), .val (.int b), .val (.int (0 : Int32)), .val (.int (0 : Int32)), .val (.int (0 : Int32)), .val (.int (0 : Int32)), .val (.int (0 : Int32)), .val (.ref f0), .val (.int (1 : Int32)), .val (.ref f0)]) rfl k_) ?_
          show Go pg.tables ev below (T9.setTop (mkF mi 193 #[.val (.int a), .val (.int b), .val (.int (0 : Int32)), .val (.int (0 : Int32)), .val (.int (0 : Int32)), .val (.int (0 : Int32)), .val (.int (0 : Int32)), .val (.ref f0), .val (.int (1 : Int32)), .val (.ref f0)] [])) P
          refine Go.st (fun t_ k_ => XS.iload X9.here hx rfl (hb hby at_193) rfl k_) ?_
          show Go pg.tables ev below (T9.setTop (mkF mi 195 #[.val (.int a), .val (.int b), .val (.int (0 : Int32)), .val (.int (0 : Int32)), .val (.int (0 : Int32)), .val (.int (0 : Int32)), .val (.int (0 : Int32)), .val (.ref f0), .val (.int (1 : Int32)), .val (.ref f0)] [(.int (1 : Int32))])) P
          refine Go.st (fun t_ k_ => XS.ifNo X9.here hx rfl (hb hby at_195) rfl ((if0 _ _).trans (feq (by decide)).1) k_) ?_
          show Go pg.tables ev below (T9.setTop (mkF mi 198 #[.val (.int a), .val (.int b), .val (.int (0 : Int32)), .val (.int (0 : Int32)), .val (.int (0 : Int32)), .val (.int (0 : Int32)), .val (.int (0 : Int32)), .val (.ref f0), .val (.int (1 : Int32)), .val (.ref f0)] [])) P
          refine Go.st (fun t_ k_ => XS.aload X9.here hx rfl (hb hby at_198) rfl rfl k_) ?_
          show Go pg.tables ev below (T9.setTop (mkF mi 200 #[.val (.int a), .val (.int b), .val (.int (0 : Int32)), .val (.int (0 : Int32)), .val (.int (0 : Int32)), .val (.int (0 : Int32)), .val (.int (0 : Int32)), .val (.ref f0), .val (.int (1 : Int32)), .val (.ref f0)] [(.ref f0)])) P
          refine Go.st (fun t_ k_ => XS.aload X9.here hx rfl (hb hby at_200) rfl rfl k_) ?_
          show Go pg.tables ev below (T9.setTop (mkF mi 202 #[.val (.int a), .val (.int b), .val (.int (0 : Int32)), .val (.int (0 : Int32)), .val (.int (0 : Int32)), .val (.int (0 : Int32)), .val (.int (0 : Int32)), .val (.ref f0), .val (.int (1 : Int32)), .val (.ref f0)] [(.ref f0), (.ref f0)])) P
          refine Go.st (fun t_ k_ => Jvm.RoadKit.acmp (g := (mkF mi 202 #[.val (.int a), .val (.int b), .val (.int (0 : Int32)), .val (.int (0 : Int32)), .val (.int (0 : Int32)), .val (.int (0 : Int32)), .val (.int (0 : Int32)), .val (.ref f0), .val (.int (1 : Int32)), .val (.ref f0)] [(.ref f0), (.ref f0)])) X9 hx rfl rfl rfl (pc0 := 202) (pc' := 205) (same := true) rfl (hb hby at_202) rfl (decide_eq_true rfl) (by decide) (by decide) k_) ?_
          show Go pg.tables ev below (T9.setTop (mkF mi 205 #[.val (.int a), .val (.int b), .val (.int (0 : Int32)), .val (.int (0 : Int32)), .val (.int (0 : Int32)), .val (.int (0 : Int32)), .val (.int (0 : Int32)), .val (.ref f0), .val (.int (1 : Int32)), .val (.ref f0)] [])) P
          refine Go.st (fun t_ k_ => XS.iconst X9.here hx rfl (hb hby at_205) k_) ?_
          show Go pg.tables ev below (T9.setTop (mkF mi 206 #[.val (.int a), .val (.int b), .val (.int (0 : Int32)), .val (.int (0 : Int32)), .val (.int (0 : Int32)), .val (.int (0 : Int32)), .val (.int (0 : Int32)), .val (.ref f0), .val (.int (1 : Int32)), .val (.ref f0)] [(.int (1 : Int32))])) P
          refine Go.st (fun t_ k_ => XS.goto X9.here hx rfl (pc0 := 206) (pc' := 210) rfl (hb hby at_206) (by decide) (by decide) k_) ?_
          show Go pg.tables ev below (T9.setTop (mkF mi 210 #[.val (.int a), .val (.int b), .val (.int (0 : Int32)), .val (.int (0 : Int32)), .val (.int (0 : Int32)), .val (.int (0 : Int32)), .val (.int (0 : Int32)), .val (.ref f0), .val (.int (1 : Int32)), .val (.ref f0)] [(.int (1 : Int32))])) P
          refine Go.st (fun t_ k_ => XS.iloadN X9.here hx rfl (hb hby at_210) rfl k_) ?_
          show Go pg.tables ev below (T9.setTop (mkF mi 211 #[.val (.int a), .val (.int b), .val (.int (0 : Int32)), .val (.int (0 : Int32)), .val (.int (0 : Int32)), .val (.int (0 : Int32)), .val (.int (0 : Int32)), .val (.ref f0), .val (.int (1 : Int32)), .val (.ref f0)] [(.int (0 : Int32)), (.int (1 : Int32))])) P
          refine Go.st (fun t_ k_ => XS.iload X9.here hx rfl (hb hby at_211) rfl k_) ?_
          show Go pg.tables ev below (T9.setTop (mkF mi 213 #[.val (.int a), .val (.int b), .val (.int (0 : Int32)), .val (.int (0 : Int32)), .val (.int (0 : Int32)), .val (.int (0 : Int32)), .val (.int (0 : Int32)), .val (.ref f0), .val (.int (1 : Int32)), .val (.ref f0)] [(.int (0 : Int32)), (.int (0 : Int32)), (.int (1 : Int32))])) P
          refine Go.st (fun t_ k_ => XS.icmpNo X9.here hx rfl (hb hby at_213) rfl (teq rfl).2 k_) ?_
          show Go pg.tables ev below (T9.setTop (mkF mi 216 #[.val (.int a), .val (.int b), .val (.int (0 : Int32)), .val (.int (0 : Int32)), .val (.int (0 : Int32)), .val (.int (0 : Int32)), .val (.int (0 : Int32)), .val (.ref f0), .val (.int (1 : Int32)), .val (.ref f0)] [(.int (1 : Int32))])) P
          refine Go.st (fun t_ k_ => XS.iloadN X9.here hx rfl (hb hby at_216) rfl k_) ?_
          show Go pg.tables ev below (T9.setTop (mkF mi 217 #[.val (.int a), .val (.int b), .val (.int (0 : Int32)), .val (.int (0 : Int32)), .val (.int (0 : Int32)), .val (.int (0 : Int32)), .val (.int (0 : Int32)), .val (.ref f0), .val (.int (1 : Int32)), .val (.ref f0)] [(.int (0 : Int32)), (.int (1 : Int32))])) P
          refine Go.st (fun t_ k_ => XS.iload X9.here hx rfl (hb hby at_217) rfl k_) ?_
          show Go pg.tables ev below (T9.setTop (mkF mi 219 #[.val (.int a), .val (.int b), .val (.int (0 : Int32)), .val (.int (0 : Int32)), .val (.int (0 : Int32)), .val (.int (0 : Int32)), .val (.int (0 : Int32)), .val (.ref f0), .val (.int (1 : Int32)), .val (.ref f0)] [(.int (0 : Int32)), (.int (0 : Int32)), (.int (1 : Int32))])) P
          refine Go.st (fun t_ k_ => XS.icmpNo X9.here hx rfl (hb hby at_219) rfl (teq rfl).2 k_) ?_
          show Go pg.tables ev below (T9.setTop (mkF mi 222 #[.val (.int a), .val (.int b), .val (.int (0 : Int32)), .val (.int (0 : Int32)), .val (.int (0 : Int32)), .val (.int (0 : Int32)), .val (.int (0 : Int32)), .val (.ref f0), .val (.int (1 : Int32)), .val (.ref f0)] [(.int (1 : Int32))])) P
          refine Go.st (fun t_ k_ => XS.iconst X9.here hx rfl (hb hby at_222) k_) ?_
          show Go pg.tables ev below (T9.setTop (mkF mi 223 #[.val (.int a), .val (.int b), .val (.int (0 : Int32)), .val (.int (0 : Int32)), .val (.int (0 : Int32)), .val (.int (0 : Int32)), .val (.int (0 : Int32)), .val (.ref f0), .val (.int (1 : Int32)), .val (.ref f0)] [(.int (1 : Int32)), (.int (1 : Int32))])) P
          refine Go.st (fun t_ k_ => XS.goto X9.here hx rfl (pc0 := 223) (pc' := 227) rfl (hb hby at_223) (by decide) (by decide) k_) ?_
          show Go pg.tables ev below (T9.setTop (mkF mi 227 #[.val (.int a), .val (.int b), .val (.int (0 : Int32)), .val (.int (0 : Int32)), .val (.int (0 : Int32)), .val (.int (0 : Int32)), .val (.int (0 : Int32)), .val (.ref f0), .val (.int (1 : Int32)), .val (.ref f0)] [(.int (1 : Int32)), (.int (1 : Int32))])) P
          refine Go.st (fun t_ k_ => XS.icmpNo X9.here hx rfl (hb hby at_227) rfl (teq rfl).2 k_) ?_
          show Go pg.tables ev below (T9.setTop (mkF mi 230 #[.val (.int a), .val (.int b), .val (.int (0 : Int32)), .val (.int (0 : Int32)), .val (.int (0 : Int32)), .val (.int (0 : Int32)), .val (.int (0 : Int32)), .val (.ref f0), .val (.int (1 : Int32)), .val (.ref f0)] [])) P
          refine Go.st (fun t_ k_ => XS.iconst X9.here hx rfl (hb hby at_230) k_) ?_
          show Go pg.tables ev below (T9.setTop (mkF mi 231 #[.val (.int a), .val (.int b), .val (.int (0 : Int32)), .val (.int (0 : Int32)), .val (.int (0 : Int32)), .val (.int (0 : Int32)), .val (.int (0 : Int32)), .val (.ref f0), .val (.int (1 : Int32)), .val (.ref f0)] [(.int (1 : Int32))])) P
          refine Go.st (fun t_ k_ => XS.goto X9.here hx rfl (pc0 := 231) (pc' := 235) rfl (hb hby at_231) (by decide) (by decide) k_) ?_
          show Go pg.tables ev below (T9.setTop (mkF mi 235 #[.val (.int a), .val (.int b), .val (.int (0 : Int32)), .val (.int (0 : Int32)), .val (.int (0 : Int32)), .val (.int (0 : Int32)), .val (.int (0 : Int32)), .val (.ref f0), .val (.int (1 : Int32)), .val (.ref f0)] [(.int (1 : Int32))])) P
          refine Go.st (fun t_ k_ => XS.istore X9.here hx rfl (hb hby at_235) rfl (l' := #[.val (.int a), .val (.int b), .val (.int (0 : Int32)), .val (.int (0 : Int32)), .val (.int (0 : Int32)), .val (.int (0 : Int32)), .val (.int (0 : Int32)), .val (.ref f0), .val (.int (1 : Int32)), .val (.ref f0)]) rfl k_) ?_
          show Go pg.tables ev below (T9.setTop (mkF mi 237 #[.val (.int a), .val (.int b), .val (.int (0 : Int32)), .val (.int (0 : Int32)), .val (.int (0 : Int32)), .val (.int (0 : Int32)), .val (.int (0 : Int32)), .val (.ref f0), .val (.int (1 : Int32)), .val (.ref f0)] [])) P
          refine Go.st (fun t_ k_ => XS.iload X9.here hx rfl (hb hby at_237) rfl k_) ?_
          show Go pg.tables ev below (T9.setTop (mkF mi 239 #[.val (.int a), .val (.int b), .val (.int (0 : Int32)), .val (.int (0 : Int32)), .val (.int (0 : Int32)), .val (.int (0 : Int32)), .val (.int (0 : Int32)), .val (.ref f0), .val (.int (1 : Int32)), .val (.ref f0)] [(.int (1 : Int32))])) P
          obtain ⟨fs, hr, hrun, hended, hW, hsame⟩ := X9.leave (v := some (.int (1 : Int32))) (fun h => by rw [Bd.returns] at h; cases h) (BodyLoose.notSynchronized Bd)
          refine ⟨_, _, ?_, hP _ _ ⟨hrun, hended, _, _, rfl, ?_, ⟨_, rfl⟩, hW, hsame.mono (by decide) (by decide)⟩⟩
          · exact retN X9 hx (t := .boolean) Bd.returns (by simp) (hb hby at_239) hr
          · show (some (.int (1 : Int32)) : Option Value) = some (.int 1) ∧ Fr n0 _
            exact ⟨rfl, N9⟩
        · rw [if_neg hk5]
          show Go pg.tables ev below (T8.setTop (mkF mi 184 #[.val (.int a), .val (.int b), .val (.int (0 : Int32)), .val (.int (0 : Int32)), .val (.int (0 : Int32)), .val (.int (1 : Int32)), .val (.int (0 : Int32)), .val (.ref f0), .val (.int (1 : Int32)), .unset] [])) P
          refine Go.st (fun t_ k_ => XS.iload X8.here hx rfl (hb hby at_184) rfl k_) ?_
          show Go pg.tables ev below (T8.setTop (mkF mi 186 #[.val (.int a), .val (.int b), .val (.int (0 : Int32)), .val (.int (0 : Int32)), .val (.int (0 : Int32)), .val (.int (1 : Int32)), .val (.int (0 : Int32)), .val (.ref f0), .val (.int (1 : Int32)), .unset] [(.int (0 : Int32))])) P
          refine Go.st (fun t_ k_ => XS.iload X8.here hx rfl (hb hby at_186) rfl k_) ?_
          show Go pg.tables ev below (T8.setTop (mkF mi 188 #[.val (.int a), .val (.int b), .val (.int (0 : Int32)), .val (.int (0 : Int32)), .val (.int (0 : Int32)), .val (.int (1 : Int32)), .val (.int (0 : Int32)), .val (.ref f0), .val (.int (1 : Int32)), .unset] [(.int (1 : Int32)), (.int (0 : Int32))])) P
          obtain ⟨_, _, ⟨T10, L10, k10, n10⟩, -, X10, ⟨Lc10, hQ10, l10, y10, z10⟩, st10⟩ := Jvm.LawKit.callS X8 hx (y := (⟨"com/example/baton/baton/TraceFlags", "of", "(ZZ)Lcom/example/baton/baton/TraceFlags;"⟩ : MethodName)) hown (mvT hZ (hw _ (List.mem_of_getElem? (i := 0) rfl))) (mvT hZ (hw _ (List.mem_of_getElem? (i := 1) rfl))) (mvT hZ (hw _ (List.mem_of_getElem? (i := 2) rfl))) (mvT hZ (hw _ (List.mem_of_getElem? (i := 3) rfl))) (by decide) (backOf (W := 0) (rmOf2 l Z a0 hw [] ar ka f0 f1 f2 f3 f5 f7 f8 f10 h0 n0 Z0 S0 A0) hZ (hw _ (List.mem_of_getElem? (i := 3) rfl)) (hw _ (List.mem_of_getElem? (i := 2) rfl)) (by decide) (by decide)) (g := (mkF mi 188 #[.val (.int a), .val (.int b), .val (.int (0 : Int32)), .val (.int (0 : Int32)), .val (.int (0 : Int32)), .val (.int (1 : Int32)), .val (.int (0 : Int32)), .val (.ref f0), .val (.int (1 : Int32)), .unset] [(.int (1 : Int32)), (.int (0 : Int32))])) rfl (by rw [hml]; rfl) (argsL := [(.int (0 : Int32)), (.int (1 : Int32))]) (rest := []) (lenOf pd_0 rfl) rfl (by show 2 * 0 + _ ≤ _; exact Nat.le_of_eq rfl) (hb hby at_188) (fun _ _ => ⟨rfl, e8, (by decide : 0 + 0 ≤ _), (by decide : 0 + 0 ≤ _)⟩)
          dsimp only [Pt.U, Pt.locs, Pt.cells, Pt.slots] at X10 l10 y10 z10 st10 hQ10
          subst l10 y10 z10
          obtain ⟨rfl, N10q, e10⟩ := hQ10
          have N10 := Fr.app N8 N10q
          refine Go.st st10 ?_
          show Go pg.tables ev below (T10.setTop (mkF mi 191 #[.val (.int a), .val (.int b), .val (.int (0 : Int32)), .val (.int (0 : Int32)), .val (.int (0 : Int32)), .val (.int (1 : Int32)), .val (.int (0 : Int32)), .val (.ref f0), .val (.int (1 : Int32)), .unset] [(.ref f2)])) P
          refine Go.st (fun t_ k_ => XS.astore X10.here hx rfl (hb hby at_191) rfl rfl (l' := #[.val (.int a), .val (.int b), .val (.int (0 : Int32)), .val (.int (0 : Int32)), .val (.int (0 : Int32)), .val (.int (1 : Int32)), .val (.int (0 : Int32)), .val (.ref f0), .val (.int (1 : Int32)), .val (.ref f2)]) rfl k_) ?_
          show Go pg.tables ev below (T10.setTop (mkF mi 193 #[.val (.int a), .val (.int b), .val (.int (0 : Int32)), .val (.int (0 : Int32)), .val (.int (0 : Int32)), .val (.int (1 : Int32)), .val (.int (0 : Int32)), .val (.ref f0), .val (.int (1 : Int32)), .val (.ref f2)] [])) P
          refine Go.st (fun t_ k_ => XS.iload X10.here hx rfl (hb hby at_193) rfl k_) ?_
          show Go pg.tables ev below (T10.setTop (mkF mi 195 #[.val (.int a), .val (.int b), .val (.int (0 : Int32)), .val (.int (0 : Int32)), .val (.int (0 : Int32)), .val (.int (1 : Int32)), .val (.int (0 : Int32)), .val (.ref f0), .val (.int (1 : Int32)), .val (.ref f2)] [(.int (1 : Int32))])) P
          refine Go.st (fun t_ k_ => XS.ifNo X10.here hx rfl (hb hby at_195) rfl ((if0 _ _).trans (feq (by decide)).1) k_) ?_
          show Go pg.tables ev below (T10.setTop (mkF mi 198 #[.val (.int a), .val (.int b), .val (.int (0 : Int32)), .val (.int (0 : Int32)), .val (.int (0 : Int32)), .val (.int (1 : Int32)), .val (.int (0 : Int32)), .val (.ref f0), .val (.int (1 : Int32)), .val (.ref f2)] [])) P
          refine Go.st (fun t_ k_ => XS.aload X10.here hx rfl (hb hby at_198) rfl rfl k_) ?_
          show Go pg.tables ev below (T10.setTop (mkF mi 200 #[.val (.int a), .val (.int b), .val (.int (0 : Int32)), .val (.int (0 : Int32)), .val (.int (0 : Int32)), .val (.int (1 : Int32)), .val (.int (0 : Int32)), .val (.ref f0), .val (.int (1 : Int32)), .val (.ref f2)] [(.ref f0)])) P
          refine Go.st (fun t_ k_ => XS.aload X10.here hx rfl (hb hby at_200) rfl rfl k_) ?_
          show Go pg.tables ev below (T10.setTop (mkF mi 202 #[.val (.int a), .val (.int b), .val (.int (0 : Int32)), .val (.int (0 : Int32)), .val (.int (0 : Int32)), .val (.int (1 : Int32)), .val (.int (0 : Int32)), .val (.ref f0), .val (.int (1 : Int32)), .val (.ref f2)] [(.ref f2), (.ref f0)])) P
          refine Go.st (fun t_ k_ => Jvm.RoadKit.acmp (g := (mkF mi 202 #[.val (.int a), .val (.int b), .val (.int (0 : Int32)), .val (.int (0 : Int32)), .val (.int (0 : Int32)), .val (.int (1 : Int32)), .val (.int (0 : Int32)), .val (.ref f0), .val (.int (1 : Int32)), .val (.ref f2)] [(.ref f2), (.ref f0)])) X10 hx rfl rfl rfl (pc0 := 202) (pc' := 209) (same := false) rfl (hb hby at_202) rfl (decide_eq_false fun q => ne02 (Value.ref.inj q)) (by decide) (by decide) k_) ?_
          show Go pg.tables ev below (T10.setTop (mkF mi 209 #[.val (.int a), .val (.int b), .val (.int (0 : Int32)), .val (.int (0 : Int32)), .val (.int (0 : Int32)), .val (.int (1 : Int32)), .val (.int (0 : Int32)), .val (.ref f0), .val (.int (1 : Int32)), .val (.ref f2)] [])) P
          refine Go.st (fun t_ k_ => XS.iconst X10.here hx rfl (hb hby at_209) k_) ?_
          show Go pg.tables ev below (T10.setTop (mkF mi 210 #[.val (.int a), .val (.int b), .val (.int (0 : Int32)), .val (.int (0 : Int32)), .val (.int (0 : Int32)), .val (.int (1 : Int32)), .val (.int (0 : Int32)), .val (.ref f0), .val (.int (1 : Int32)), .val (.ref f2)] [(.int (0 : Int32))])) P
          refine Go.st (fun t_ k_ => XS.iloadN X10.here hx rfl (hb hby at_210) rfl k_) ?_
          show Go pg.tables ev below (T10.setTop (mkF mi 211 #[.val (.int a), .val (.int b), .val (.int (0 : Int32)), .val (.int (0 : Int32)), .val (.int (0 : Int32)), .val (.int (1 : Int32)), .val (.int (0 : Int32)), .val (.ref f0), .val (.int (1 : Int32)), .val (.ref f2)] [(.int (0 : Int32)), (.int (0 : Int32))])) P
          refine Go.st (fun t_ k_ => XS.iload X10.here hx rfl (hb hby at_211) rfl k_) ?_
          show Go pg.tables ev below (T10.setTop (mkF mi 213 #[.val (.int a), .val (.int b), .val (.int (0 : Int32)), .val (.int (0 : Int32)), .val (.int (0 : Int32)), .val (.int (1 : Int32)), .val (.int (0 : Int32)), .val (.ref f0), .val (.int (1 : Int32)), .val (.ref f2)] [(.int (0 : Int32)), (.int (0 : Int32)), (.int (0 : Int32))])) P
          refine Go.st (fun t_ k_ => XS.icmpNo X10.here hx rfl (hb hby at_213) rfl (teq rfl).2 k_) ?_
          show Go pg.tables ev below (T10.setTop (mkF mi 216 #[.val (.int a), .val (.int b), .val (.int (0 : Int32)), .val (.int (0 : Int32)), .val (.int (0 : Int32)), .val (.int (1 : Int32)), .val (.int (0 : Int32)), .val (.ref f0), .val (.int (1 : Int32)), .val (.ref f2)] [(.int (0 : Int32))])) P
          refine Go.st (fun t_ k_ => XS.iloadN X10.here hx rfl (hb hby at_216) rfl k_) ?_
          show Go pg.tables ev below (T10.setTop (mkF mi 217 #[.val (.int a), .val (.int b), .val (.int (0 : Int32)), .val (.int (0 : Int32)), .val (.int (0 : Int32)), .val (.int (1 : Int32)), .val (.int (0 : Int32)), .val (.ref f0), .val (.int (1 : Int32)), .val (.ref f2)] [(.int (0 : Int32)), (.int (0 : Int32))])) P
          refine Go.st (fun t_ k_ => XS.iload X10.here hx rfl (hb hby at_217) rfl k_) ?_
          show Go pg.tables ev below (T10.setTop (mkF mi 219 #[.val (.int a), .val (.int b), .val (.int (0 : Int32)), .val (.int (0 : Int32)), .val (.int (0 : Int32)), .val (.int (1 : Int32)), .val (.int (0 : Int32)), .val (.ref f0), .val (.int (1 : Int32)), .val (.ref f2)] [(.int (1 : Int32)), (.int (0 : Int32)), (.int (0 : Int32))])) P
          refine Go.st (fun t_ k_ => XS.icmpYes X10.here hx rfl (pc0 := 219) (pc' := 226) rfl (hb hby at_219) rfl (feq (by decide)).2 (by decide) (by decide) k_) ?_
          show Go pg.tables ev below (T10.setTop (mkF mi 226 #[.val (.int a), .val (.int b), .val (.int (0 : Int32)), .val (.int (0 : Int32)), .val (.int (0 : Int32)), .val (.int (1 : Int32)), .val (.int (0 : Int32)), .val (.ref f0), .val (.int (1 : Int32)), .val (.ref f2)] [(.int (0 : Int32))])) P
          refine Go.st (fun t_ k_ => XS.iconst X10.here hx rfl (hb hby at_226) k_) ?_
          show Go pg.tables ev below (T10.setTop (mkF mi 227 #[.val (.int a), .val (.int b), .val (.int (0 : Int32)), .val (.int (0 : Int32)), .val (.int (0 : Int32)), .val (.int (1 : Int32)), .val (.int (0 : Int32)), .val (.ref f0), .val (.int (1 : Int32)), .val (.ref f2)] [(.int (0 : Int32)), (.int (0 : Int32))])) P
          refine Go.st (fun t_ k_ => XS.icmpNo X10.here hx rfl (hb hby at_227) rfl (teq rfl).2 k_) ?_
          show Go pg.tables ev below (T10.setTop (mkF mi 230 #[.val (.int a), .val (.int b), .val (.int (0 : Int32)), .val (.int (0 : Int32)), .val (.int (0 : Int32)), .val (.int (1 : Int32)), .val (.int (0 : Int32)), .val (.ref f0), .val (.int (1 : Int32)), .val (.ref f2)] [])) P
          refine Go.st (fun t_ k_ => XS.iconst X10.here hx rfl (hb hby at_230) k_) ?_
          show Go pg.tables ev below (T10.setTop (mkF mi 231 #[.val (.int a), .val (.int b), .val (.int (0 : Int32)), .val (.int (0 : Int32)), .val (.int (0 : Int32)), .val (.int (1 : Int32)), .val (.int (0 : Int32)), .val (.ref f0), .val (.int (1 : Int32)), .val (.ref f2)] [(.int (1 : Int32))])) P
          refine Go.st (fun t_ k_ => XS.goto X10.here hx rfl (pc0 := 231) (pc' := 235) rfl (hb hby at_231) (by decide) (by decide) k_) ?_
          show Go pg.tables ev below (T10.setTop (mkF mi 235 #[.val (.int a), .val (.int b), .val (.int (0 : Int32)), .val (.int (0 : Int32)), .val (.int (0 : Int32)), .val (.int (1 : Int32)), .val (.int (0 : Int32)), .val (.ref f0), .val (.int (1 : Int32)), .val (.ref f2)] [(.int (1 : Int32))])) P
          refine Go.st (fun t_ k_ => XS.istore X10.here hx rfl (hb hby at_235) rfl (l' := #[.val (.int a), .val (.int b), .val (.int (0 : Int32)), .val (.int (0 : Int32)), .val (.int (0 : Int32)), .val (.int (1 : Int32)), .val (.int (0 : Int32)), .val (.ref f0), .val (.int (1 : Int32)), .val (.ref f2)]) rfl k_) ?_
          show Go pg.tables ev below (T10.setTop (mkF mi 237 #[.val (.int a), .val (.int b), .val (.int (0 : Int32)), .val (.int (0 : Int32)), .val (.int (0 : Int32)), .val (.int (1 : Int32)), .val (.int (0 : Int32)), .val (.ref f0), .val (.int (1 : Int32)), .val (.ref f2)] [])) P
          refine Go.st (fun t_ k_ => XS.iload X10.here hx rfl (hb hby at_237) rfl k_) ?_
          show Go pg.tables ev below (T10.setTop (mkF mi 239 #[.val (.int a), .val (.int b), .val (.int (0 : Int32)), .val (.int (0 : Int32)), .val (.int (0 : Int32)), .val (.int (1 : Int32)), .val (.int (0 : Int32)), .val (.ref f0), .val (.int (1 : Int32)), .val (.ref f2)] [(.int (1 : Int32))])) P
          obtain ⟨fs, hr, hrun, hended, hW, hsame⟩ := X10.leave (v := some (.int (1 : Int32))) (fun h => by rw [Bd.returns] at h; cases h) (BodyLoose.notSynchronized Bd)
          refine ⟨_, _, ?_, hP _ _ ⟨hrun, hended, _, _, rfl, ?_, ⟨_, rfl⟩, hW, hsame.mono (by decide) (by decide)⟩⟩
          · exact retN X10 hx (t := .boolean) Bd.returns (by simp) (hb hby at_239) hr
          · show (some (.int (1 : Int32)) : Option Value) = some (.int 1) ∧ Fr n0 _
            exact ⟨rfl, N10⟩
      · rw [if_neg hk4]
        show Go pg.tables ev below (T8.setTop (mkF mi 184 #[.val (.int a), .val (.int b), .val (.int (0 : Int32)), .val (.int (0 : Int32)), .val (.int (1 : Int32)), .val (.int (if (b &&& (2 : Int32)) = (0 : Int32) then (0 : Int32) else (1 : Int32))), .val (.int (0 : Int32)), .val (.ref f0), .val (.int (1 : Int32)), .unset] [])) P
        by_cases hk5 : (b &&& (2 : Int32)) = (0 : Int32)
        · rw [if_pos hk5]
          show Go pg.tables ev below (T8.setTop (mkF mi 184 #[.val (.int a), .val (.int b), .val (.int (0 : Int32)), .val (.int (0 : Int32)), .val (.int (1 : Int32)), .val (.int (0 : Int32)), .val (.int (0 : Int32)), .val (.ref f0), .val (.int (1 : Int32)), .unset] [])) P
          refine Go.st (fun t_ k_ => XS.iload X8.here hx rfl (hb hby at_184) rfl k_) ?_
          show Go pg.tables ev below (T8.setTop (mkF mi 186 #[.val (.int a), .val (.int b), .val (.int (0 : Int32)), .val (.int (0 : Int32)), .val (.int (1 : Int32)), .val (.int (0 : Int32)), .val (.int (0 : Int32)), .val (.ref f0), .val (.int (1 : Int32)), .unset] [(.int (1 : Int32))])) P
          refine Go.st (fun t_ k_ => XS.iload X8.here hx rfl (hb hby at_186) rfl k_) ?_
          show Go pg.tables ev below (T8.setTop (mkF mi 188 #[.val (.int a), .val (.int b), .val (.int (0 : Int32)), .val (.int (0 : Int32)), .val (.int (1 : Int32)), .val (.int (0 : Int32)), .val (.int (0 : Int32)), .val (.ref f0), .val (.int (1 : Int32)), .unset] [(.int (0 : Int32)), (.int (1 : Int32))])) P
          obtain ⟨_, _, ⟨T11, L11, k11, n11⟩, -, X11, ⟨Lc11, hQ11, l11, y11, z11⟩, st11⟩ := Jvm.LawKit.callS X8 hx (y := (⟨"com/example/baton/baton/TraceFlags", "of", "(ZZ)Lcom/example/baton/baton/TraceFlags;"⟩ : MethodName)) hown (mvT hZ (hw _ (List.mem_of_getElem? (i := 0) rfl))) (mvT hZ (hw _ (List.mem_of_getElem? (i := 1) rfl))) (mvT hZ (hw _ (List.mem_of_getElem? (i := 2) rfl))) (mvT hZ (hw _ (List.mem_of_getElem? (i := 3) rfl))) (by decide) (backOf (W := 0) (rmOf1 l Z a0 hw [] ar ka f0 f1 f2 f3 f5 f7 f8 f10 h0 n0 Z0 S0 A0) hZ (hw _ (List.mem_of_getElem? (i := 3) rfl)) (hw _ (List.mem_of_getElem? (i := 2) rfl)) (by decide) (by decide)) (g := (mkF mi 188 #[.val (.int a), .val (.int b), .val (.int (0 : Int32)), .val (.int (0 : Int32)), .val (.int (1 : Int32)), .val (.int (0 : Int32)), .val (.int (0 : Int32)), .val (.ref f0), .val (.int (1 : Int32)), .unset] [(.int (0 : Int32)), (.int (1 : Int32))])) rfl (by rw [hml]; rfl) (argsL := [(.int (1 : Int32)), (.int (0 : Int32))]) (rest := []) (lenOf pd_0 rfl) rfl (by show 2 * 0 + _ ≤ _; exact Nat.le_of_eq rfl) (hb hby at_188) (fun _ _ => ⟨rfl, e8, (by decide : 0 + 0 ≤ _), (by decide : 0 + 0 ≤ _)⟩)
          dsimp only [Pt.U, Pt.locs, Pt.cells, Pt.slots] at X11 l11 y11 z11 st11 hQ11
          subst l11 y11 z11
          obtain ⟨rfl, N11q, e11⟩ := hQ11
          have N11 := Fr.app N8 N11q
          refine Go.st st11 ?_
          show Go pg.tables ev below (T11.setTop (mkF mi 191 #[.val (.int a), .val (.int b), .val (.int (0 : Int32)), .val (.int (0 : Int32)), .val (.int (1 : Int32)), .val (.int (0 : Int32)), .val (.int (0 : Int32)), .val (.ref f0), .val (.int (1 : Int32)), .unset] [(.ref f1)])) P
          refine Go.st (fun t_ k_ => XS.astore X11.here hx rfl (hb hby at_191) rfl rfl (l' := #[.val (.int a), .val (.int b), .val (.int (0 : Int32)), .val (.int (0 : Int32)), .val (.int (1 : Int32)), .val (.int (0 : Int32)), .val (.int (0 : Int32)), .val (.ref f0), .val (.int (1 : Int32)), .val (.ref f1)]) rfl k_) ?_
          show Go pg.tables ev below (T11.setTop (mkF mi 193 #[.val (.int a), .val (.int b), .val (.int (0 : Int32)), .val (.int (0 : Int32)), .val (.int (1 : Int32)), .val (.int (0 : Int32)), .val (.int (0 : Int32)), .val (.ref f0), .val (.int (1 : Int32)), .val (.ref f1)] [])) P
          refine Go.st (fun t_ k_ => XS.iload X11.here hx rfl (hb hby at_193) rfl k_) ?_
          show Go pg.tables ev below (T11.setTop (mkF mi 195 #[.val (.int a), .val (.int b), .val (.int (0 : Int32)), .val (.int (0 : Int32)), .val (.int (1 : Int32)), .val (.int (0 : Int32)), .val (.int (0 : Int32)), .val (.ref f0), .val (.int (1 : Int32)), .val (.ref f1)] [(.int (1 : Int32))])) P
          refine Go.st (fun t_ k_ => XS.ifNo X11.here hx rfl (hb hby at_195) rfl ((if0 _ _).trans (feq (by decide)).1) k_) ?_
          show Go pg.tables ev below (T11.setTop (mkF mi 198 #[.val (.int a), .val (.int b), .val (.int (0 : Int32)), .val (.int (0 : Int32)), .val (.int (1 : Int32)), .val (.int (0 : Int32)), .val (.int (0 : Int32)), .val (.ref f0), .val (.int (1 : Int32)), .val (.ref f1)] [])) P
          refine Go.st (fun t_ k_ => XS.aload X11.here hx rfl (hb hby at_198) rfl rfl k_) ?_
          show Go pg.tables ev below (T11.setTop (mkF mi 200 #[.val (.int a), .val (.int b), .val (.int (0 : Int32)), .val (.int (0 : Int32)), .val (.int (1 : Int32)), .val (.int (0 : Int32)), .val (.int (0 : Int32)), .val (.ref f0), .val (.int (1 : Int32)), .val (.ref f1)] [(.ref f0)])) P
          refine Go.st (fun t_ k_ => XS.aload X11.here hx rfl (hb hby at_200) rfl rfl k_) ?_
          show Go pg.tables ev below (T11.setTop (mkF mi 202 #[.val (.int a), .val (.int b), .val (.int (0 : Int32)), .val (.int (0 : Int32)), .val (.int (1 : Int32)), .val (.int (0 : Int32)), .val (.int (0 : Int32)), .val (.ref f0), .val (.int (1 : Int32)), .val (.ref f1)] [(.ref f1), (.ref f0)])) P
          refine Go.st (fun t_ k_ => Jvm.RoadKit.acmp (g := (mkF mi 202 #[.val (.int a), .val (.int b), .val (.int (0 : Int32)), .val (.int (0 : Int32)), .val (.int (1 : Int32)), .val (.int (0 : Int32)), .val (.int (0 : Int32)), .val (.ref f0), .val (.int (1 : Int32)), .val (.ref f1)] [(.ref f1), (.ref f0)])) X11 hx rfl rfl rfl (pc0 := 202) (pc' := 209) (same := false) rfl (hb hby at_202) rfl (decide_eq_false fun q => ne01 (Value.ref.inj q)) (by decide) (by decide) k_) ?_
          show Go pg.tables ev below (T11.setTop (mkF mi 209 #[.val (.int a), .val (.int b), .val (.int (0 : Int32)), .val (.int (0 : Int32)), .val (.int (1 : Int32)), .val (.int (0 : Int32)), .val (.int (0 : Int32)), .val (.ref f0), .val (.int (1 : Int32)), .val (.ref f1)] [])) P
          refine Go.st (fun t_ k_ => XS.iconst X11.here hx rfl (hb hby at_209) k_) ?_
          show Go pg.tables ev below (T11.setTop (mkF mi 210 #[.val (.int a), .val (.int b), .val (.int (0 : Int32)), .val (.int (0 : Int32)), .val (.int (1 : Int32)), .val (.int (0 : Int32)), .val (.int (0 : Int32)), .val (.ref f0), .val (.int (1 : Int32)), .val (.ref f1)] [(.int (0 : Int32))])) P
          refine Go.st (fun t_ k_ => XS.iloadN X11.here hx rfl (hb hby at_210) rfl k_) ?_
          show Go pg.tables ev below (T11.setTop (mkF mi 211 #[.val (.int a), .val (.int b), .val (.int (0 : Int32)), .val (.int (0 : Int32)), .val (.int (1 : Int32)), .val (.int (0 : Int32)), .val (.int (0 : Int32)), .val (.ref f0), .val (.int (1 : Int32)), .val (.ref f1)] [(.int (0 : Int32)), (.int (0 : Int32))])) P
          refine Go.st (fun t_ k_ => XS.iload X11.here hx rfl (hb hby at_211) rfl k_) ?_
          show Go pg.tables ev below (T11.setTop (mkF mi 213 #[.val (.int a), .val (.int b), .val (.int (0 : Int32)), .val (.int (0 : Int32)), .val (.int (1 : Int32)), .val (.int (0 : Int32)), .val (.int (0 : Int32)), .val (.ref f0), .val (.int (1 : Int32)), .val (.ref f1)] [(.int (1 : Int32)), (.int (0 : Int32)), (.int (0 : Int32))])) P
          refine Go.st (fun t_ k_ => XS.icmpYes X11.here hx rfl (pc0 := 213) (pc' := 226) rfl (hb hby at_213) rfl (feq (by decide)).2 (by decide) (by decide) k_) ?_
          show Go pg.tables ev below (T11.setTop (mkF mi 226 #[.val (.int a), .val (.int b), .val (.int (0 : Int32)), .val (.int (0 : Int32)), .val (.int (1 : Int32)), .val (.int (0 : Int32)), .val (.int (0 : Int32)), .val (.ref f0), .val (.int (1 : Int32)), .val (.ref f1)] [(.int (0 : Int32))])) P
          refine Go.st (fun t_ k_ => XS.iconst X11.here hx rfl (hb hby at_226) k_) ?_
          show Go pg.tables ev below (T11.setTop (mkF mi 227 #[.val (.int a), .val (.int b), .val (.int (0 : Int32)), .val (.int (0 : Int32)), .val (.int (1 : Int32)), .val (.int (0 : Int32)), .val (.int (0 : Int32)), .val (.ref f0), .val (.int (1 : Int32)), .val (.ref f1)] [(.int (0 : Int32)), (.int (0 : Int32))])) P
          refine Go.st (fun t_ k_ => XS.icmpNo X11.here hx rfl (hb hby at_227) rfl (teq rfl).2 k_) ?_
          show Go pg.tables ev below (T11.setTop (mkF mi 230 #[.val (.int a), .val (.int b), .val (.int (0 : Int32)), .val (.int (0 : Int32)), .val (.int (1 : Int32)), .val (.int (0 : Int32)), .val (.int (0 : Int32)), .val (.ref f0), .val (.int (1 : Int32)), .val (.ref f1)] [])) P
          refine Go.st (fun t_ k_ => XS.iconst X11.here hx rfl (hb hby at_230) k_) ?_
          show Go pg.tables ev below (T11.setTop (mkF mi 231 #[.val (.int a), .val (.int b), .val (.int (0 : Int32)), .val (.int (0 : Int32)), .val (.int (1 : Int32)), .val (.int (0 : Int32)), .val (.int (0 : Int32)), .val (.ref f0), .val (.int (1 : Int32)), .val (.ref f1)] [(.int (1 : Int32))])) P
          refine Go.st (fun t_ k_ => XS.goto X11.here hx rfl (pc0 := 231) (pc' := 235) rfl (hb hby at_231) (by decide) (by decide) k_) ?_
          show Go pg.tables ev below (T11.setTop (mkF mi 235 #[.val (.int a), .val (.int b), .val (.int (0 : Int32)), .val (.int (0 : Int32)), .val (.int (1 : Int32)), .val (.int (0 : Int32)), .val (.int (0 : Int32)), .val (.ref f0), .val (.int (1 : Int32)), .val (.ref f1)] [(.int (1 : Int32))])) P
          refine Go.st (fun t_ k_ => XS.istore X11.here hx rfl (hb hby at_235) rfl (l' := #[.val (.int a), .val (.int b), .val (.int (0 : Int32)), .val (.int (0 : Int32)), .val (.int (1 : Int32)), .val (.int (0 : Int32)), .val (.int (0 : Int32)), .val (.ref f0), .val (.int (1 : Int32)), .val (.ref f1)]) rfl k_) ?_
          show Go pg.tables ev below (T11.setTop (mkF mi 237 #[.val (.int a), .val (.int b), .val (.int (0 : Int32)), .val (.int (0 : Int32)), .val (.int (1 : Int32)), .val (.int (0 : Int32)), .val (.int (0 : Int32)), .val (.ref f0), .val (.int (1 : Int32)), .val (.ref f1)] [])) P
          refine Go.st (fun t_ k_ => XS.iload X11.here hx rfl (hb hby at_237) rfl k_) ?_
          show Go pg.tables ev below (T11.setTop (mkF mi 239 #[.val (.int a), .val (.int b), .val (.int (0 : Int32)), .val (.int (0 : Int32)), .val (.int (1 : Int32)), .val (.int (0 : Int32)), .val (.int (0 : Int32)), .val (.ref f0), .val (.int (1 : Int32)), .val (.ref f1)] [(.int (1 : Int32))])) P
          obtain ⟨fs, hr, hrun, hended, hW, hsame⟩ := X11.leave (v := some (.int (1 : Int32))) (fun h => by rw [Bd.returns] at h; cases h) (BodyLoose.notSynchronized Bd)
          refine ⟨_, _, ?_, hP _ _ ⟨hrun, hended, _, _, rfl, ?_, ⟨_, rfl⟩, hW, hsame.mono (by decide) (by decide)⟩⟩
          · exact retN X11 hx (t := .boolean) Bd.returns (by simp) (hb hby at_239) hr
          · show (some (.int (1 : Int32)) : Option Value) = some (.int 1) ∧ Fr n0 _
            exact ⟨rfl, N11⟩
        · rw [if_neg hk5]
          show Go pg.tables ev below (T8.setTop (mkF mi 184 #[.val (.int a), .val (.int b), .val (.int (0 : Int32)), .val (.int (0 : Int32)), .val (.int (1 : Int32)), .val (.int (1 : Int32)), .val (.int (0 : Int32)), .val (.ref f0), .val (.int (1 : Int32)), .unset] [])) P
          refine Go.st (fun t_ k_ => XS.iload X8.here hx rfl (hb hby at_184) rfl k_) ?_
          show Go pg.tables ev below (T8.setTop (mkF mi 186 #[.val (.int a), .val (.int b), .val (.int (0 : Int32)), .val (.int (0 : Int32)), .val (.int (1 : Int32)), .val (.int (1 : Int32)), .val (.int (0 : Int32)), .val (.ref f0), .val (.int (1 : Int32)), .unset] [(.int (1 : Int32))])) P
          refine Go.st (fun t_ k_ => XS.iload X8.here hx rfl (hb hby at_186) rfl k_) ?_
          show Go pg.tables ev below (T8.setTop (mkF mi 188 #[.val (.int a), .val (.int b), .val (.int (0 : Int32)), .val (.int (0 : Int32)), .val (.int (1 : Int32)), .val (.int (1 : Int32)), .val (.int (0 : Int32)), .val (.ref f0), .val (.int (1 : Int32)), .unset] [(.int (1 : Int32)), (.int (1 : Int32))])) P
          obtain ⟨_, _, ⟨T12, L12, k12, n12⟩, -, X12, ⟨Lc12, hQ12, l12, y12, z12⟩, st12⟩ := Jvm.LawKit.callS X8 hx (y := (⟨"com/example/baton/baton/TraceFlags", "of", "(ZZ)Lcom/example/baton/baton/TraceFlags;"⟩ : MethodName)) hown (mvT hZ (hw _ (List.mem_of_getElem? (i := 0) rfl))) (mvT hZ (hw _ (List.mem_of_getElem? (i := 1) rfl))) (mvT hZ (hw _ (List.mem_of_getElem? (i := 2) rfl))) (mvT hZ (hw _ (List.mem_of_getElem? (i := 3) rfl))) (by decide) (backOf (W := 0) (rmOf3 l Z a0 hw [] ar ka f0 f1 f2 f3 f5 f7 f8 f10 h0 n0 Z0 S0 A0) hZ (hw _ (List.mem_of_getElem? (i := 3) rfl)) (hw _ (List.mem_of_getElem? (i := 2) rfl)) (by decide) (by decide)) (g := (mkF mi 188 #[.val (.int a), .val (.int b), .val (.int (0 : Int32)), .val (.int (0 : Int32)), .val (.int (1 : Int32)), .val (.int (1 : Int32)), .val (.int (0 : Int32)), .val (.ref f0), .val (.int (1 : Int32)), .unset] [(.int (1 : Int32)), (.int (1 : Int32))])) rfl (by rw [hml]; rfl) (argsL := [(.int (1 : Int32)), (.int (1 : Int32))]) (rest := []) (lenOf pd_0 rfl) rfl (by show 2 * 0 + _ ≤ _; exact Nat.le_of_eq rfl) (hb hby at_188) (fun _ _ => ⟨rfl, e8, (by decide : 0 + 0 ≤ _), (by decide : 0 + 0 ≤ _)⟩)
          dsimp only [Pt.U, Pt.locs, Pt.cells, Pt.slots] at X12 l12 y12 z12 st12 hQ12
          subst l12 y12 z12
          obtain ⟨rfl, N12q, e12⟩ := hQ12
          have N12 := Fr.app N8 N12q
          refine Go.st st12 ?_
          show Go pg.tables ev below (T12.setTop (mkF mi 191 #[.val (.int a), .val (.int b), .val (.int (0 : Int32)), .val (.int (0 : Int32)), .val (.int (1 : Int32)), .val (.int (1 : Int32)), .val (.int (0 : Int32)), .val (.ref f0), .val (.int (1 : Int32)), .unset] [(.ref f3)])) P
          refine Go.st (fun t_ k_ => XS.astore X12.here hx rfl (hb hby at_191) rfl rfl (l' := #[.val (.int a), .val (.int b), .val (.int (0 : Int32)), .val (.int (0 : Int32)), .val (.int (1 : Int32)), .val (.int (1 : Int32)), .val (.int (0 : Int32)), .val (.ref f0), .val (.int (1 : Int32)), .val (.ref f3)]) rfl k_) ?_
          show Go pg.tables ev below (T12.setTop (mkF mi 193 #[.val (.int a), .val (.int b), .val (.int (0 : Int32)), .val (.int (0 : Int32)), .val (.int (1 : Int32)), .val (.int (1 : Int32)), .val (.int (0 : Int32)), .val (.ref f0), .val (.int (1 : Int32)), .val (.ref f3)] [])) P
          refine Go.st (fun t_ k_ => XS.iload X12.here hx rfl (hb hby at_193) rfl k_) ?_
          show Go pg.tables ev below (T12.setTop (mkF mi 195 #[.val (.int a), .val (.int b), .val (.int (0 : Int32)), .val (.int (0 : Int32)), .val (.int (1 : Int32)), .val (.int (1 : Int32)), .val (.int (0 : Int32)), .val (.ref f0), .val (.int (1 : Int32)), .val (.ref f3)] [(.int (1 : Int32))])) P
          refine Go.st (fun t_ k_ => XS.ifNo X12.here hx rfl (hb hby at_195) rfl ((if0 _ _).trans (feq (by decide)).1) k_) ?_
          show Go pg.tables ev below (T12.setTop (mkF mi 198 #[.val (.int a), .val (.int b), .val (.int (0 : Int32)), .val (.int (0 : Int32)), .val (.int (1 : Int32)), .val (.int (1 : Int32)), .val (.int (0 : Int32)), .val (.ref f0), .val (.int (1 : Int32)), .val (.ref f3)] [])) P
          refine Go.st (fun t_ k_ => XS.aload X12.here hx rfl (hb hby at_198) rfl rfl k_) ?_
          show Go pg.tables ev below (T12.setTop (mkF mi 200 #[.val (.int a), .val (.int b), .val (.int (0 : Int32)), .val (.int (0 : Int32)), .val (.int (1 : Int32)), .val (.int (1 : Int32)), .val (.int (0 : Int32)), .val (.ref f0), .val (.int (1 : Int32)), .val (.ref f3)] [(.ref f0)])) P
          refine Go.st (fun t_ k_ => XS.aload X12.here hx rfl (hb hby at_200) rfl rfl k_) ?_
          show Go pg.tables ev below (T12.setTop (mkF mi 202 #[.val (.int a), .val (.int b), .val (.int (0 : Int32)), .val (.int (0 : Int32)), .val (.int (1 : Int32)), .val (.int (1 : Int32)), .val (.int (0 : Int32)), .val (.ref f0), .val (.int (1 : Int32)), .val (.ref f3)] [(.ref f3), (.ref f0)])) P
          refine Go.st (fun t_ k_ => Jvm.RoadKit.acmp (g := (mkF mi 202 #[.val (.int a), .val (.int b), .val (.int (0 : Int32)), .val (.int (0 : Int32)), .val (.int (1 : Int32)), .val (.int (1 : Int32)), .val (.int (0 : Int32)), .val (.ref f0), .val (.int (1 : Int32)), .val (.ref f3)] [(.ref f3), (.ref f0)])) X12 hx rfl rfl rfl (pc0 := 202) (pc' := 209) (same := false) rfl (hb hby at_202) rfl (decide_eq_false fun q => ne03 (Value.ref.inj q)) (by decide) (by decide) k_) ?_
          show Go pg.tables ev below (T12.setTop (mkF mi 209 #[.val (.int a), .val (.int b), .val (.int (0 : Int32)), .val (.int (0 : Int32)), .val (.int (1 : Int32)), .val (.int (1 : Int32)), .val (.int (0 : Int32)), .val (.ref f0), .val (.int (1 : Int32)), .val (.ref f3)] [])) P
          refine Go.st (fun t_ k_ => XS.iconst X12.here hx rfl (hb hby at_209) k_) ?_
          show Go pg.tables ev below (T12.setTop (mkF mi 210 #[.val (.int a), .val (.int b), .val (.int (0 : Int32)), .val (.int (0 : Int32)), .val (.int (1 : Int32)), .val (.int (1 : Int32)), .val (.int (0 : Int32)), .val (.ref f0), .val (.int (1 : Int32)), .val (.ref f3)] [(.int (0 : Int32))])) P
          refine Go.st (fun t_ k_ => XS.iloadN X12.here hx rfl (hb hby at_210) rfl k_) ?_
          show Go pg.tables ev below (T12.setTop (mkF mi 211 #[.val (.int a), .val (.int b), .val (.int (0 : Int32)), .val (.int (0 : Int32)), .val (.int (1 : Int32)), .val (.int (1 : Int32)), .val (.int (0 : Int32)), .val (.ref f0), .val (.int (1 : Int32)), .val (.ref f3)] [(.int (0 : Int32)), (.int (0 : Int32))])) P
          refine Go.st (fun t_ k_ => XS.iload X12.here hx rfl (hb hby at_211) rfl k_) ?_
          show Go pg.tables ev below (T12.setTop (mkF mi 213 #[.val (.int a), .val (.int b), .val (.int (0 : Int32)), .val (.int (0 : Int32)), .val (.int (1 : Int32)), .val (.int (1 : Int32)), .val (.int (0 : Int32)), .val (.ref f0), .val (.int (1 : Int32)), .val (.ref f3)] [(.int (1 : Int32)), (.int (0 : Int32)), (.int (0 : Int32))])) P
          refine Go.st (fun t_ k_ => XS.icmpYes X12.here hx rfl (pc0 := 213) (pc' := 226) rfl (hb hby at_213) rfl (feq (by decide)).2 (by decide) (by decide) k_) ?_
          show Go pg.tables ev below (T12.setTop (mkF mi 226 #[.val (.int a), .val (.int b), .val (.int (0 : Int32)), .val (.int (0 : Int32)), .val (.int (1 : Int32)), .val (.int (1 : Int32)), .val (.int (0 : Int32)), .val (.ref f0), .val (.int (1 : Int32)), .val (.ref f3)] [(.int (0 : Int32))])) P
          refine Go.st (fun t_ k_ => XS.iconst X12.here hx rfl (hb hby at_226) k_) ?_
          show Go pg.tables ev below (T12.setTop (mkF mi 227 #[.val (.int a), .val (.int b), .val (.int (0 : Int32)), .val (.int (0 : Int32)), .val (.int (1 : Int32)), .val (.int (1 : Int32)), .val (.int (0 : Int32)), .val (.ref f0), .val (.int (1 : Int32)), .val (.ref f3)] [(.int (0 : Int32)), (.int (0 : Int32))])) P
          refine Go.st (fun t_ k_ => XS.icmpNo X12.here hx rfl (hb hby at_227) rfl (teq rfl).2 k_) ?_
          show Go pg.tables ev below (T12.setTop (mkF mi 230 #[.val (.int a), .val (.int b), .val (.int (0 : Int32)), .val (.int (0 : Int32)), .val (.int (1 : Int32)), .val (.int (1 : Int32)), .val (.int (0 : Int32)), .val (.ref f0), .val (.int (1 : Int32)), .val (.ref f3)] [])) P
          refine Go.st (fun t_ k_ => XS.iconst X12.here hx rfl (hb hby at_230) k_) ?_
          show Go pg.tables ev below (T12.setTop (mkF mi 231 #[.val (.int a), .val (.int b), .val (.int (0 : Int32)), .val (.int (0 : Int32)), .val (.int (1 : Int32)), .val (.int (1 : Int32)), .val (.int (0 : Int32)), .val (.ref f0), .val (.int (1 : Int32)), .val (.ref f3)] [(.int (1 : Int32))])) P
          refine Go.st (fun t_ k_ => XS.goto X12.here hx rfl (pc0 := 231) (pc' := 235) rfl (hb hby at_231) (by decide) (by decide) k_) ?_
          show Go pg.tables ev below (T12.setTop (mkF mi 235 #[.val (.int a), .val (.int b), .val (.int (0 : Int32)), .val (.int (0 : Int32)), .val (.int (1 : Int32)), .val (.int (1 : Int32)), .val (.int (0 : Int32)), .val (.ref f0), .val (.int (1 : Int32)), .val (.ref f3)] [(.int (1 : Int32))])) P
          refine Go.st (fun t_ k_ => XS.istore X12.here hx rfl (hb hby at_235) rfl (l' := #[.val (.int a), .val (.int b), .val (.int (0 : Int32)), .val (.int (0 : Int32)), .val (.int (1 : Int32)), .val (.int (1 : Int32)), .val (.int (0 : Int32)), .val (.ref f0), .val (.int (1 : Int32)), .val (.ref f3)]) rfl k_) ?_
          show Go pg.tables ev below (T12.setTop (mkF mi 237 #[.val (.int a), .val (.int b), .val (.int (0 : Int32)), .val (.int (0 : Int32)), .val (.int (1 : Int32)), .val (.int (1 : Int32)), .val (.int (0 : Int32)), .val (.ref f0), .val (.int (1 : Int32)), .val (.ref f3)] [])) P
          refine Go.st (fun t_ k_ => XS.iload X12.here hx rfl (hb hby at_237) rfl k_) ?_
          show Go pg.tables ev below (T12.setTop (mkF mi 239 #[.val (.int a), .val (.int b), .val (.int (0 : Int32)), .val (.int (0 : Int32)), .val (.int (1 : Int32)), .val (.int (1 : Int32)), .val (.int (0 : Int32)), .val (.ref f0), .val (.int (1 : Int32)), .val (.ref f3)] [(.int (1 : Int32))])) P
          obtain ⟨fs, hr, hrun, hended, hW, hsame⟩ := X12.leave (v := some (.int (1 : Int32))) (fun h => by rw [Bd.returns] at h; cases h) (BodyLoose.notSynchronized Bd)
          refine ⟨_, _, ?_, hP _ _ ⟨hrun, hended, _, _, rfl, ?_, ⟨_, rfl⟩, hW, hsame.mono (by decide) (by decide)⟩⟩
          · exact retN X12 hx (t := .boolean) Bd.returns (by simp) (hb hby at_239) hr
          · show (some (.int (1 : Int32)) : Option Value) = some (.int 1) ∧ Fr n0 _
            exact ⟨rfl, N12⟩
    · refine Go.st (fun t_ k_ => XS.ifNo X0.here hx rfl (hb hby at_15) rfl ((if0 _ _).trans (feq hc15_2).1) k_) ?_
      show Go pg.tables ev below (s₁.setTop (mkF mi 18 #[.val (.int a), .val (.int b), .val (.int (0 : Int32)), .unset, .unset, .unset, .unset, .unset, .unset, .unset] [])) P
      refine Go.st (fun t_ k_ => XS.iconst X0.here hx rfl (hb hby at_18) k_) ?_
      show Go pg.tables ev below (s₁.setTop (mkF mi 19 #[.val (.int a), .val (.int b), .val (.int (0 : Int32)), .unset, .unset, .unset, .unset, .unset, .unset, .unset] [(.int (1 : Int32))])) P
      refine Go.st (fun t_ k_ => XS.goto X0.here hx rfl (pc0 := 19) (pc' := 23) rfl (hb hby at_19) (by decide) (by decide) k_) ?_
      show Go pg.tables ev below (s₁.setTop (mkF mi 23 #[.val (.int a), .val (.int b), .val (.int (0 : Int32)), .unset, .unset, .unset, .unset, .unset, .unset, .unset] [(.int (1 : Int32))])) P
      refine Go.st (fun t_ k_ => XS.istoreN X0.here hx rfl (hb hby at_23) rfl (l' := #[.val (.int a), .val (.int b), .val (.int (0 : Int32)), .val (.int (1 : Int32)), .unset, .unset, .unset, .unset, .unset, .unset]) rfl k_) ?_
      show Go pg.tables ev below (s₁.setTop (mkF mi 24 #[.val (.int a), .val (.int b), .val (.int (0 : Int32)), .val (.int (1 : Int32)), .unset, .unset, .unset, .unset, .unset, .unset] [])) P
      refine Go.st (fun t_ k_ => XS.iloadN X0.here hx rfl (hb hby at_24) rfl k_) ?_
      show Go pg.tables ev below (s₁.setTop (mkF mi 25 #[.val (.int a), .val (.int b), .val (.int (0 : Int32)), .val (.int (1 : Int32)), .unset, .unset, .unset, .unset, .unset, .unset] [(.int b)])) P
      refine Go.st (fun t_ k_ => XS.iconst X0.here hx rfl (hb hby at_25) k_) ?_
      show Go pg.tables ev below (s₁.setTop (mkF mi 26 #[.val (.int a), .val (.int b), .val (.int (0 : Int32)), .val (.int (1 : Int32)), .unset, .unset, .unset, .unset, .unset, .unset] [(.int (1 : Int32)), (.int b)])) P
      refine Go.st (fun t_ k_ => XS.iand X0.here hx rfl (hb hby at_26) rfl k_) ?_
      show Go pg.tables ev below (s₁.setTop (mkF mi 27 #[.val (.int a), .val (.int b), .val (.int (0 : Int32)), .val (.int (1 : Int32)), .unset, .unset, .unset, .unset, .unset, .unset] [(.int (b &&& (1 : Int32)))])) P
      have dm13 : ∀ t_, Steps pg.tables ev below (s₁.setTop (mkF mi 35 #[.val (.int a), .val (.int b), .val (.int (0 : Int32)), .val (.int (1 : Int32)), .unset, .unset, .unset, .unset, .unset, .unset] [(.int (if (b &&& (1 : Int32)) = (0 : Int32) then (0 : Int32) else (1 : Int32)))])) t_ → Steps pg.tables ev below (s₁.setTop (mkF mi 27 #[.val (.int a), .val (.int b), .val (.int (0 : Int32)), .val (.int (1 : Int32)), .unset, .unset, .unset, .unset, .unset, .unset] [(.int (b &&& (1 : Int32)))])) t_ := by
        intro t_ k_
        by_cases hd : (b &&& (1 : Int32)) = (0 : Int32)
        · refine XS.ifYes X0.here hx rfl (pc0 := 27) (pc' := 34) rfl (hb hby at_27) rfl ((if0 _ _).trans (teq hd).1) (by decide) (by decide) ?_
          show Steps pg.tables ev below (s₁.setTop (mkF mi 34 #[.val (.int a), .val (.int b), .val (.int (0 : Int32)), .val (.int (1 : Int32)), .unset, .unset, .unset, .unset, .unset, .unset] [])) t_
          refine XS.iconst X0.here hx rfl (hb hby at_34) ?_
          show Steps pg.tables ev below (s₁.setTop (mkF mi 35 #[.val (.int a), .val (.int b), .val (.int (0 : Int32)), .val (.int (1 : Int32)), .unset, .unset, .unset, .unset, .unset, .unset] [(.int (0 : Int32))])) t_
          exact own_cst (if_pos hd) k_
        · refine XS.ifNo X0.here hx rfl (hb hby at_27) rfl ((if0 _ _).trans (feq hd).1) ?_
          show Steps pg.tables ev below (s₁.setTop (mkF mi 30 #[.val (.int a), .val (.int b), .val (.int (0 : Int32)), .val (.int (1 : Int32)), .unset, .unset, .unset, .unset, .unset, .unset] [])) t_
          refine XS.iconst X0.here hx rfl (hb hby at_30) ?_
          show Steps pg.tables ev below (s₁.setTop (mkF mi 31 #[.val (.int a), .val (.int b), .val (.int (0 : Int32)), .val (.int (1 : Int32)), .unset, .unset, .unset, .unset, .unset, .unset] [(.int (1 : Int32))])) t_
          refine XS.goto X0.here hx rfl (pc0 := 31) (pc' := 35) rfl (hb hby at_31) (by decide) (by decide) ?_
          show Steps pg.tables ev below (s₁.setTop (mkF mi 35 #[.val (.int a), .val (.int b), .val (.int (0 : Int32)), .val (.int (1 : Int32)), .unset, .unset, .unset, .unset, .unset, .unset] [(.int (1 : Int32))])) t_
          exact own_cst (if_neg hd) k_
      refine Go.st dm13 ?_
      show Go pg.tables ev below (s₁.setTop (mkF mi 35 #[.val (.int a), .val (.int b), .val (.int (0 : Int32)), .val (.int (1 : Int32)), .unset, .unset, .unset, .unset, .unset, .unset] [(.int (if (b &&& (1 : Int32)) = (0 : Int32) then (0 : Int32) else (1 : Int32)))])) P
      refine Go.st (fun t_ k_ => XS.istore X0.here hx rfl (hb hby at_35) rfl (l' := #[.val (.int a), .val (.int b), .val (.int (0 : Int32)), .val (.int (1 : Int32)), .val (.int (if (b &&& (1 : Int32)) = (0 : Int32) then (0 : Int32) else (1 : Int32))), .unset, .unset, .unset, .unset, .unset]) rfl k_) ?_
      show Go pg.tables ev below (s₁.setTop (mkF mi 37 #[.val (.int a), .val (.int b), .val (.int (0 : Int32)), .val (.int (1 : Int32)), .val (.int (if (b &&& (1 : Int32)) = (0 : Int32) then (0 : Int32) else (1 : Int32))), .unset, .unset, .unset, .unset, .unset] [])) P
      refine Go.st (fun t_ k_ => XS.iloadN X0.here hx rfl (hb hby at_37) rfl k_) ?_
      show Go pg.tables ev below (s₁.setTop (mkF mi 38 #[.val (.int a), .val (.int b), .val (.int (0 : Int32)), .val (.int (1 : Int32)), .val (.int (if (b &&& (1 : Int32)) = (0 : Int32) then (0 : Int32) else (1 : Int32))), .unset, .unset, .unset, .unset, .unset] [(.int b)])) P
      refine Go.st (fun t_ k_ => XS.iconst X0.here hx rfl (hb hby at_38) k_) ?_
      show Go pg.tables ev below (s₁.setTop (mkF mi 39 #[.val (.int a), .val (.int b), .val (.int (0 : Int32)), .val (.int (1 : Int32)), .val (.int (if (b &&& (1 : Int32)) = (0 : Int32) then (0 : Int32) else (1 : Int32))), .unset, .unset, .unset, .unset, .unset] [(.int (2 : Int32)), (.int b)])) P
      refine Go.st (fun t_ k_ => XS.iand X0.here hx rfl (hb hby at_39) rfl k_) ?_
      show Go pg.tables ev below (s₁.setTop (mkF mi 40 #[.val (.int a), .val (.int b), .val (.int (0 : Int32)), .val (.int (1 : Int32)), .val (.int (if (b &&& (1 : Int32)) = (0 : Int32) then (0 : Int32) else (1 : Int32))), .unset, .unset, .unset, .unset, .unset] [(.int (b &&& (2 : Int32)))])) P
      have dm14 : ∀ t_, Steps pg.tables ev below (s₁.setTop (mkF mi 48 #[.val (.int a), .val (.int b), .val (.int (0 : Int32)), .val (.int (1 : Int32)), .val (.int (if (b &&& (1 : Int32)) = (0 : Int32) then (0 : Int32) else (1 : Int32))), .unset, .unset, .unset, .unset, .unset] [(.int (if (b &&& (2 : Int32)) = (0 : Int32) then (0 : Int32) else (1 : Int32)))])) t_ → Steps pg.tables ev below (s₁.setTop (mkF mi 40 #[.val (.int a), .val (.int b), .val (.int (0 : Int32)), .val (.int (1 : Int32)), .val (.int (if (b &&& (1 : Int32)) = (0 : Int32) then (0 : Int32) else (1 : Int32))), .unset, .unset, .unset, .unset, .unset] [(.int (b &&& (2 : Int32)))])) t_ := by
        intro t_ k_
        by_cases hd : (b &&& (2 : Int32)) = (0 : Int32)
        · refine XS.ifYes X0.here hx rfl (pc0 := 40) (pc' := 47) rfl (hb hby at_40) rfl ((if0 _ _).trans (teq hd).1) (by decide) (by decide) ?_
          show Steps pg.tables ev below (s₁.setTop (mkF mi 47 #[.val (.int a), .val (.int b), .val (.int (0 : Int32)), .val (.int (1 : Int32)), .val (.int (if (b &&& (1 : Int32)) = (0 : Int32) then (0 : Int32) else (1 : Int32))), .unset, .unset, .unset, .unset, .unset] [])) t_
          refine XS.iconst X0.here hx rfl (hb hby at_47) ?_
          show Steps pg.tables ev below (s₁.setTop (mkF mi 48 #[.val (.int a), .val (.int b), .val (.int (0 : Int32)), .val (.int (1 : Int32)), .val (.int (if (b &&& (1 : Int32)) = (0 : Int32) then (0 : Int32) else (1 : Int32))), .unset, .unset, .unset, .unset, .unset] [(.int (0 : Int32))])) t_
          exact own_cst (if_pos hd) k_
        · refine XS.ifNo X0.here hx rfl (hb hby at_40) rfl ((if0 _ _).trans (feq hd).1) ?_
          show Steps pg.tables ev below (s₁.setTop (mkF mi 43 #[.val (.int a), .val (.int b), .val (.int (0 : Int32)), .val (.int (1 : Int32)), .val (.int (if (b &&& (1 : Int32)) = (0 : Int32) then (0 : Int32) else (1 : Int32))), .unset, .unset, .unset, .unset, .unset] [])) t_
          refine XS.iconst X0.here hx rfl (hb hby at_43) ?_
          show Steps pg.tables ev below (s₁.setTop (mkF mi 44 #[.val (.int a), .val (.int b), .val (.int (0 : Int32)), .val (.int (1 : Int32)), .val (.int (if (b &&& (1 : Int32)) = (0 : Int32) then (0 : Int32) else (1 : Int32))), .unset, .unset, .unset, .unset, .unset] [(.int (1 : Int32))])) t_
          refine XS.goto X0.here hx rfl (pc0 := 44) (pc' := 48) rfl (hb hby at_44) (by decide) (by decide) ?_
          show Steps pg.tables ev below (s₁.setTop (mkF mi 48 #[.val (.int a), .val (.int b), .val (.int (0 : Int32)), .val (.int (1 : Int32)), .val (.int (if (b &&& (1 : Int32)) = (0 : Int32) then (0 : Int32) else (1 : Int32))), .unset, .unset, .unset, .unset, .unset] [(.int (1 : Int32))])) t_
          exact own_cst (if_neg hd) k_
      refine Go.st dm14 ?_
      show Go pg.tables ev below (s₁.setTop (mkF mi 48 #[.val (.int a), .val (.int b), .val (.int (0 : Int32)), .val (.int (1 : Int32)), .val (.int (if (b &&& (1 : Int32)) = (0 : Int32) then (0 : Int32) else (1 : Int32))), .unset, .unset, .unset, .unset, .unset] [(.int (if (b &&& (2 : Int32)) = (0 : Int32) then (0 : Int32) else (1 : Int32)))])) P
      refine Go.st (fun t_ k_ => XS.istore X0.here hx rfl (hb hby at_48) rfl (l' := #[.val (.int a), .val (.int b), .val (.int (0 : Int32)), .val (.int (1 : Int32)), .val (.int (if (b &&& (1 : Int32)) = (0 : Int32) then (0 : Int32) else (1 : Int32))), .val (.int (if (b &&& (2 : Int32)) = (0 : Int32) then (0 : Int32) else (1 : Int32))), .unset, .unset, .unset, .unset]) rfl k_) ?_
      show Go pg.tables ev below (s₁.setTop (mkF mi 50 #[.val (.int a), .val (.int b), .val (.int (0 : Int32)), .val (.int (1 : Int32)), .val (.int (if (b &&& (1 : Int32)) = (0 : Int32) then (0 : Int32) else (1 : Int32))), .val (.int (if (b &&& (2 : Int32)) = (0 : Int32) then (0 : Int32) else (1 : Int32))), .unset, .unset, .unset, .unset] [])) P
      refine Go.st (fun t_ k_ => XS.iloadN X0.here hx rfl (hb hby at_50) rfl k_) ?_
      show Go pg.tables ev below (s₁.setTop (mkF mi 51 #[.val (.int a), .val (.int b), .val (.int (0 : Int32)), .val (.int (1 : Int32)), .val (.int (if (b &&& (1 : Int32)) = (0 : Int32) then (0 : Int32) else (1 : Int32))), .val (.int (if (b &&& (2 : Int32)) = (0 : Int32) then (0 : Int32) else (1 : Int32))), .unset, .unset, .unset, .unset] [(.int (0 : Int32))])) P
      refine Go.st (fun t_ k_ => XS.ifYes X0.here hx rfl (pc0 := 51) (pc' := 58) rfl (hb hby at_51) rfl ((if0 _ _).trans (teq rfl).1) (by decide) (by decide) k_) ?_
      show Go pg.tables ev below (s₁.setTop (mkF mi 58 #[.val (.int a), .val (.int b), .val (.int (0 : Int32)), .val (.int (1 : Int32)), .val (.int (if (b &&& (1 : Int32)) = (0 : Int32) then (0 : Int32) else (1 : Int32))), .val (.int (if (b &&& (2 : Int32)) = (0 : Int32) then (0 : Int32) else (1 : Int32))), .unset, .unset, .unset, .unset] [])) P
      refine Go.st (fun t_ k_ => XS.iconst X0.here hx rfl (hb hby at_58) k_) ?_
      show Go pg.tables ev below (s₁.setTop (mkF mi 59 #[.val (.int a), .val (.int b), .val (.int (0 : Int32)), .val (.int (1 : Int32)), .val (.int (if (b &&& (1 : Int32)) = (0 : Int32) then (0 : Int32) else (1 : Int32))), .val (.int (if (b &&& (2 : Int32)) = (0 : Int32) then (0 : Int32) else (1 : Int32))), .unset, .unset, .unset, .unset] [(.int (0 : Int32))])) P
      refine Go.st (fun t_ k_ => XS.iloadN X0.here hx rfl (hb hby at_59) rfl k_) ?_
      show Go pg.tables ev below (s₁.setTop (mkF mi 60 #[.val (.int a), .val (.int b), .val (.int (0 : Int32)), .val (.int (1 : Int32)), .val (.int (if (b &&& (1 : Int32)) = (0 : Int32) then (0 : Int32) else (1 : Int32))), .val (.int (if (b &&& (2 : Int32)) = (0 : Int32) then (0 : Int32) else (1 : Int32))), .unset, .unset, .unset, .unset] [(.int (1 : Int32)), (.int (0 : Int32))])) P
      refine Go.st (fun t_ k_ => XS.ifNo X0.here hx rfl (hb hby at_60) rfl ((if0 _ _).trans (feq (by decide)).1) k_) ?_
      show Go pg.tables ev below (s₁.setTop (mkF mi 63 #[.val (.int a), .val (.int b), .val (.int (0 : Int32)), .val (.int (1 : Int32)), .val (.int (if (b &&& (1 : Int32)) = (0 : Int32) then (0 : Int32) else (1 : Int32))), .val (.int (if (b &&& (2 : Int32)) = (0 : Int32) then (0 : Int32) else (1 : Int32))), .unset, .unset, .unset, .unset] [(.int (0 : Int32))])) P
      refine Go.st (fun t_ k_ => XS.iconst X0.here hx rfl (hb hby at_63) k_) ?_
      show Go pg.tables ev below (s₁.setTop (mkF mi 64 #[.val (.int a), .val (.int b), .val (.int (0 : Int32)), .val (.int (1 : Int32)), .val (.int (if (b &&& (1 : Int32)) = (0 : Int32) then (0 : Int32) else (1 : Int32))), .val (.int (if (b &&& (2 : Int32)) = (0 : Int32) then (0 : Int32) else (1 : Int32))), .unset, .unset, .unset, .unset] [(.int (2 : Int32)), (.int (0 : Int32))])) P
      refine Go.st (fun t_ k_ => XS.goto X0.here hx rfl (pc0 := 64) (pc' := 68) rfl (hb hby at_64) (by decide) (by decide) k_) ?_
      show Go pg.tables ev below (s₁.setTop (mkF mi 68 #[.val (.int a), .val (.int b), .val (.int (0 : Int32)), .val (.int (1 : Int32)), .val (.int (if (b &&& (1 : Int32)) = (0 : Int32) then (0 : Int32) else (1 : Int32))), .val (.int (if (b &&& (2 : Int32)) = (0 : Int32) then (0 : Int32) else (1 : Int32))), .unset, .unset, .unset, .unset] [(.int (2 : Int32)), (.int (0 : Int32))])) P
      refine Go.st (fun t_ k_ => XS.ior X0.here hx rfl (hb hby at_68) rfl k_) ?_
      show Go pg.tables ev below (s₁.setTop (mkF mi 69 #[.val (.int a), .val (.int b), .val (.int (0 : Int32)), .val (.int (1 : Int32)), .val (.int (if (b &&& (1 : Int32)) = (0 : Int32) then (0 : Int32) else (1 : Int32))), .val (.int (if (b &&& (2 : Int32)) = (0 : Int32) then (0 : Int32) else (1 : Int32))), .unset, .unset, .unset, .unset] [(.int (2 : Int32))])) P
      refine Go.st (fun t_ k_ => XS.istore X0.here hx rfl (hb hby at_69) rfl (l' := #[.val (.int a), .val (.int b), .val (.int (0 : Int32)), .val (.int (1 : Int32)), .val (.int (if (b &&& (1 : Int32)) = (0 : Int32) then (0 : Int32) else (1 : Int32))), .val (.int (if (b &&& (2 : Int32)) = (0 : Int32) then (0 : Int32) else (1 : Int32))), .val (.int (2 : Int32)), .unset, .unset, .unset]) rfl k_) ?_
      show Go pg.tables ev below (s₁.setTop (mkF mi 71 #[.val (.int a), .val (.int b), .val (.int (0 : Int32)), .val (.int (1 : Int32)), .val (.int (if (b &&& (1 : Int32)) = (0 : Int32) then (0 : Int32) else (1 : Int32))), .val (.int (if (b &&& (2 : Int32)) = (0 : Int32) then (0 : Int32) else (1 : Int32))), .val (.int (2 : Int32)), .unset, .unset, .unset] [])) P
      refine Go.st (fun t_ k_ => XS.iloadN X0.here hx rfl (hb hby at_71) rfl k_) ?_
      show Go pg.tables ev below (s₁.setTop (mkF mi 72 #[.val (.int a), .val (.int b), .val (.int (0 : Int32)), .val (.int (1 : Int32)), .val (.int (if (b &&& (1 : Int32)) = (0 : Int32) then (0 : Int32) else (1 : Int32))), .val (.int (if (b &&& (2 : Int32)) = (0 : Int32) then (0 : Int32) else (1 : Int32))), .val (.int (2 : Int32)), .unset, .unset, .unset] [(.int (0 : Int32))])) P
      refine Go.st (fun t_ k_ => XS.iloadN X0.here hx rfl (hb hby at_72) rfl k_) ?_
      show Go pg.tables ev below (s₁.setTop (mkF mi 73 #[.val (.int a), .val (.int b), .val (.int (0 : Int32)), .val (.int (1 : Int32)), .val (.int (if (b &&& (1 : Int32)) = (0 : Int32) then (0 : Int32) else (1 : Int32))), .val (.int (if (b &&& (2 : Int32)) = (0 : Int32) then (0 : Int32) else (1 : Int32))), .val (.int (2 : Int32)), .unset, .unset, .unset] [(.int (1 : Int32)), (.int (0 : Int32))])) P
      obtain ⟨_, _, ⟨T15, L15, k15, n15⟩, -, X15, ⟨Lc15, hQ15, l15, y15, z15⟩, st15⟩ := Jvm.LawKit.callS X0 hx (y := (⟨"com/example/baton/baton/TraceFlags", "of", "(ZZ)Lcom/example/baton/baton/TraceFlags;"⟩ : MethodName)) hown (mvT hZ (hw _ (List.mem_of_getElem? (i := 0) rfl))) (mvT hZ (hw _ (List.mem_of_getElem? (i := 1) rfl))) (mvT hZ (hw _ (List.mem_of_getElem? (i := 2) rfl))) (mvT hZ (hw _ (List.mem_of_getElem? (i := 3) rfl))) (by decide) (backOf (W := 0) (rmOf2 l Z a0 hw [] ar ka f0 f1 f2 f3 f5 f7 f8 f10 h0 n0 Z0 S0 A0) hZ (hw _ (List.mem_of_getElem? (i := 3) rfl)) (hw _ (List.mem_of_getElem? (i := 2) rfl)) (by decide) (by decide)) (g := (mkF mi 73 #[.val (.int a), .val (.int b), .val (.int (0 : Int32)), .val (.int (1 : Int32)), .val (.int (if (b &&& (1 : Int32)) = (0 : Int32) then (0 : Int32) else (1 : Int32))), .val (.int (if (b &&& (2 : Int32)) = (0 : Int32) then (0 : Int32) else (1 : Int32))), .val (.int (2 : Int32)), .unset, .unset, .unset] [(.int (1 : Int32)), (.int (0 : Int32))])) rfl (by rw [hml]; rfl) (argsL := [(.int (0 : Int32)), (.int (1 : Int32))]) (rest := []) (lenOf pd_0 rfl) rfl (by show 2 * 0 + _ ≤ _; exact Nat.le_of_eq rfl) (hb hby at_73) (fun _ _ => ⟨rfl, e0, (by decide : 0 + 0 ≤ _), (by decide : 0 + 0 ≤ _)⟩)
      dsimp only [Pt.U, Pt.locs, Pt.cells, Pt.slots] at X15 l15 y15 z15 st15 hQ15
      subst l15 y15 z15
      obtain ⟨rfl, N15q, e15⟩ := hQ15
      have N15 := Fr.app N0 N15q
      refine Go.st st15 ?_
      show Go pg.tables ev below (T15.setTop (mkF mi 76 #[.val (.int a), .val (.int b), .val (.int (0 : Int32)), .val (.int (1 : Int32)), .val (.int (if (b &&& (1 : Int32)) = (0 : Int32) then (0 : Int32) else (1 : Int32))), .val (.int (if (b &&& (2 : Int32)) = (0 : Int32) then (0 : Int32) else (1 : Int32))), .val (.int (2 : Int32)), .unset, .unset, .unset] [(.ref f2)])) P
      refine Go.st (fun t_ k_ => XS.astore X15.here hx rfl (hb hby at_76) rfl rfl (l' := #[.val (.int a), .val (.int b), .val (.int (0 : Int32)), .val (.int (1 : Int32)), .val (.int (if (b &&& (1 : Int32)) = (0 : Int32) then (0 : Int32) else (1 : Int32))), .val (.int (if (b &&& (2 : Int32)) = (0 : Int32) then (0 : Int32) else (1 : Int32))), .val (.int (2 : Int32)), .val (.ref f2), .unset, .unset]) rfl k_) ?_
      show Go pg.tables ev below (T15.setTop (mkF mi 78 #[.val (.int a), .val (.int b), .val (.int (0 : Int32)), .val (.int (1 : Int32)), .val (.int (if (b &&& (1 : Int32)) = (0 : Int32) then (0 : Int32) else (1 : Int32))), .val (.int (if (b &&& (2 : Int32)) = (0 : Int32) then (0 : Int32) else (1 : Int32))), .val (.int (2 : Int32)), .val (.ref f2), .unset, .unset] [])) P
      refine Go.st (fun t_ k_ => XS.aload X15.here hx rfl (hb hby at_78) rfl rfl k_) ?_
      show Go pg.tables ev below (T15.setTop (mkF mi 80 #[.val (.int a), .val (.int b), .val (.int (0 : Int32)), .val (.int (1 : Int32)), .val (.int (if (b &&& (1 : Int32)) = (0 : Int32) then (0 : Int32) else (1 : Int32))), .val (.int (if (b &&& (2 : Int32)) = (0 : Int32) then (0 : Int32) else (1 : Int32))), .val (.int (2 : Int32)), .val (.ref f2), .unset, .unset] [(.ref f2)])) P
      refine Go.st (fun t_ k_ => XS.ifnonnullYes X15.here hx rfl (pc0 := 80) (pc' := 85) rfl (hb hby at_80) rfl (by decide) (by decide) k_) ?_
      show Go pg.tables ev below (T15.setTop (mkF mi 85 #[.val (.int a), .val (.int b), .val (.int (0 : Int32)), .val (.int (1 : Int32)), .val (.int (if (b &&& (1 : Int32)) = (0 : Int32) then (0 : Int32) else (1 : Int32))), .val (.int (if (b &&& (2 : Int32)) = (0 : Int32) then (0 : Int32) else (1 : Int32))), .val (.int (2 : Int32)), .val (.ref f2), .unset, .unset] [])) P
      refine Go.st (fun t_ k_ => XS.aload X15.here hx rfl (hb hby at_85) rfl rfl k_) ?_
      show Go pg.tables ev below (T15.setTop (mkF mi 87 #[.val (.int a), .val (.int b), .val (.int (0 : Int32)), .val (.int (1 : Int32)), .val (.int (if (b &&& (1 : Int32)) = (0 : Int32) then (0 : Int32) else (1 : Int32))), .val (.int (if (b &&& (2 : Int32)) = (0 : Int32) then (0 : Int32) else (1 : Int32))), .val (.int (2 : Int32)), .val (.ref f2), .unset, .unset] [(.ref f2)])) P
      obtain ⟨cq16, kq16, q16a, q16b, q16c⟩ := isOf hZ e15 E2
      obtain ⟨_, _, ⟨T16, L16, k16, n16⟩, -, X16, ⟨Lc16, hQ16, l16, y16, z16⟩, st16⟩ := X15.virtualBack hx (y := (⟨"com/example/baton/baton/TraceFlags", "sampled", "()Z"⟩ : MethodName)) (z := (⟨"com/example/baton/baton/TraceFlags", "sampled", "()Z"⟩ : MethodName)) hown (mvT hZ (hw _ (List.mem_of_getElem? (i := 6) rfl))) (mvT hZ (hw _ (List.mem_of_getElem? (i := 7) rfl))) (notFace_of_selects (args := #[]) (mvT hZ (hw _ (List.mem_of_getElem? (i := 9) rfl)))) (mvT hZ (hw _ (List.mem_of_getElem? (i := 9) rfl))) (mvT hZ (hw _ (List.mem_of_getElem? (i := 8) rfl))) (by decide) (backOf (W := 0) (rmA l Z a0 hw [] f2 (2 : Int32) h0 n0 Z0 F2) hZ (hw _ (List.mem_of_getElem? (i := 10) rfl)) (hw _ (List.mem_of_getElem? (i := 2) rfl)) (by decide) (by decide)) q16a q16c (g := (mkF mi 87 #[.val (.int a), .val (.int b), .val (.int (0 : Int32)), .val (.int (1 : Int32)), .val (.int (if (b &&& (1 : Int32)) = (0 : Int32) then (0 : Int32) else (1 : Int32))), .val (.int (if (b &&& (2 : Int32)) = (0 : Int32) then (0 : Int32) else (1 : Int32))), .val (.int (2 : Int32)), .val (.ref f2), .unset, .unset] [(.ref f2)])) rfl (by rw [hml]; rfl) (Steps.refl _) (argsL := []) (rest := []) (lenOf pd_1 rfl) rfl (by show 2 * 0 + _ ≤ _; exact Nat.le_of_eq rfl) (hb hby at_87) (fun _ _ => ⟨rfl, e15, (by decide : 0 + 0 ≤ _), (by decide : 0 + 0 ≤ _)⟩)
      dsimp only [Pt.U, Pt.locs, Pt.cells, Pt.slots] at X16 l16 y16 z16 st16 hQ16
      subst l16 y16 z16
      obtain ⟨rfl, N16q, e16⟩ := hQ16
      have N16 := Fr.app N15 N16q
      refine Go.tr st16 ?_
      show Go pg.tables ev below (T16.setTop (mkF mi 90 #[.val (.int a), .val (.int b), .val (.int (0 : Int32)), .val (.int (1 : Int32)), .val (.int (if (b &&& (1 : Int32)) = (0 : Int32) then (0 : Int32) else (1 : Int32))), .val (.int (if (b &&& (2 : Int32)) = (0 : Int32) then (0 : Int32) else (1 : Int32))), .val (.int (2 : Int32)), .val (.ref f2), .unset, .unset] [(.int (0 : Int32))])) P
      refine Go.st (fun t_ k_ => XS.iloadN X16.here hx rfl (hb hby at_90) rfl k_) ?_
      show Go pg.tables ev below (T16.setTop (mkF mi 91 #[.val (.int a), .val (.int b), .val (.int (0 : Int32)), .val (.int (1 : Int32)), .val (.int (if (b &&& (1 : Int32)) = (0 : Int32) then (0 : Int32) else (1 : Int32))), .val (.int (if (b &&& (2 : Int32)) = (0 : Int32) then (0 : Int32) else (1 : Int32))), .val (.int (2 : Int32)), .val (.ref f2), .unset, .unset] [(.int (0 : Int32)), (.int (0 : Int32))])) P
      refine Go.st (fun t_ k_ => XS.icmpNo X16.here hx rfl (hb hby at_91) rfl (teq rfl).2 k_) ?_
      show Go pg.tables ev below (T16.setTop (mkF mi 94 #[.val (.int a), .val (.int b), .val (.int (0 : Int32)), .val (.int (1 : Int32)), .val (.int (if (b &&& (1 : Int32)) = (0 : Int32) then (0 : Int32) else (1 : Int32))), .val (.int (if (b &&& (2 : Int32)) = (0 : Int32) then (0 : Int32) else (1 : Int32))), .val (.int (2 : Int32)), .val (.ref f2), .unset, .unset] [])) P
      refine Go.st (fun t_ k_ => XS.iconst X16.here hx rfl (hb hby at_94) k_) ?_
      show Go pg.tables ev below (T16.setTop (mkF mi 95 #[.val (.int a), .val (.int b), .val (.int (0 : Int32)), .val (.int (1 : Int32)), .val (.int (if (b &&& (1 : Int32)) = (0 : Int32) then (0 : Int32) else (1 : Int32))), .val (.int (if (b &&& (2 : Int32)) = (0 : Int32) then (0 : Int32) else (1 : Int32))), .val (.int (2 : Int32)), .val (.ref f2), .unset, .unset] [(.int (1 : Int32))])) P
      refine Go.st (fun t_ k_ => XS.goto X16.here hx rfl (pc0 := 95) (pc' := 99) rfl (hb hby at_95) (by decide) (by decide) k_) ?_
      show Go pg.tables ev below (T16.setTop (mkF mi 99 #[.val (.int a), .val (.int b), .val (.int (0 : Int32)), .val (.int (1 : Int32)), .val (.int (if (b &&& (1 : Int32)) = (0 : Int32) then (0 : Int32) else (1 : Int32))), .val (.int (if (b &&& (2 : Int32)) = (0 : Int32) then (0 : Int32) else (1 : Int32))), .val (.int (2 : Int32)), .val (.ref f2), .unset, .unset] [(.int (1 : Int32))])) P
      refine Go.st (fun t_ k_ => XS.istore X16.here hx rfl (hb hby at_99) rfl (l' := #[.val (.int a), .val (.int b), .val (.int (0 : Int32)), .val (.int (1 : Int32)), .val (.int (if (b &&& (1 : Int32)) = (0 : Int32) then (0 : Int32) else (1 : Int32))), .val (.int (if (b &&& (2 : Int32)) = (0 : Int32) then (0 : Int32) else (1 : Int32))), .val (.int (2 : Int32)), .val (.ref f2), .val (.int (1 : Int32)), .unset]) rfl k_) ?_
      show Go pg.tables ev below (T16.setTop (mkF mi 101 #[.val (.int a), .val (.int b), .val (.int (0 : Int32)), .val (.int (1 : Int32)), .val (.int (if (b &&& (1 : Int32)) = (0 : Int32) then (0 : Int32) else (1 : Int32))), .val (.int (if (b &&& (2 : Int32)) = (0 : Int32) then (0 : Int32) else (1 : Int32))), .val (.int (2 : Int32)), .val (.ref f2), .val (.int (1 : Int32)), .unset] [])) P
      refine Go.st (fun t_ k_ => XS.iload X16.here hx rfl (hb hby at_101) rfl k_) ?_
      show Go pg.tables ev below (T16.setTop (mkF mi 103 #[.val (.int a), .val (.int b), .val (.int (0 : Int32)), .val (.int (1 : Int32)), .val (.int (if (b &&& (1 : Int32)) = (0 : Int32) then (0 : Int32) else (1 : Int32))), .val (.int (if (b &&& (2 : Int32)) = (0 : Int32) then (0 : Int32) else (1 : Int32))), .val (.int (2 : Int32)), .val (.ref f2), .val (.int (1 : Int32)), .unset] [(.int (1 : Int32))])) P
      refine Go.st (fun t_ k_ => XS.ifNo X16.here hx rfl (hb hby at_103) rfl ((if0 _ _).trans (feq (by decide)).1) k_) ?_
      show Go pg.tables ev below (T16.setTop (mkF mi 106 #[.val (.int a), .val (.int b), .val (.int (0 : Int32)), .val (.int (1 : Int32)), .val (.int (if (b &&& (1 : Int32)) = (0 : Int32) then (0 : Int32) else (1 : Int32))), .val (.int (if (b &&& (2 : Int32)) = (0 : Int32) then (0 : Int32) else (1 : Int32))), .val (.int (2 : Int32)), .val (.ref f2), .val (.int (1 : Int32)), .unset] [])) P
      refine Go.st (fun t_ k_ => XS.aload X16.here hx rfl (hb hby at_106) rfl rfl k_) ?_
      show Go pg.tables ev below (T16.setTop (mkF mi 108 #[.val (.int a), .val (.int b), .val (.int (0 : Int32)), .val (.int (1 : Int32)), .val (.int (if (b &&& (1 : Int32)) = (0 : Int32) then (0 : Int32) else (1 : Int32))), .val (.int (if (b &&& (2 : Int32)) = (0 : Int32) then (0 : Int32) else (1 : Int32))), .val (.int (2 : Int32)), .val (.ref f2), .val (.int (1 : Int32)), .unset] [(.ref f2)])) P
      obtain ⟨cq17, kq17, q17a, q17b, q17c⟩ := isOf hZ e16 E2
      obtain ⟨_, _, ⟨T17, L17, k17, n17⟩, -, X17, ⟨Lc17, hQ17, l17, y17, z17⟩, st17⟩ := X16.virtualBack hx (y := (⟨"com/example/baton/baton/TraceFlags", "randomTraceId", "()Z"⟩ : MethodName)) (z := (⟨"com/example/baton/baton/TraceFlags", "randomTraceId", "()Z"⟩ : MethodName)) hown (mvT hZ (hw _ (List.mem_of_getElem? (i := 13) rfl))) (mvT hZ (hw _ (List.mem_of_getElem? (i := 14) rfl))) (notFace_of_selects (args := #[]) (mvT hZ (hw _ (List.mem_of_getElem? (i := 16) rfl)))) (mvT hZ (hw _ (List.mem_of_getElem? (i := 16) rfl))) (mvT hZ (hw _ (List.mem_of_getElem? (i := 15) rfl))) (by decide) (backOf (W := 0) (rmB l Z a0 hw [] f2 (2 : Int32) h0 n0 Z0 F2) hZ (hw _ (List.mem_of_getElem? (i := 17) rfl)) (hw _ (List.mem_of_getElem? (i := 2) rfl)) (by decide) (by decide)) q17a q17c (g := (mkF mi 108 #[.val (.int a), .val (.int b), .val (.int (0 : Int32)), .val (.int (1 : Int32)), .val (.int (if (b &&& (1 : Int32)) = (0 : Int32) then (0 : Int32) else (1 : Int32))), .val (.int (if (b &&& (2 : Int32)) = (0 : Int32) then (0 : Int32) else (1 : Int32))), .val (.int (2 : Int32)), .val (.ref f2), .val (.int (1 : Int32)), .unset] [(.ref f2)])) rfl (by rw [hml]; rfl) (Steps.refl _) (argsL := []) (rest := []) (lenOf pd_1 rfl) rfl (by show 2 * 0 + _ ≤ _; exact Nat.le_of_eq rfl) (hb hby at_108) (fun _ _ => ⟨rfl, e16, (by decide : 0 + 0 ≤ _), (by decide : 0 + 0 ≤ _)⟩)
      dsimp only [Pt.U, Pt.locs, Pt.cells, Pt.slots] at X17 l17 y17 z17 st17 hQ17
      subst l17 y17 z17
      obtain ⟨rfl, N17q, e17⟩ := hQ17
      have N17 := Fr.app N16 N17q
      refine Go.tr st17 ?_
      show Go pg.tables ev below (T17.setTop (mkF mi 111 #[.val (.int a), .val (.int b), .val (.int (0 : Int32)), .val (.int (1 : Int32)), .val (.int (if (b &&& (1 : Int32)) = (0 : Int32) then (0 : Int32) else (1 : Int32))), .val (.int (if (b &&& (2 : Int32)) = (0 : Int32) then (0 : Int32) else (1 : Int32))), .val (.int (2 : Int32)), .val (.ref f2), .val (.int (1 : Int32)), .unset] [(.int (1 : Int32))])) P
      refine Go.st (fun t_ k_ => XS.iloadN X17.here hx rfl (hb hby at_111) rfl k_) ?_
      show Go pg.tables ev below (T17.setTop (mkF mi 112 #[.val (.int a), .val (.int b), .val (.int (0 : Int32)), .val (.int (1 : Int32)), .val (.int (if (b &&& (1 : Int32)) = (0 : Int32) then (0 : Int32) else (1 : Int32))), .val (.int (if (b &&& (2 : Int32)) = (0 : Int32) then (0 : Int32) else (1 : Int32))), .val (.int (2 : Int32)), .val (.ref f2), .val (.int (1 : Int32)), .unset] [(.int (1 : Int32)), (.int (1 : Int32))])) P
      refine Go.st (fun t_ k_ => XS.icmpNo X17.here hx rfl (hb hby at_112) rfl (teq rfl).2 k_) ?_
      show Go pg.tables ev below (T17.setTop (mkF mi 115 #[.val (.int a), .val (.int b), .val (.int (0 : Int32)), .val (.int (1 : Int32)), .val (.int (if (b &&& (1 : Int32)) = (0 : Int32) then (0 : Int32) else (1 : Int32))), .val (.int (if (b &&& (2 : Int32)) = (0 : Int32) then (0 : Int32) else (1 : Int32))), .val (.int (2 : Int32)), .val (.ref f2), .val (.int (1 : Int32)), .unset] [])) P
      refine Go.st (fun t_ k_ => XS.iconst X17.here hx rfl (hb hby at_115) k_) ?_
      show Go pg.tables ev below (T17.setTop (mkF mi 116 #[.val (.int a), .val (.int b), .val (.int (0 : Int32)), .val (.int (1 : Int32)), .val (.int (if (b &&& (1 : Int32)) = (0 : Int32) then (0 : Int32) else (1 : Int32))), .val (.int (if (b &&& (2 : Int32)) = (0 : Int32) then (0 : Int32) else (1 : Int32))), .val (.int (2 : Int32)), .val (.ref f2), .val (.int (1 : Int32)), .unset] [(.int (1 : Int32))])) P
      refine Go.st (fun t_ k_ => XS.goto X17.here hx rfl (pc0 := 116) (pc' := 120) rfl (hb hby at_116) (by decide) (by decide) k_) ?_
      show Go pg.tables ev below (T17.setTop (mkF mi 120 #[.val (.int a), .val (.int b), .val (.int (0 : Int32)), .val (.int (1 : Int32)), .val (.int (if (b &&& (1 : Int32)) = (0 : Int32) then (0 : Int32) else (1 : Int32))), .val (.int (if (b &&& (2 : Int32)) = (0 : Int32) then (0 : Int32) else (1 : Int32))), .val (.int (2 : Int32)), .val (.ref f2), .val (.int (1 : Int32)), .unset] [(.int (1 : Int32))])) P
      refine Go.st (fun t_ k_ => XS.istore X17.here hx rfl (hb hby at_120) rfl (l' := #[.val (.int a), .val (.int b), .val (.int (0 : Int32)), .val (.int (1 : Int32)), .val (.int (if (b &&& (1 : Int32)) = (0 : Int32) then (0 : Int32) else (1 : Int32))), .val (.int (if (b &&& (2 : Int32)) = (0 : Int32) then (0 : Int32) else (1 : Int32))), .val (.int (2 : Int32)), .val (.ref f2), .val (.int (1 : Int32)), .unset]) rfl k_) ?_
      show Go pg.tables ev below (T17.setTop (mkF mi 122 #[.val (.int a), .val (.int b), .val (.int (0 : Int32)), .val (.int (1 : Int32)), .val (.int (if (b &&& (1 : Int32)) = (0 : Int32) then (0 : Int32) else (1 : Int32))), .val (.int (if (b &&& (2 : Int32)) = (0 : Int32) then (0 : Int32) else (1 : Int32))), .val (.int (2 : Int32)), .val (.ref f2), .val (.int (1 : Int32)), .unset] [])) P
      refine Go.st (fun t_ k_ => XS.iload X17.here hx rfl (hb hby at_122) rfl k_) ?_
      show Go pg.tables ev below (T17.setTop (mkF mi 124 #[.val (.int a), .val (.int b), .val (.int (0 : Int32)), .val (.int (1 : Int32)), .val (.int (if (b &&& (1 : Int32)) = (0 : Int32) then (0 : Int32) else (1 : Int32))), .val (.int (if (b &&& (2 : Int32)) = (0 : Int32) then (0 : Int32) else (1 : Int32))), .val (.int (2 : Int32)), .val (.ref f2), .val (.int (1 : Int32)), .unset] [(.int (1 : Int32))])) P
      refine Go.st (fun t_ k_ => XS.ifNo X17.here hx rfl (hb hby at_124) rfl ((if0 _ _).trans (feq (by decide)).1) k_) ?_
      show Go pg.tables ev below (T17.setTop (mkF mi 127 #[.val (.int a), .val (.int b), .val (.int (0 : Int32)), .val (.int (1 : Int32)), .val (.int (if (b &&& (1 : Int32)) = (0 : Int32) then (0 : Int32) else (1 : Int32))), .val (.int (if (b &&& (2 : Int32)) = (0 : Int32) then (0 : Int32) else (1 : Int32))), .val (.int (2 : Int32)), .val (.ref f2), .val (.int (1 : Int32)), .unset] [])) P
      refine Go.st (fun t_ k_ => XS.aload X17.here hx rfl (hb hby at_127) rfl rfl k_) ?_
      show Go pg.tables ev below (T17.setTop (mkF mi 129 #[.val (.int a), .val (.int b), .val (.int (0 : Int32)), .val (.int (1 : Int32)), .val (.int (if (b &&& (1 : Int32)) = (0 : Int32) then (0 : Int32) else (1 : Int32))), .val (.int (if (b &&& (2 : Int32)) = (0 : Int32) then (0 : Int32) else (1 : Int32))), .val (.int (2 : Int32)), .val (.ref f2), .val (.int (1 : Int32)), .unset] [(.ref f2)])) P
      obtain ⟨cq18, kq18, q18a, q18b, q18c⟩ := isOf hZ e17 E2
      obtain ⟨_, _, ⟨T18, L18, k18, n18⟩, -, X18, ⟨Lc18, hQ18, l18, y18, z18⟩, st18⟩ := X17.virtualBack hx (y := (⟨"com/example/baton/baton/TraceFlags", "debug", "()Z"⟩ : MethodName)) (z := (⟨"com/example/baton/baton/TraceFlags", "debug", "()Z"⟩ : MethodName)) hown (mvT hZ (hw _ (List.mem_of_getElem? (i := 18) rfl))) (mvT hZ (hw _ (List.mem_of_getElem? (i := 19) rfl))) (notFace_of_selects (args := #[]) (mvT hZ (hw _ (List.mem_of_getElem? (i := 21) rfl)))) (mvT hZ (hw _ (List.mem_of_getElem? (i := 21) rfl))) (mvT hZ (hw _ (List.mem_of_getElem? (i := 20) rfl))) (by decide) (backOf (W := 0) (rmC l Z a0 hw [] f2 (2 : Int32) h0 n0 Z0 F2) hZ (hw _ (List.mem_of_getElem? (i := 22) rfl)) (hw _ (List.mem_of_getElem? (i := 2) rfl)) (by decide) (by decide)) q18a q18c (g := (mkF mi 129 #[.val (.int a), .val (.int b), .val (.int (0 : Int32)), .val (.int (1 : Int32)), .val (.int (if (b &&& (1 : Int32)) = (0 : Int32) then (0 : Int32) else (1 : Int32))), .val (.int (if (b &&& (2 : Int32)) = (0 : Int32) then (0 : Int32) else (1 : Int32))), .val (.int (2 : Int32)), .val (.ref f2), .val (.int (1 : Int32)), .unset] [(.ref f2)])) rfl (by rw [hml]; rfl) (Steps.refl _) (argsL := []) (rest := []) (lenOf pd_1 rfl) rfl (by show 2 * 0 + _ ≤ _; exact Nat.le_of_eq rfl) (hb hby at_129) (fun _ _ => ⟨rfl, e17, (by decide : 0 + 0 ≤ _), (by decide : 0 + 0 ≤ _)⟩)
      dsimp only [Pt.U, Pt.locs, Pt.cells, Pt.slots] at X18 l18 y18 z18 st18 hQ18
      subst l18 y18 z18
      obtain ⟨rfl, N18q, e18⟩ := hQ18
      have N18 := Fr.app N17 N18q
      refine Go.tr st18 ?_
      show Go pg.tables ev below (T18.setTop (mkF mi 132 #[.val (.int a), .val (.int b), .val (.int (0 : Int32)), .val (.int (1 : Int32)), .val (.int (if (b &&& (1 : Int32)) = (0 : Int32) then (0 : Int32) else (1 : Int32))), .val (.int (if (b &&& (2 : Int32)) = (0 : Int32) then (0 : Int32) else (1 : Int32))), .val (.int (2 : Int32)), .val (.ref f2), .val (.int (1 : Int32)), .unset] [(.int (0 : Int32))])) P
      refine Go.st (fun t_ k_ => XS.ifNo X18.here hx rfl (hb hby at_132) rfl ((if0 _ _).trans (teq rfl).2) k_) ?_
      show Go pg.tables ev below (T18.setTop (mkF mi 135 #[.val (.int a), .val (.int b), .val (.int (0 : Int32)), .val (.int (1 : Int32)), .val (.int (if (b &&& (1 : Int32)) = (0 : Int32) then (0 : Int32) else (1 : Int32))), .val (.int (if (b &&& (2 : Int32)) = (0 : Int32) then (0 : Int32) else (1 : Int32))), .val (.int (2 : Int32)), .val (.ref f2), .val (.int (1 : Int32)), .unset] [])) P
      refine Go.st (fun t_ k_ => XS.iconst X18.here hx rfl (hb hby at_135) k_) ?_
      show Go pg.tables ev below (T18.setTop (mkF mi 136 #[.val (.int a), .val (.int b), .val (.int (0 : Int32)), .val (.int (1 : Int32)), .val (.int (if (b &&& (1 : Int32)) = (0 : Int32) then (0 : Int32) else (1 : Int32))), .val (.int (if (b &&& (2 : Int32)) = (0 : Int32) then (0 : Int32) else (1 : Int32))), .val (.int (2 : Int32)), .val (.ref f2), .val (.int (1 : Int32)), .unset] [(.int (1 : Int32))])) P
      refine Go.st (fun t_ k_ => XS.goto X18.here hx rfl (pc0 := 136) (pc' := 140) rfl (hb hby at_136) (by decide) (by decide) k_) ?_
      show Go pg.tables ev below (T18.setTop (mkF mi 140 #[.val (.int a), .val (.int b), .val (.int (0 : Int32)), .val (.int (1 : Int32)), .val (.int (if (b &&& (1 : Int32)) = (0 : Int32) then (0 : Int32) else (1 : Int32))), .val (.int (if (b &&& (2 : Int32)) = (0 : Int32) then (0 : Int32) else (1 : Int32))), .val (.int (2 : Int32)), .val (.ref f2), .val (.int (1 : Int32)), .unset] [(.int (1 : Int32))])) P
      refine Go.st (fun t_ k_ => XS.istore X18.here hx rfl (hb hby at_140) rfl (l' := #[.val (.int a), .val (.int b), .val (.int (0 : Int32)), .val (.int (1 : Int32)), .val (.int (if (b &&& (1 : Int32)) = (0 : Int32) then (0 : Int32) else (1 : Int32))), .val (.int (if (b &&& (2 : Int32)) = (0 : Int32) then (0 : Int32) else (1 : Int32))), .val (.int (2 : Int32)), .val (.ref f2), .val (.int (1 : Int32)), .unset]) rfl k_) ?_
      show Go pg.tables ev below (T18.setTop (mkF mi 142 #[.val (.int a), .val (.int b), .val (.int (0 : Int32)), .val (.int (1 : Int32)), .val (.int (if (b &&& (1 : Int32)) = (0 : Int32) then (0 : Int32) else (1 : Int32))), .val (.int (if (b &&& (2 : Int32)) = (0 : Int32) then (0 : Int32) else (1 : Int32))), .val (.int (2 : Int32)), .val (.ref f2), .val (.int (1 : Int32)), .unset] [])) P
      refine Go.st (fun t_ k_ => XS.iload X18.here hx rfl (hb hby at_142) rfl k_) ?_
      show Go pg.tables ev below (T18.setTop (mkF mi 144 #[.val (.int a), .val (.int b), .val (.int (0 : Int32)), .val (.int (1 : Int32)), .val (.int (if (b &&& (1 : Int32)) = (0 : Int32) then (0 : Int32) else (1 : Int32))), .val (.int (if (b &&& (2 : Int32)) = (0 : Int32) then (0 : Int32) else (1 : Int32))), .val (.int (2 : Int32)), .val (.ref f2), .val (.int (1 : Int32)), .unset] [(.int (1 : Int32))])) P
      refine Go.st (fun t_ k_ => XS.ifNo X18.here hx rfl (hb hby at_144) rfl ((if0 _ _).trans (feq (by decide)).1) k_) ?_
      show Go pg.tables ev below (T18.setTop (mkF mi 147 #[.val (.int a), .val (.int b), .val (.int (0 : Int32)), .val (.int (1 : Int32)), .val (.int (if (b &&& (1 : Int32)) = (0 : Int32) then (0 : Int32) else (1 : Int32))), .val (.int (if (b &&& (2 : Int32)) = (0 : Int32) then (0 : Int32) else (1 : Int32))), .val (.int (2 : Int32)), .val (.ref f2), .val (.int (1 : Int32)), .unset] [])) P
      refine Go.st (fun t_ k_ => XS.aload X18.here hx rfl (hb hby at_147) rfl rfl k_) ?_
      show Go pg.tables ev below (T18.setTop (mkF mi 149 #[.val (.int a), .val (.int b), .val (.int (0 : Int32)), .val (.int (1 : Int32)), .val (.int (if (b &&& (1 : Int32)) = (0 : Int32) then (0 : Int32) else (1 : Int32))), .val (.int (if (b &&& (2 : Int32)) = (0 : Int32) then (0 : Int32) else (1 : Int32))), .val (.int (2 : Int32)), .val (.ref f2), .val (.int (1 : Int32)), .unset] [(.ref f2)])) P
      obtain ⟨cq19, kq19, q19a, q19b, q19c⟩ := isOf hZ e18 E2
      obtain ⟨_, _, ⟨T19, L19, k19, n19⟩, -, X19, ⟨Lc19, hQ19, l19, y19, z19⟩, st19⟩ := X18.virtualBack hx (y := (⟨"com/example/baton/baton/TraceFlags", "deferred", "()Z"⟩ : MethodName)) (z := (⟨"com/example/baton/baton/TraceFlags", "deferred", "()Z"⟩ : MethodName)) hown (mvT hZ (hw _ (List.mem_of_getElem? (i := 23) rfl))) (mvT hZ (hw _ (List.mem_of_getElem? (i := 24) rfl))) (notFace_of_selects (args := #[]) (mvT hZ (hw _ (List.mem_of_getElem? (i := 26) rfl)))) (mvT hZ (hw _ (List.mem_of_getElem? (i := 26) rfl))) (mvT hZ (hw _ (List.mem_of_getElem? (i := 25) rfl))) (by decide) (backOf (W := 0) (rmD l Z a0 hw [] f2 (2 : Int32) h0 n0 Z0 F2) hZ (hw _ (List.mem_of_getElem? (i := 27) rfl)) (hw _ (List.mem_of_getElem? (i := 2) rfl)) (by decide) (by decide)) q19a q19c (g := (mkF mi 149 #[.val (.int a), .val (.int b), .val (.int (0 : Int32)), .val (.int (1 : Int32)), .val (.int (if (b &&& (1 : Int32)) = (0 : Int32) then (0 : Int32) else (1 : Int32))), .val (.int (if (b &&& (2 : Int32)) = (0 : Int32) then (0 : Int32) else (1 : Int32))), .val (.int (2 : Int32)), .val (.ref f2), .val (.int (1 : Int32)), .unset] [(.ref f2)])) rfl (by rw [hml]; rfl) (Steps.refl _) (argsL := []) (rest := []) (lenOf pd_1 rfl) rfl (by show 2 * 0 + _ ≤ _; exact Nat.le_of_eq rfl) (hb hby at_149) (fun _ _ => ⟨rfl, e18, (by decide : 0 + 0 ≤ _), (by decide : 0 + 0 ≤ _)⟩)
      dsimp only [Pt.U, Pt.locs, Pt.cells, Pt.slots] at X19 l19 y19 z19 st19 hQ19
      subst l19 y19 z19
      obtain ⟨rfl, N19q, e19⟩ := hQ19
      have N19 := Fr.app N18 N19q
      refine Go.tr st19 ?_
      show Go pg.tables ev below (T19.setTop (mkF mi 152 #[.val (.int a), .val (.int b), .val (.int (0 : Int32)), .val (.int (1 : Int32)), .val (.int (if (b &&& (1 : Int32)) = (0 : Int32) then (0 : Int32) else (1 : Int32))), .val (.int (if (b &&& (2 : Int32)) = (0 : Int32) then (0 : Int32) else (1 : Int32))), .val (.int (2 : Int32)), .val (.ref f2), .val (.int (1 : Int32)), .unset] [(.int (0 : Int32))])) P
      refine Go.st (fun t_ k_ => XS.ifNo X19.here hx rfl (hb hby at_152) rfl ((if0 _ _).trans (teq rfl).2) k_) ?_
      show Go pg.tables ev below (T19.setTop (mkF mi 155 #[.val (.int a), .val (.int b), .val (.int (0 : Int32)), .val (.int (1 : Int32)), .val (.int (if (b &&& (1 : Int32)) = (0 : Int32) then (0 : Int32) else (1 : Int32))), .val (.int (if (b &&& (2 : Int32)) = (0 : Int32) then (0 : Int32) else (1 : Int32))), .val (.int (2 : Int32)), .val (.ref f2), .val (.int (1 : Int32)), .unset] [])) P
      refine Go.st (fun t_ k_ => XS.iconst X19.here hx rfl (hb hby at_155) k_) ?_
      show Go pg.tables ev below (T19.setTop (mkF mi 156 #[.val (.int a), .val (.int b), .val (.int (0 : Int32)), .val (.int (1 : Int32)), .val (.int (if (b &&& (1 : Int32)) = (0 : Int32) then (0 : Int32) else (1 : Int32))), .val (.int (if (b &&& (2 : Int32)) = (0 : Int32) then (0 : Int32) else (1 : Int32))), .val (.int (2 : Int32)), .val (.ref f2), .val (.int (1 : Int32)), .unset] [(.int (1 : Int32))])) P
      refine Go.st (fun t_ k_ => XS.goto X19.here hx rfl (pc0 := 156) (pc' := 160) rfl (hb hby at_156) (by decide) (by decide) k_) ?_
      show Go pg.tables ev below (T19.setTop (mkF mi 160 #[.val (.int a), .val (.int b), .val (.int (0 : Int32)), .val (.int (1 : Int32)), .val (.int (if (b &&& (1 : Int32)) = (0 : Int32) then (0 : Int32) else (1 : Int32))), .val (.int (if (b &&& (2 : Int32)) = (0 : Int32) then (0 : Int32) else (1 : Int32))), .val (.int (2 : Int32)), .val (.ref f2), .val (.int (1 : Int32)), .unset] [(.int (1 : Int32))])) P
      refine Go.st (fun t_ k_ => XS.istore X19.here hx rfl (hb hby at_160) rfl (l' := #[.val (.int a), .val (.int b), .val (.int (0 : Int32)), .val (.int (1 : Int32)), .val (.int (if (b &&& (1 : Int32)) = (0 : Int32) then (0 : Int32) else (1 : Int32))), .val (.int (if (b &&& (2 : Int32)) = (0 : Int32) then (0 : Int32) else (1 : Int32))), .val (.int (2 : Int32)), .val (.ref f2), .val (.int (1 : Int32)), .unset]) rfl k_) ?_
      show Go pg.tables ev below (T19.setTop (mkF mi 162 #[.val (.int a), .val (.int b), .val (.int (0 : Int32)), .val (.int (1 : Int32)), .val (.int (if (b &&& (1 : Int32)) = (0 : Int32) then (0 : Int32) else (1 : Int32))), .val (.int (if (b &&& (2 : Int32)) = (0 : Int32) then (0 : Int32) else (1 : Int32))), .val (.int (2 : Int32)), .val (.ref f2), .val (.int (1 : Int32)), .unset] [])) P
      refine Go.st (fun t_ k_ => XS.iload X19.here hx rfl (hb hby at_162) rfl k_) ?_
      show Go pg.tables ev below (T19.setTop (mkF mi 164 #[.val (.int a), .val (.int b), .val (.int (0 : Int32)), .val (.int (1 : Int32)), .val (.int (if (b &&& (1 : Int32)) = (0 : Int32) then (0 : Int32) else (1 : Int32))), .val (.int (if (b &&& (2 : Int32)) = (0 : Int32) then (0 : Int32) else (1 : Int32))), .val (.int (2 : Int32)), .val (.ref f2), .val (.int (1 : Int32)), .unset] [(.int (1 : Int32))])) P
      refine Go.st (fun t_ k_ => XS.ifNo X19.here hx rfl (hb hby at_164) rfl ((if0 _ _).trans (feq (by decide)).1) k_) ?_
      show Go pg.tables ev below (T19.setTop (mkF mi 167 #[.val (.int a), .val (.int b), .val (.int (0 : Int32)), .val (.int (1 : Int32)), .val (.int (if (b &&& (1 : Int32)) = (0 : Int32) then (0 : Int32) else (1 : Int32))), .val (.int (if (b &&& (2 : Int32)) = (0 : Int32) then (0 : Int32) else (1 : Int32))), .val (.int (2 : Int32)), .val (.ref f2), .val (.int (1 : Int32)), .unset] [])) P
      refine Go.st (fun t_ k_ => XS.aload X19.here hx rfl (hb hby at_167) rfl rfl k_) ?_
      show Go pg.tables ev below (T19.setTop (mkF mi 169 #[.val (.int a), .val (.int b), .val (.int (0 : Int32)), .val (.int (1 : Int32)), .val (.int (if (b &&& (1 : Int32)) = (0 : Int32) then (0 : Int32) else (1 : Int32))), .val (.int (if (b &&& (2 : Int32)) = (0 : Int32) then (0 : Int32) else (1 : Int32))), .val (.int (2 : Int32)), .val (.ref f2), .val (.int (1 : Int32)), .unset] [(.ref f2)])) P
      obtain ⟨cq20, kq20, q20a, q20b, q20c⟩ := isOf hZ e19 E2
      obtain ⟨_, _, ⟨T20, L20, k20, n20⟩, -, X20, ⟨Lc20, hQ20, l20, y20, z20⟩, st20⟩ := X19.virtualBack hx (y := (⟨"com/example/baton/baton/TraceFlags", "bits", "()I"⟩ : MethodName)) (z := (⟨"com/example/baton/baton/TraceFlags", "bits", "()I"⟩ : MethodName)) hown (mvT hZ (hw _ (List.mem_of_getElem? (i := 28) rfl))) (mvT hZ (hw _ (List.mem_of_getElem? (i := 29) rfl))) (notFace_of_selects (args := #[]) (mvT hZ (hw _ (List.mem_of_getElem? (i := 31) rfl)))) (mvT hZ (hw _ (List.mem_of_getElem? (i := 31) rfl))) (mvT hZ (hw _ (List.mem_of_getElem? (i := 30) rfl))) (by decide) (backOf (W := 0) (rmE l Z a0 hw [] f2 (2 : Int32) h0 n0 Z0 F2) hZ (hw _ (List.mem_of_getElem? (i := 32) rfl)) (hw _ (List.mem_of_getElem? (i := 2) rfl)) (by decide) (by decide)) q20a q20c (g := (mkF mi 169 #[.val (.int a), .val (.int b), .val (.int (0 : Int32)), .val (.int (1 : Int32)), .val (.int (if (b &&& (1 : Int32)) = (0 : Int32) then (0 : Int32) else (1 : Int32))), .val (.int (if (b &&& (2 : Int32)) = (0 : Int32) then (0 : Int32) else (1 : Int32))), .val (.int (2 : Int32)), .val (.ref f2), .val (.int (1 : Int32)), .unset] [(.ref f2)])) rfl (by rw [hml]; rfl) (Steps.refl _) (argsL := []) (rest := []) (lenOf pd_2 rfl) rfl (by show 2 * 0 + _ ≤ _; exact Nat.le_of_eq rfl) (hb hby at_169) (fun _ _ => ⟨rfl, e19, (by decide : 0 + 0 ≤ _), (by decide : 0 + 0 ≤ _)⟩)
      dsimp only [Pt.U, Pt.locs, Pt.cells, Pt.slots] at X20 l20 y20 z20 st20 hQ20
      subst l20 y20 z20
      obtain ⟨rfl, N20q, e20⟩ := hQ20
      have N20 := Fr.app N19 N20q
      refine Go.tr st20 ?_
      show Go pg.tables ev below (T20.setTop (mkF mi 172 #[.val (.int a), .val (.int b), .val (.int (0 : Int32)), .val (.int (1 : Int32)), .val (.int (if (b &&& (1 : Int32)) = (0 : Int32) then (0 : Int32) else (1 : Int32))), .val (.int (if (b &&& (2 : Int32)) = (0 : Int32) then (0 : Int32) else (1 : Int32))), .val (.int (2 : Int32)), .val (.ref f2), .val (.int (1 : Int32)), .unset] [(.int (2 : Int32))])) P
      refine Go.st (fun t_ k_ => XS.iload X20.here hx rfl (hb hby at_172) rfl k_) ?_
      show Go pg.tables ev below (T20.setTop (mkF mi 174 #[.val (.int a), .val (.int b), .val (.int (0 : Int32)), .val (.int (1 : Int32)), .val (.int (if (b &&& (1 : Int32)) = (0 : Int32) then (0 : Int32) else (1 : Int32))), .val (.int (if (b &&& (2 : Int32)) = (0 : Int32) then (0 : Int32) else (1 : Int32))), .val (.int (2 : Int32)), .val (.ref f2), .val (.int (1 : Int32)), .unset] [(.int (2 : Int32)), (.int (2 : Int32))])) P
      refine Go.st (fun t_ k_ => XS.icmpNo X20.here hx rfl (hb hby at_174) rfl (teq rfl).2 k_) ?_
      show Go pg.tables ev below (T20.setTop (mkF mi 177 #[.val (.int a), .val (.int b), .val (.int (0 : Int32)), .val (.int (1 : Int32)), .val (.int (if (b &&& (1 : Int32)) = (0 : Int32) then (0 : Int32) else (1 : Int32))), .val (.int (if (b &&& (2 : Int32)) = (0 : Int32) then (0 : Int32) else (1 : Int32))), .val (.int (2 : Int32)), .val (.ref f2), .val (.int (1 : Int32)), .unset] [])) P
      refine Go.st (fun t_ k_ => XS.iconst X20.here hx rfl (hb hby at_177) k_) ?_
      show Go pg.tables ev below (T20.setTop (mkF mi 178 #[.val (.int a), .val (.int b), .val (.int (0 : Int32)), .val (.int (1 : Int32)), .val (.int (if (b &&& (1 : Int32)) = (0 : Int32) then (0 : Int32) else (1 : Int32))), .val (.int (if (b &&& (2 : Int32)) = (0 : Int32) then (0 : Int32) else (1 : Int32))), .val (.int (2 : Int32)), .val (.ref f2), .val (.int (1 : Int32)), .unset] [(.int (1 : Int32))])) P
      refine Go.st (fun t_ k_ => XS.goto X20.here hx rfl (pc0 := 178) (pc' := 182) rfl (hb hby at_178) (by decide) (by decide) k_) ?_
      show Go pg.tables ev below (T20.setTop (mkF mi 182 #[.val (.int a), .val (.int b), .val (.int (0 : Int32)), .val (.int (1 : Int32)), .val (.int (if (b &&& (1 : Int32)) = (0 : Int32) then (0 : Int32) else (1 : Int32))), .val (.int (if (b &&& (2 : Int32)) = (0 : Int32) then (0 : Int32) else (1 : Int32))), .val (.int (2 : Int32)), .val (.ref f2), .val (.int (1 : Int32)), .unset] [(.int (1 : Int32))])) P
      refine Go.st (fun t_ k_ => XS.istore X20.here hx rfl (hb hby at_182) rfl (l' := #[.val (.int a), .val (.int b), .val (.int (0 : Int32)), .val (.int (1 : Int32)), .val (.int (if (b &&& (1 : Int32)) = (0 : Int32) then (0 : Int32) else (1 : Int32))), .val (.int (if (b &&& (2 : Int32)) = (0 : Int32) then (0 : Int32) else (1 : Int32))), .val (.int (2 : Int32)), .val (.ref f2), .val (.int (1 : Int32)), .unset]) rfl k_) ?_
      show Go pg.tables ev below (T20.setTop (mkF mi 184 #[.val (.int a), .val (.int b), .val (.int (0 : Int32)), .val (.int (1 : Int32)), .val (.int (if (b &&& (1 : Int32)) = (0 : Int32) then (0 : Int32) else (1 : Int32))), .val (.int (if (b &&& (2 : Int32)) = (0 : Int32) then (0 : Int32) else (1 : Int32))), .val (.int (2 : Int32)), .val (.ref f2), .val (.int (1 : Int32)), .unset] [])) P
      by_cases hk4 : (b &&& (1 : Int32)) = (0 : Int32)
      · rw [if_pos hk4]
        show Go pg.tables ev below (T20.setTop (mkF mi 184 #[.val (.int a), .val (.int b), .val (.int (0 : Int32)), .val (.int (1 : Int32)), .val (.int (0 : Int32)), .val (.int (if (b &&& (2 : Int32)) = (0 : Int32) then (0 : Int32) else (1 : Int32))), .val (.int (2 : Int32)), .val (.ref f2), .val (.int (1 : Int32)), .unset] [])) P
        by_cases hk5 : (b &&& (2 : Int32)) = (0 : Int32)
        · rw [if_pos hk5]
          show Go pg.tables ev below (T20.setTop (mkF mi 184 #[.val (.int a), .val (.int b), .val (.int (0 : Int32)), .val (.int (1 : Int32)), .val (.int (0 : Int32)), .val (.int (0 : Int32)), .val (.int (2 : Int32)), .val (.ref f2), .val (.int (1 : Int32)), .unset] [])) P
          refine Go.st (fun t_ k_ => XS.iload X20.here hx rfl (hb hby at_184) rfl k_) ?_
          show Go pg.tables ev below (T20.setTop (mkF mi 186 #[.val (.int a), .val (.int b), .val (.int (0 : Int32)), .val (.int (1 : Int32)), .val (.int (0 : Int32)), .val (.int (0 : Int32)), .val (.int (2 : Int32)), .val (.ref f2), .val (.int (1 : Int32)), .unset] [(.int (0 : Int32))])) P
          refine Go.st (fun t_ k_ => XS.iload X20.here hx rfl (hb hby at_186) rfl k_) ?_
          show Go pg.tables ev below (T20.setTop (mkF mi 188 #[.val (.int a), .val (.int b), .val (.int (0 : Int32)), .val (.int (1 : Int32)), .val (.int (0 : Int32)), .val (.int (0 : Int32)), .val (.int (2 : Int32)), .val (.ref f2), .val (.int (1 : Int32)), .unset] [(.int (0 : Int32)), (.int (0 : Int32))])) P
          obtain ⟨_, _, ⟨T21, L21, k21, n21⟩, -, X21, ⟨Lc21, hQ21, l21, y21, z21⟩, st21⟩ := Jvm.LawKit.callS X20 hx (y := (⟨"com/example/baton/baton/TraceFlags", "of", "(ZZ)Lcom/example/baton/baton/TraceFlags;"⟩ : MethodName)) hown (mvT hZ (hw _ (List.mem_of_getElem? (i := 0) rfl))) (mvT hZ (hw _ (List.mem_of_getElem? (i := 1) rfl))) (mvT hZ (hw _ (List.mem_of_getElem? (i := 2) rfl))) (mvT hZ (hw _ (List.mem_of_getElem? (i := 3) rfl))) (by decide) (backOf (W := 0) (rmOf0 l Z a0 hw [] ar ka f0 f1 f2 f3 f5 f7 f8 f10 h0 n0 Z0 S0 A0) hZ (hw _ (List.mem_of_getElem? (i := 3) rfl)) (hw _ (List.mem_of_getElem? (i := 2) rfl)) (by decide) (by decide)) (g := (mkF mi 188 #[.val (.int a), .val (.int b), .val (.int (0 : Int32)), .val (.int (1 : Int32)), .val (.int (0 : Int32)), .val (.int (0 : Int32)), .val (.int (2 : Int32)), .val (.ref f2), .val (.int (1 : Int32)), .unset] [(.int (0 : Int32)), (.int (0 : Int32))])) rfl (by rw [hml]; rfl) (argsL := [(.int (0 : Int32)), (.int (0 : Int32))]) (rest := []) (lenOf pd_0 rfl) rfl (by show 2 * 0 + _ ≤ _; exact Nat.le_of_eq rfl) (hb hby at_188) (fun _ _ => ⟨rfl, e20, (by decide : 0 + 0 ≤ _), (by decide : 0 + 0 ≤ _)⟩)
          dsimp only [Pt.U, Pt.locs, Pt.cells, Pt.slots] at X21 l21 y21 z21 st21 hQ21
          subst l21 y21 z21
          obtain ⟨rfl, N21q, e21⟩ := hQ21
          have N21 := Fr.app N20 N21q
          refine Go.st st21 ?_
          show Go pg.tables ev below (T21.setTop (mkF mi 191 #[.val (.int a), .val (.int b), .val (.int (0 : Int32)), .val (.int (1 : Int32)), .val (.int (0 : Int32)), .val (.int (0 : Int32)), .val (.int (2 : Int32)), .val (.ref f2), .val (.int (1 : Int32)), .unset] [(.ref f0)])) P
          refine Go.st (fun t_ k_ => XS.astore X21.here hx rfl (hb hby at_191) rfl rfl (l' := #[.val (.int a), .val (.int b), .val (.int (0 : Int32)), .val (.int (1 : Int32)), .val (.int (0 : Int32)), .val (.int (0 : Int32)), .val (.int (2 : Int32)), .val (.ref f2), .val (.int (1 : Int32)), .val (.ref f0)]) rfl k_) ?_
          show Go pg.tables ev below (T21.setTop (mkF mi 193 #[.val (.int a), .val (.int b), .val (.int (0 : Int32)), .val (.int (1 : Int32)), .val (.int (0 : Int32)), .val (.int (0 : Int32)), .val (.int (2 : Int32)), .val (.ref f2), .val (.int (1 : Int32)), .val (.ref f0)] [])) P
          refine Go.st (fun t_ k_ => XS.iload X21.here hx rfl (hb hby at_193) rfl k_) ?_
          show Go pg.tables ev below (T21.setTop (mkF mi 195 #[.val (.int a), .val (.int b), .val (.int (0 : Int32)), .val (.int (1 : Int32)), .val (.int (0 : Int32)), .val (.int (0 : Int32)), .val (.int (2 : Int32)), .val (.ref f2), .val (.int (1 : Int32)), .val (.ref f0)] [(.int (1 : Int32))])) P
          refine Go.st (fun t_ k_ => XS.ifNo X21.here hx rfl (hb hby at_195) rfl ((if0 _ _).trans (feq (by decide)).1) k_) ?_
          show Go pg.tables ev below (T21.setTop (mkF mi 198 #[.val (.int a), .val (.int b), .val (.int (0 : Int32)), .val (.int (1 : Int32)), .val (.int (0 : Int32)), .val (.int (0 : Int32)), .val (.int (2 : Int32)), .val (.ref f2), .val (.int (1 : Int32)), .val (.ref f0)] [])) P
          refine Go.st (fun t_ k_ => XS.aload X21.here hx rfl (hb hby at_198) rfl rfl k_) ?_
          show Go pg.tables ev below (T21.setTop (mkF mi 200 #[.val (.int a), .val (.int b), .val (.int (0 : Int32)), .val (.int (1 : Int32)), .val (.int (0 : Int32)), .val (.int (0 : Int32)), .val (.int (2 : Int32)), .val (.ref f2), .val (.int (1 : Int32)), .val (.ref f0)] [(.ref f2)])) P
          refine Go.st (fun t_ k_ => XS.aload X21.here hx rfl (hb hby at_200) rfl rfl k_) ?_
          show Go pg.tables ev below (T21.setTop (mkF mi 202 #[.val (.int a), .val (.int b), .val (.int (0 : Int32)), .val (.int (1 : Int32)), .val (.int (0 : Int32)), .val (.int (0 : Int32)), .val (.int (2 : Int32)), .val (.ref f2), .val (.int (1 : Int32)), .val (.ref f0)] [(.ref f0), (.ref f2)])) P
          refine Go.st (fun t_ k_ => Jvm.RoadKit.acmp (g := (mkF mi 202 #[.val (.int a), .val (.int b), .val (.int (0 : Int32)), .val (.int (1 : Int32)), .val (.int (0 : Int32)), .val (.int (0 : Int32)), .val (.int (2 : Int32)), .val (.ref f2), .val (.int (1 : Int32)), .val (.ref f0)] [(.ref f0), (.ref f2)])) X21 hx rfl rfl rfl (pc0 := 202) (pc' := 209) (same := false) rfl (hb hby at_202) rfl (decide_eq_false fun q => (Ne.symm ne02) (Value.ref.inj q)) (by decide) (by decide) k_) ?_
          show Go pg.tables ev below (T21.setTop (mkF mi 209 #[.val (.int a), .val (.int b), .val (.int (0 : Int32)), .val (.int (1 : Int32)), .val (.int (0 : Int32)), .val (.int (0 : Int32)), .val (.int (2 : Int32)), .val (.ref f2), .val (.int (1 : Int32)), .val (.ref f0)] [])) P
          refine Go.st (fun t_ k_ => XS.iconst X21.here hx rfl (hb hby at_209) k_) ?_
          show Go pg.tables ev below (T21.setTop (mkF mi 210 #[.val (.int a), .val (.int b), .val (.int (0 : Int32)), .val (.int (1 : Int32)), .val (.int (0 : Int32)), .val (.int (0 : Int32)), .val (.int (2 : Int32)), .val (.ref f2), .val (.int (1 : Int32)), .val (.ref f0)] [(.int (0 : Int32))])) P
          refine Go.st (fun t_ k_ => XS.iloadN X21.here hx rfl (hb hby at_210) rfl k_) ?_
          show Go pg.tables ev below (T21.setTop (mkF mi 211 #[.val (.int a), .val (.int b), .val (.int (0 : Int32)), .val (.int (1 : Int32)), .val (.int (0 : Int32)), .val (.int (0 : Int32)), .val (.int (2 : Int32)), .val (.ref f2), .val (.int (1 : Int32)), .val (.ref f0)] [(.int (0 : Int32)), (.int (0 : Int32))])) P
          refine Go.st (fun t_ k_ => XS.iload X21.here hx rfl (hb hby at_211) rfl k_) ?_
          show Go pg.tables ev below (T21.setTop (mkF mi 213 #[.val (.int a), .val (.int b), .val (.int (0 : Int32)), .val (.int (1 : Int32)), .val (.int (0 : Int32)), .val (.int (0 : Int32)), .val (.int (2 : Int32)), .val (.ref f2), .val (.int (1 : Int32)), .val (.ref f0)] [(.int (0 : Int32)), (.int (0 : Int32)), (.int (0 : Int32))])) P
          refine Go.st (fun t_ k_ => XS.icmpNo X21.here hx rfl (hb hby at_213) rfl (teq rfl).2 k_) ?_
          show Go pg.tables ev below (T21.setTop (mkF mi 216 #[.val (.int a), .val (.int b), .val (.int (0 : Int32)), .val (.int (1 : Int32)), .val (.int (0 : Int32)), .val (.int (0 : Int32)), .val (.int (2 : Int32)), .val (.ref f2), .val (.int (1 : Int32)), .val (.ref f0)] [(.int (0 : Int32))])) P
          refine Go.st (fun t_ k_ => XS.iloadN X21.here hx rfl (hb hby at_216) rfl k_) ?_
          show Go pg.tables ev below (T21.setTop (mkF mi 217 #[.val (.int a), .val (.int b), .val (.int (0 : Int32)), .val (.int (1 : Int32)), .val (.int (0 : Int32)), .val (.int (0 : Int32)), .val (.int (2 : Int32)), .val (.ref f2), .val (.int (1 : Int32)), .val (.ref f0)] [(.int (1 : Int32)), (.int (0 : Int32))])) P
          refine Go.st (fun t_ k_ => XS.iload X21.here hx rfl (hb hby at_217) rfl k_) ?_
          show Go pg.tables ev below (T21.setTop (mkF mi 219 #[.val (.int a), .val (.int b), .val (.int (0 : Int32)), .val (.int (1 : Int32)), .val (.int (0 : Int32)), .val (.int (0 : Int32)), .val (.int (2 : Int32)), .val (.ref f2), .val (.int (1 : Int32)), .val (.ref f0)] [(.int (0 : Int32)), (.int (1 : Int32)), (.int (0 : Int32))])) P
          refine Go.st (fun t_ k_ => XS.icmpYes X21.here hx rfl (pc0 := 219) (pc' := 226) rfl (hb hby at_219) rfl (feq (by decide)).2 (by decide) (by decide) k_) ?_
          show Go pg.tables ev below (T21.setTop (mkF mi 226 #[.val (.int a), .val (.int b), .val (.int (0 : Int32)), .val (.int (1 : Int32)), .val (.int (0 : Int32)), .val (.int (0 : Int32)), .val (.int (2 : Int32)), .val (.ref f2), .val (.int (1 : Int32)), .val (.ref f0)] [(.int (0 : Int32))])) P
          refine Go.st (fun t_ k_ => XS.iconst X21.here hx rfl (hb hby at_226) k_) ?_
          show Go pg.tables ev below (T21.setTop (mkF mi 227 #[.val (.int a), .val (.int b), .val (.int (0 : Int32)), .val (.int (1 : Int32)), .val (.int (0 : Int32)), .val (.int (0 : Int32)), .val (.int (2 : Int32)), .val (.ref f2), .val (.int (1 : Int32)), .val (.ref f0)] [(.int (0 : Int32)), (.int (0 : Int32))])) P
          refine Go.st (fun t_ k_ => XS.icmpNo X21.here hx rfl (hb hby at_227) rfl (teq rfl).2 k_) ?_
          show Go pg.tables ev below (T21.setTop (mkF mi 230 #[.val (.int a), .val (.int b), .val (.int (0 : Int32)), .val (.int (1 : Int32)), .val (.int (0 : Int32)), .val (.int (0 : Int32)), .val (.int (2 : Int32)), .val (.ref f2), .val (.int (1 : Int32)), .val (.ref f0)] [])) P
          refine Go.st (fun t_ k_ => XS.iconst X21.here hx rfl (hb hby at_230) k_) ?_
          show Go pg.tables ev below (T21.setTop (mkF mi 231 #[.val (.int a), .val (.int b), .val (.int (0 : Int32)), .val (.int (1 : Int32)), .val (.int (0 : Int32)), .val (.int (0 : Int32)), .val (.int (2 : Int32)), .val (.ref f2), .val (.int (1 : Int32)), .val (.ref f0)] [(.int (1 : Int32))])) P
          refine Go.st (fun t_ k_ => XS.goto X21.here hx rfl (pc0 := 231) (pc' := 235) rfl (hb hby at_231) (by decide) (by decide) k_) ?_
          show Go pg.tables ev below (T21.setTop (mkF mi 235 #[.val (.int a), .val (.int b), .val (.int (0 : Int32)), .val (.int (1 : Int32)), .val (.int (0 : Int32)), .val (.int (0 : Int32)), .val (.int (2 : Int32)), .val (.ref f2), .val (.int (1 : Int32)), .val (.ref f0)] [(.int (1 : Int32))])) P
          refine Go.st (fun t_ k_ => XS.istore X21.here hx rfl (hb hby at_235) rfl (l' := #[.val (.int a), .val (.int b), .val (.int (0 : Int32)), .val (.int (1 : Int32)), .val (.int (0 : Int32)), .val (.int (0 : Int32)), .val (.int (2 : Int32)), .val (.ref f2), .val (.int (1 : Int32)), .val (.ref f0)]) rfl k_) ?_
          show Go pg.tables ev below (T21.setTop (mkF mi 237 #[.val (.int a), .val (.int b), .val (.int (0 : Int32)), .val (.int (1 : Int32)), .val (.int (0 : Int32)), .val (.int (0 : Int32)), .val (.int (2 : Int32)), .val (.ref f2), .val (.int (1 : Int32)), .val (.ref f0)] [])) P
          refine Go.st (fun t_ k_ => XS.iload X21.here hx rfl (hb hby at_237) rfl k_) ?_
          show Go pg.tables ev below (T21.setTop (mkF mi 239 #[.val (.int a), .val (.int b), .val (.int (0 : Int32)), .val (.int (1 : Int32)), .val (.int (0 : Int32)), .val (.int (0 : Int32)), .val (.int (2 : Int32)), .val (.ref f2), .val (.int (1 : Int32)), .val (.ref f0)] [(.int (1 : Int32))])) P
          obtain ⟨fs, hr, hrun, hended, hW, hsame⟩ := X21.leave (v := some (.int (1 : Int32))) (fun h => by rw [Bd.returns] at h; cases h) (BodyLoose.notSynchronized Bd)
          refine ⟨_, _, ?_, hP _ _ ⟨hrun, hended, _, _, rfl, ?_, ⟨_, rfl⟩, hW, hsame.mono (by decide) (by decide)⟩⟩
          · exact retN X21 hx (t := .boolean) Bd.returns (by simp) (hb hby at_239) hr
          · show (some (.int (1 : Int32)) : Option Value) = some (.int 1) ∧ Fr n0 _
            exact ⟨rfl, N21⟩
        · rw [if_neg hk5]
          show Go pg.tables ev below (T20.setTop (mkF mi 184 #[.val (.int a), .val (.int b), .val (.int (0 : Int32)), .val (.int (1 : Int32)), .val (.int (0 : Int32)), .val (.int (1 : Int32)), .val (.int (2 : Int32)), .val (.ref f2), .val (.int (1 : Int32)), .unset] [])) P
          refine Go.st (fun t_ k_ => XS.iload X20.here hx rfl (hb hby at_184) rfl k_) ?_
          show Go pg.tables ev below (T20.setTop (mkF mi 186 #[.val (.int a), .val (.int b), .val (.int (0 : Int32)), .val (.int (1 : Int32)), .val (.int (0 : Int32)), .val (.int (1 : Int32)), .val (.int (2 : Int32)), .val (.ref f2), .val (.int (1 : Int32)), .unset] [(.int (0 : Int32))])) P
          refine Go.st (fun t_ k_ => XS.iload X20.here hx rfl (hb hby at_186) rfl k_) ?_
          show Go pg.tables ev below (T20.setTop (mkF mi 188 #[.val (.int a), .val (.int b), .val (.int (0 : Int32)), .val (.int (1 : Int32)), .val (.int (0 : Int32)), .val (.int (1 : Int32)), .val (.int (2 : Int32)), .val (.ref f2), .val (.int (1 : Int32)), .unset] [(.int (1 : Int32)), (.int (0 : Int32))])) P
          obtain ⟨_, _, ⟨T22, L22, k22, n22⟩, -, X22, ⟨Lc22, hQ22, l22, y22, z22⟩, st22⟩ := Jvm.LawKit.callS X20 hx (y := (⟨"com/example/baton/baton/TraceFlags", "of", "(ZZ)Lcom/example/baton/baton/TraceFlags;"⟩ : MethodName)) hown (mvT hZ (hw _ (List.mem_of_getElem? (i := 0) rfl))) (mvT hZ (hw _ (List.mem_of_getElem? (i := 1) rfl))) (mvT hZ (hw _ (List.mem_of_getElem? (i := 2) rfl))) (mvT hZ (hw _ (List.mem_of_getElem? (i := 3) rfl))) (by decide) (backOf (W := 0) (rmOf2 l Z a0 hw [] ar ka f0 f1 f2 f3 f5 f7 f8 f10 h0 n0 Z0 S0 A0) hZ (hw _ (List.mem_of_getElem? (i := 3) rfl)) (hw _ (List.mem_of_getElem? (i := 2) rfl)) (by decide) (by decide)) (g := (mkF mi 188 #[.val (.int a), .val (.int b), .val (.int (0 : Int32)), .val (.int (1 : Int32)), .val (.int (0 : Int32)), .val (.int (1 : Int32)), .val (.int (2 : Int32)), .val (.ref f2), .val (.int (1 : Int32)), .unset] [(.int (1 : Int32)), (.int (0 : Int32))])) rfl (by rw [hml]; rfl) (argsL := [(.int (0 : Int32)), (.int (1 : Int32))]) (rest := []) (lenOf pd_0 rfl) rfl (by show 2 * 0 + _ ≤ _; exact Nat.le_of_eq rfl) (hb hby at_188) (fun _ _ => ⟨rfl, e20, (by decide : 0 + 0 ≤ _), (by decide : 0 + 0 ≤ _)⟩)
          dsimp only [Pt.U, Pt.locs, Pt.cells, Pt.slots] at X22 l22 y22 z22 st22 hQ22
          subst l22 y22 z22
          obtain ⟨rfl, N22q, e22⟩ := hQ22
          have N22 := Fr.app N20 N22q
          refine Go.st st22 ?_
          show Go pg.tables ev below (T22.setTop (mkF mi 191 #[.val (.int a), .val (.int b), .val (.int (0 : Int32)), .val (.int (1 : Int32)), .val (.int (0 : Int32)), .val (.int (1 : Int32)), .val (.int (2 : Int32)), .val (.ref f2), .val (.int (1 : Int32)), .unset] [(.ref f2)])) P
          refine Go.st (fun t_ k_ => XS.astore X22.here hx rfl (hb hby at_191) rfl rfl (l' := #[.val (.int a), .val (.int b), .val (.int (0 : Int32)), .val (.int (1 : Int32)), .val (.int (0 : Int32)), .val (.int (1 : Int32)), .val (.int (2 : Int32)), .val (.ref f2), .val (.int (1 : Int32)), .val (.ref f2)]) rfl k_) ?_
          show Go pg.tables ev below (T22.setTop (mkF mi 193 #[.val (.int a), .val (.int b), .val (.int (0 : Int32)), .val (.int (1 : Int32)), .val (.int (0 : Int32)), .val (.int (1 : Int32)), .val (.int (2 : Int32)), .val (.ref f2), .val (.int (1 : Int32)), .val (.ref f2)] [])) P
          refine Go.st (fun t_ k_ => XS.iload X22.here hx rfl (hb hby at_193) rfl k_) ?_
          show Go pg.tables ev below (T22.setTop (mkF mi 195 #[.val (.int a), .val (.int b), .val (.int (0 : Int32)), .val (.int (1 : Int32)), .val (.int (0 : Int32)), .val (.int (1 : Int32)), .val (.int (2 : Int32)), .val (.ref f2), .val (.int (1 : Int32)), .val (.ref f2)] [(.int (1 : Int32))])) P
          refine Go.st (fun t_ k_ => XS.ifNo X22.here hx rfl (hb hby at_195) rfl ((if0 _ _).trans (feq (by decide)).1) k_) ?_
          show Go pg.tables ev below (T22.setTop (mkF mi 198 #[.val (.int a), .val (.int b), .val (.int (0 : Int32)), .val (.int (1 : Int32)), .val (.int (0 : Int32)), .val (.int (1 : Int32)), .val (.int (2 : Int32)), .val (.ref f2), .val (.int (1 : Int32)), .val (.ref f2)] [])) P
          refine Go.st (fun t_ k_ => XS.aload X22.here hx rfl (hb hby at_198) rfl rfl k_) ?_
          show Go pg.tables ev below (T22.setTop (mkF mi 200 #[.val (.int a), .val (.int b), .val (.int (0 : Int32)), .val (.int (1 : Int32)), .val (.int (0 : Int32)), .val (.int (1 : Int32)), .val (.int (2 : Int32)), .val (.ref f2), .val (.int (1 : Int32)), .val (.ref f2)] [(.ref f2)])) P
          refine Go.st (fun t_ k_ => XS.aload X22.here hx rfl (hb hby at_200) rfl rfl k_) ?_
          show Go pg.tables ev below (T22.setTop (mkF mi 202 #[.val (.int a), .val (.int b), .val (.int (0 : Int32)), .val (.int (1 : Int32)), .val (.int (0 : Int32)), .val (.int (1 : Int32)), .val (.int (2 : Int32)), .val (.ref f2), .val (.int (1 : Int32)), .val (.ref f2)] [(.ref f2), (.ref f2)])) P
          refine Go.st (fun t_ k_ => Jvm.RoadKit.acmp (g := (mkF mi 202 #[.val (.int a), .val (.int b), .val (.int (0 : Int32)), .val (.int (1 : Int32)), .val (.int (0 : Int32)), .val (.int (1 : Int32)), .val (.int (2 : Int32)), .val (.ref f2), .val (.int (1 : Int32)), .val (.ref f2)] [(.ref f2), (.ref f2)])) X22 hx rfl rfl rfl (pc0 := 202) (pc' := 205) (same := true) rfl (hb hby at_202) rfl (decide_eq_true rfl) (by decide) (by decide) k_) ?_
          show Go pg.tables ev below (T22.setTop (mkF mi 205 #[.val (.int a), .val (.int b), .val (.int (0 : Int32)), .val (.int (1 : Int32)), .val (.int (0 : Int32)), .val (.int (1 : Int32)), .val (.int (2 : Int32)), .val (.ref f2), .val (.int (1 : Int32)), .val (.ref f2)] [])) P
          refine Go.st (fun t_ k_ => XS.iconst X22.here hx rfl (hb hby at_205) k_) ?_
          show Go pg.tables ev below (T22.setTop (mkF mi 206 #[.val (.int a), .val (.int b), .val (.int (0 : Int32)), .val (.int (1 : Int32)), .val (.int (0 : Int32)), .val (.int (1 : Int32)), .val (.int (2 : Int32)), .val (.ref f2), .val (.int (1 : Int32)), .val (.ref f2)] [(.int (1 : Int32))])) P
          refine Go.st (fun t_ k_ => XS.goto X22.here hx rfl (pc0 := 206) (pc' := 210) rfl (hb hby at_206) (by decide) (by decide) k_) ?_
          show Go pg.tables ev below (T22.setTop (mkF mi 210 #[.val (.int a), .val (.int b), .val (.int (0 : Int32)), .val (.int (1 : Int32)), .val (.int (0 : Int32)), .val (.int (1 : Int32)), .val (.int (2 : Int32)), .val (.ref f2), .val (.int (1 : Int32)), .val (.ref f2)] [(.int (1 : Int32))])) P
          refine Go.st (fun t_ k_ => XS.iloadN X22.here hx rfl (hb hby at_210) rfl k_) ?_
          show Go pg.tables ev below (T22.setTop (mkF mi 211 #[.val (.int a), .val (.int b), .val (.int (0 : Int32)), .val (.int (1 : Int32)), .val (.int (0 : Int32)), .val (.int (1 : Int32)), .val (.int (2 : Int32)), .val (.ref f2), .val (.int (1 : Int32)), .val (.ref f2)] [(.int (0 : Int32)), (.int (1 : Int32))])) P
          refine Go.st (fun t_ k_ => XS.iload X22.here hx rfl (hb hby at_211) rfl k_) ?_
          show Go pg.tables ev below (T22.setTop (mkF mi 213 #[.val (.int a), .val (.int b), .val (.int (0 : Int32)), .val (.int (1 : Int32)), .val (.int (0 : Int32)), .val (.int (1 : Int32)), .val (.int (2 : Int32)), .val (.ref f2), .val (.int (1 : Int32)), .val (.ref f2)] [(.int (0 : Int32)), (.int (0 : Int32)), (.int (1 : Int32))])) P
          refine Go.st (fun t_ k_ => XS.icmpNo X22.here hx rfl (hb hby at_213) rfl (teq rfl).2 k_) ?_
          show Go pg.tables ev below (T22.setTop (mkF mi 216 #[.val (.int a), .val (.int b), .val (.int (0 : Int32)), .val (.int (1 : Int32)), .val (.int (0 : Int32)), .val (.int (1 : Int32)), .val (.int (2 : Int32)), .val (.ref f2), .val (.int (1 : Int32)), .val (.ref f2)] [(.int (1 : Int32))])) P
          refine Go.st (fun t_ k_ => XS.iloadN X22.here hx rfl (hb hby at_216) rfl k_) ?_
          show Go pg.tables ev below (T22.setTop (mkF mi 217 #[.val (.int a), .val (.int b), .val (.int (0 : Int32)), .val (.int (1 : Int32)), .val (.int (0 : Int32)), .val (.int (1 : Int32)), .val (.int (2 : Int32)), .val (.ref f2), .val (.int (1 : Int32)), .val (.ref f2)] [(.int (1 : Int32)), (.int (1 : Int32))])) P
          refine Go.st (fun t_ k_ => XS.iload X22.here hx rfl (hb hby at_217) rfl k_) ?_
          show Go pg.tables ev below (T22.setTop (mkF mi 219 #[.val (.int a), .val (.int b), .val (.int (0 : Int32)), .val (.int (1 : Int32)), .val (.int (0 : Int32)), .val (.int (1 : Int32)), .val (.int (2 : Int32)), .val (.ref f2), .val (.int (1 : Int32)), .val (.ref f2)] [(.int (1 : Int32)), (.int (1 : Int32)), (.int (1 : Int32))])) P
          refine Go.st (fun t_ k_ => XS.icmpNo X22.here hx rfl (hb hby at_219) rfl (teq rfl).2 k_) ?_
          show Go pg.tables ev below (T22.setTop (mkF mi 222 #[.val (.int a), .val (.int b), .val (.int (0 : Int32)), .val (.int (1 : Int32)), .val (.int (0 : Int32)), .val (.int (1 : Int32)), .val (.int (2 : Int32)), .val (.ref f2), .val (.int (1 : Int32)), .val (.ref f2)] [(.int (1 : Int32))])) P
          refine Go.st (fun t_ k_ => XS.iconst X22.here hx rfl (hb hby at_222) k_) ?_
          show Go pg.tables ev below (T22.setTop (mkF mi 223 #[.val (.int a), .val (.int b), .val (.int (0 : Int32)), .val (.int (1 : Int32)), .val (.int (0 : Int32)), .val (.int (1 : Int32)), .val (.int (2 : Int32)), .val (.ref f2), .val (.int (1 : Int32)), .val (.ref f2)] [(.int (1 : Int32)), (.int (1 : Int32))])) P
          refine Go.st (fun t_ k_ => XS.goto X22.here hx rfl (pc0 := 223) (pc' := 227) rfl (hb hby at_223) (by decide) (by decide) k_) ?_
          show Go pg.tables ev below (T22.setTop (mkF mi 227 #[.val (.int a), .val (.int b), .val (.int (0 : Int32)), .val (.int (1 : Int32)), .val (.int (0 : Int32)), .val (.int (1 : Int32)), .val (.int (2 : Int32)), .val (.ref f2), .val (.int (1 : Int32)), .val (.ref f2)] [(.int (1 : Int32)), (.int (1 : Int32))])) P
          refine Go.st (fun t_ k_ => XS.icmpNo X22.here hx rfl (hb hby at_227) rfl (teq rfl).2 k_) ?_
          show Go pg.tables ev below (T22.setTop (mkF mi 230 #[.val (.int a), .val (.int b), .val (.int (0 : Int32)), .val (.int (1 : Int32)), .val (.int (0 : Int32)), .val (.int (1 : Int32)), .val (.int (2 : Int32)), .val (.ref f2), .val (.int (1 : Int32)), .val (.ref f2)] [])) P
          refine Go.st (fun t_ k_ => XS.iconst X22.here hx rfl (hb hby at_230) k_) ?_
          show Go pg.tables ev below (T22.setTop (mkF mi 231 #[.val (.int a), .val (.int b), .val (.int (0 : Int32)), .val (.int (1 : Int32)), .val (.int (0 : Int32)), .val (.int (1 : Int32)), .val (.int (2 : Int32)), .val (.ref f2), .val (.int (1 : Int32)), .val (.ref f2)] [(.int (1 : Int32))])) P
          refine Go.st (fun t_ k_ => XS.goto X22.here hx rfl (pc0 := 231) (pc' := 235) rfl (hb hby at_231) (by decide) (by decide) k_) ?_
          show Go pg.tables ev below (T22.setTop (mkF mi 235 #[.val (.int a), .val (.int b), .val (.int (0 : Int32)), .val (.int (1 : Int32)), .val (.int (0 : Int32)), .val (.int (1 : Int32)), .val (.int (2 : Int32)), .val (.ref f2), .val (.int (1 : Int32)), .val (.ref f2)] [(.int (1 : Int32))])) P
          refine Go.st (fun t_ k_ => XS.istore X22.here hx rfl (hb hby at_235) rfl (l' := #[.val (.int a), .val (.int b), .val (.int (0 : Int32)), .val (.int (1 : Int32)), .val (.int (0 : Int32)), .val (.int (1 : Int32)), .val (.int (2 : Int32)), .val (.ref f2), .val (.int (1 : Int32)), .val (.ref f2)]) rfl k_) ?_
          show Go pg.tables ev below (T22.setTop (mkF mi 237 #[.val (.int a), .val (.int b), .val (.int (0 : Int32)), .val (.int (1 : Int32)), .val (.int (0 : Int32)), .val (.int (1 : Int32)), .val (.int (2 : Int32)), .val (.ref f2), .val (.int (1 : Int32)), .val (.ref f2)] [])) P
          refine Go.st (fun t_ k_ => XS.iload X22.here hx rfl (hb hby at_237) rfl k_) ?_
          show Go pg.tables ev below (T22.setTop (mkF mi 239 #[.val (.int a), .val (.int b), .val (.int (0 : Int32)), .val (.int (1 : Int32)), .val (.int (0 : Int32)), .val (.int (1 : Int32)), .val (.int (2 : Int32)), .val (.ref f2), .val (.int (1 : Int32)), .val (.ref f2)] [(.int (1 : Int32))])) P
          obtain ⟨fs, hr, hrun, hended, hW, hsame⟩ := X22.leave (v := some (.int (1 : Int32))) (fun h => by rw [Bd.returns] at h; cases h) (BodyLoose.notSynchronized Bd)
          refine ⟨_, _, ?_, hP _ _ ⟨hrun, hended, _, _, rfl, ?_, ⟨_, rfl⟩, hW, hsame.mono (by decide) (by decide)⟩⟩
          · exact retN X22 hx (t := .boolean) Bd.returns (by simp) (hb hby at_239) hr
          · show (some (.int (1 : Int32)) : Option Value) = some (.int 1) ∧ Fr n0 _
            exact ⟨rfl, N22⟩
      · rw [if_neg hk4]
        show Go pg.tables ev below (T20.setTop (mkF mi 184 #[.val (.int a), .val (.int b), .val (.int (0 : Int32)), .val (.int (1 : Int32)), .val (.int (1 : Int32)), .val (.int (if (b &&& (2 : Int32)) = (0 : Int32) then (0 : Int32) else (1 : Int32))), .val (.int (2 : Int32)), .val (.ref f2), .val (.int (1 : Int32)), .unset] [])) P
        by_cases hk5 : (b &&& (2 : Int32)) = (0 : Int32)
        · rw [if_pos hk5]
          show Go pg.tables ev below (T20.setTop (mkF mi 184 #[.val (.int a), .val (.int b), .val (.int (0 : Int32)), .val (.int (1 : Int32)), .val (.int (1 : Int32)), .val (.int (0 : Int32)), .val (.int (2 : Int32)), .val (.ref f2), .val (.int (1 : Int32)), .unset] [])) P
          refine Go.st (fun t_ k_ => XS.iload X20.here hx rfl (hb hby at_184) rfl k_) ?_
          show Go pg.tables ev below (T20.setTop (mkF mi 186 #[.val (.int a), .val (.int b), .val (.int (0 : Int32)), .val (.int (1 : Int32)), .val (.int (1 : Int32)), .val (.int (0 : Int32)), .val (.int (2 : Int32)), .val (.ref f2), .val (.int (1 : Int32)), .unset] [(.int (1 : Int32))])) P
          refine Go.st (fun t_ k_ => XS.iload X20.here hx rfl (hb hby at_186) rfl k_) ?_
          show Go pg.tables ev below (T20.setTop (mkF mi 188 #[.val (.int a), .val (.int b), .val (.int (0 : Int32)), .val (.int (1 : Int32)), .val (.int (1 : Int32)), .val (.int (0 : Int32)), .val (.int (2 : Int32)), .val (.ref f2), .val (.int (1 : Int32)), .unset] [(.int (0 : Int32)), (.int (1 : Int32))])) P
          obtain ⟨_, _, ⟨T23, L23, k23, n23⟩, -, X23, ⟨Lc23, hQ23, l23, y23, z23⟩, st23⟩ := Jvm.LawKit.callS X20 hx (y := (⟨"com/example/baton/baton/TraceFlags", "of", "(ZZ)Lcom/example/baton/baton/TraceFlags;"⟩ : MethodName)) hown (mvT hZ (hw _ (List.mem_of_getElem? (i := 0) rfl))) (mvT hZ (hw _ (List.mem_of_getElem? (i := 1) rfl))) (mvT hZ (hw _ (List.mem_of_getElem? (i := 2) rfl))) (mvT hZ (hw _ (List.mem_of_getElem? (i := 3) rfl))) (by decide) (backOf (W := 0) (rmOf1 l Z a0 hw [] ar ka f0 f1 f2 f3 f5 f7 f8 f10 h0 n0 Z0 S0 A0) hZ (hw _ (List.mem_of_getElem? (i := 3) rfl)) (hw _ (List.mem_of_getElem? (i := 2) rfl)) (by decide) (by decide)) (g := (mkF mi 188 #[.val (.int a), .val (.int b), .val (.int (0 : Int32)), .val (.int (1 : Int32)), .val (.int (1 : Int32)), .val (.int (0 : Int32)), .val (.int (2 : Int32)), .val (.ref f2), .val (.int (1 : Int32)), .unset] [(.int (0 : Int32)), (.int (1 : Int32))])) rfl (by rw [hml]; rfl) (argsL := [(.int (1 : Int32)), (.int (0 : Int32))]) (rest := []) (lenOf pd_0 rfl) rfl (by show 2 * 0 + _ ≤ _; exact Nat.le_of_eq rfl) (hb hby at_188) (fun _ _ => ⟨rfl, e20, (by decide : 0 + 0 ≤ _), (by decide : 0 + 0 ≤ _)⟩)
          dsimp only [Pt.U, Pt.locs, Pt.cells, Pt.slots] at X23 l23 y23 z23 st23 hQ23
          subst l23 y23 z23
          obtain ⟨rfl, N23q, e23⟩ := hQ23
          have N23 := Fr.app N20 N23q
          refine Go.st st23 ?_
          show Go pg.tables ev below (T23.setTop (mkF mi 191 #[.val (.int a), .val (.int b), .val (.int (0 : Int32)), .val (.int (1 : Int32)), .val (.int (1 : Int32)), .val (.int (0 : Int32)), .val (.int (2 : Int32)), .val (.ref f2), .val (.int (1 : Int32)), .unset] [(.ref f1)])) P
          refine Go.st (fun t_ k_ => XS.astore X23.here hx rfl (hb hby at_191) rfl rfl (l' := #[.val (.int a), .val (.int b), .val (.int (0 : Int32)), .val (.int (1 : Int32)), .val (.int (1 : Int32)), .val (.int (0 : Int32)), .val (.int (2 : Int32)), .val (.ref f2), .val (.int (1 : Int32)), .val (.ref f1)]) rfl k_) ?_
          show Go pg.tables ev below (T23.setTop (mkF mi 193 #[.val (.int a), .val (.int b), .val (.int (0 : Int32)), .val (.int (1 : Int32)), .val (.int (1 : Int32)), .val (.int (0 : Int32)), .val (.int (2 : Int32)), .val (.ref f2), .val (.int (1 : Int32)), .val (.ref f1)] [])) P
          refine Go.st (fun t_ k_ => XS.iload X23.here hx rfl (hb hby at_193) rfl k_) ?_
          show Go pg.tables ev below (T23.setTop (mkF mi 195 #[.val (.int a), .val (.int b), .val (.int (0 : Int32)), .val (.int (1 : Int32)), .val (.int (1 : Int32)), .val (.int (0 : Int32)), .val (.int (2 : Int32)), .val (.ref f2), .val (.int (1 : Int32)), .val (.ref f1)] [(.int (1 : Int32))])) P
          refine Go.st (fun t_ k_ => XS.ifNo X23.here hx rfl (hb hby at_195) rfl ((if0 _ _).trans (feq (by decide)).1) k_) ?_
          show Go pg.tables ev below (T23.setTop (mkF mi 198 #[.val (.int a), .val (.int b), .val (.int (0 : Int32)), .val (.int (1 : Int32)), .val (.int (1 : Int32)), .val (.int (0 : Int32)), .val (.int (2 : Int32)), .val (.ref f2), .val (.int (1 : Int32)), .val (.ref f1)] [])) P
          refine Go.st (fun t_ k_ => XS.aload X23.here hx rfl (hb hby at_198) rfl rfl k_) ?_
          show Go pg.tables ev below (T23.setTop (mkF mi 200 #[.val (.int a), .val (.int b), .val (.int (0 : Int32)), .val (.int (1 : Int32)), .val (.int (1 : Int32)), .val (.int (0 : Int32)), .val (.int (2 : Int32)), .val (.ref f2), .val (.int (1 : Int32)), .val (.ref f1)] [(.ref f2)])) P
          refine Go.st (fun t_ k_ => XS.aload X23.here hx rfl (hb hby at_200) rfl rfl k_) ?_
          show Go pg.tables ev below (T23.setTop (mkF mi 202 #[.val (.int a), .val (.int b), .val (.int (0 : Int32)), .val (.int (1 : Int32)), .val (.int (1 : Int32)), .val (.int (0 : Int32)), .val (.int (2 : Int32)), .val (.ref f2), .val (.int (1 : Int32)), .val (.ref f1)] [(.ref f1), (.ref f2)])) P
          refine Go.st (fun t_ k_ => Jvm.RoadKit.acmp (g := (mkF mi 202 #[.val (.int a), .val (.int b), .val (.int (0 : Int32)), .val (.int (1 : Int32)), .val (.int (1 : Int32)), .val (.int (0 : Int32)), .val (.int (2 : Int32)), .val (.ref f2), .val (.int (1 : Int32)), .val (.ref f1)] [(.ref f1), (.ref f2)])) X23 hx rfl rfl rfl (pc0 := 202) (pc' := 209) (same := false) rfl (hb hby at_202) rfl (decide_eq_false fun q => (Ne.symm ne12) (Value.ref.inj q)) (by decide) (by decide) k_) ?_
          show Go pg.tables ev below (T23.setTop (mkF mi 209 #[.val (.int a), .val (.int b), .val (.int (0 : Int32)), .val (.int (1 : Int32)), .val (.int (1 : Int32)), .val (.int (0 : Int32)), .val (.int (2 : Int32)), .val (.ref f2), .val (.int (1 : Int32)), .val (.ref f1)] [])) P
          refine Go.st (fun t_ k_ => XS.iconst X23.here hx rfl (hb hby at_209) k_) ?_
          show Go pg.tables ev below (T23.setTop (mkF mi 210 #[.val (.int a), .val (.int b), .val (.int (0 : Int32)), .val (.int (1 : Int32)), .val (.int (1 : Int32)), .val (.int (0 : Int32)), .val (.int (2 : Int32)), .val (.ref f2), .val (.int (1 : Int32)), .val (.ref f1)] [(.int (0 : Int32))])) P
          refine Go.st (fun t_ k_ => XS.iloadN X23.here hx rfl (hb hby at_210) rfl k_) ?_
          show Go pg.tables ev below (T23.setTop (mkF mi 211 #[.val (.int a), .val (.int b), .val (.int (0 : Int32)), .val (.int (1 : Int32)), .val (.int (1 : Int32)), .val (.int (0 : Int32)), .val (.int (2 : Int32)), .val (.ref f2), .val (.int (1 : Int32)), .val (.ref f1)] [(.int (0 : Int32)), (.int (0 : Int32))])) P
          refine Go.st (fun t_ k_ => XS.iload X23.here hx rfl (hb hby at_211) rfl k_) ?_
          show Go pg.tables ev below (T23.setTop (mkF mi 213 #[.val (.int a), .val (.int b), .val (.int (0 : Int32)), .val (.int (1 : Int32)), .val (.int (1 : Int32)), .val (.int (0 : Int32)), .val (.int (2 : Int32)), .val (.ref f2), .val (.int (1 : Int32)), .val (.ref f1)] [(.int (1 : Int32)), (.int (0 : Int32)), (.int (0 : Int32))])) P
          refine Go.st (fun t_ k_ => XS.icmpYes X23.here hx rfl (pc0 := 213) (pc' := 226) rfl (hb hby at_213) rfl (feq (by decide)).2 (by decide) (by decide) k_) ?_
          show Go pg.tables ev below (T23.setTop (mkF mi 226 #[.val (.int a), .val (.int b), .val (.int (0 : Int32)), .val (.int (1 : Int32)), .val (.int (1 : Int32)), .val (.int (0 : Int32)), .val (.int (2 : Int32)), .val (.ref f2), .val (.int (1 : Int32)), .val (.ref f1)] [(.int (0 : Int32))])) P
          refine Go.st (fun t_ k_ => XS.iconst X23.here hx rfl (hb hby at_226) k_) ?_
          show Go pg.tables ev below (T23.setTop (mkF mi 227 #[.val (.int a), .val (.int b), .val (.int (0 : Int32)), .val (.int (1 : Int32)), .val (.int (1 : Int32)), .val (.int (0 : Int32)), .val (.int (2 : Int32)), .val (.ref f2), .val (.int (1 : Int32)), .val (.ref f1)] [(.int (0 : Int32)), (.int (0 : Int32))])) P
          refine Go.st (fun t_ k_ => XS.icmpNo X23.here hx rfl (hb hby at_227) rfl (teq rfl).2 k_) ?_
          show Go pg.tables ev below (T23.setTop (mkF mi 230 #[.val (.int a), .val (.int b), .val (.int (0 : Int32)), .val (.int (1 : Int32)), .val (.int (1 : Int32)), .val (.int (0 : Int32)), .val (.int (2 : Int32)), .val (.ref f2), .val (.int (1 : Int32)), .val (.ref f1)] [])) P
          refine Go.st (fun t_ k_ => XS.iconst X23.here hx rfl (hb hby at_230) k_) ?_
          show Go pg.tables ev below (T23.setTop (mkF mi 231 #[.val (.int a), .val (.int b), .val (.int (0 : Int32)), .val (.int (1 : Int32)), .val (.int (1 : Int32)), .val (.int (0 : Int32)), .val (.int (2 : Int32)), .val (.ref f2), .val (.int (1 : Int32)), .val (.ref f1)] [(.int (1 : Int32))])) P
          refine Go.st (fun t_ k_ => XS.goto X23.here hx rfl (pc0 := 231) (pc' := 235) rfl (hb hby at_231) (by decide) (by decide) k_) ?_
          show Go pg.tables ev below (T23.setTop (mkF mi 235 #[.val (.int a), .val (.int b), .val (.int (0 : Int32)), .val (.int (1 : Int32)), .val (.int (1 : Int32)), .val (.int (0 : Int32)), .val (.int (2 : Int32)), .val (.ref f2), .val (.int (1 : Int32)), .val (.ref f1)] [(.int (1 : Int32))])) P
          refine Go.st (fun t_ k_ => XS.istore X23.here hx rfl (hb hby at_235) rfl (l' := #[.val (.int a), .val (.int b), .val (.int (0 : Int32)), .val (.int (1 : Int32)), .val (.int (1 : Int32)), .val (.int (0 : Int32)), .val (.int (2 : Int32)), .val (.ref f2), .val (.int (1 : Int32)), .val (.ref f1)]) rfl k_) ?_
          show Go pg.tables ev below (T23.setTop (mkF mi 237 #[.val (.int a), .val (.int b), .val (.int (0 : Int32)), .val (.int (1 : Int32)), .val (.int (1 : Int32)), .val (.int (0 : Int32)), .val (.int (2 : Int32)), .val (.ref f2), .val (.int (1 : Int32)), .val (.ref f1)] [])) P
          refine Go.st (fun t_ k_ => XS.iload X23.here hx rfl (hb hby at_237) rfl k_) ?_
          show Go pg.tables ev below (T23.setTop (mkF mi 239 #[.val (.int a), .val (.int b), .val (.int (0 : Int32)), .val (.int (1 : Int32)), .val (.int (1 : Int32)), .val (.int (0 : Int32)), .val (.int (2 : Int32)), .val (.ref f2), .val (.int (1 : Int32)), .val (.ref f1)] [(.int (1 : Int32))])) P
          obtain ⟨fs, hr, hrun, hended, hW, hsame⟩ := X23.leave (v := some (.int (1 : Int32))) (fun h => by rw [Bd.returns] at h; cases h) (BodyLoose.notSynchronized Bd)
          refine ⟨_, _, ?_, hP _ _ ⟨hrun, hended, _, _, rfl, ?_, ⟨_, rfl⟩, hW, hsame.mono (by decide) (by decide)⟩⟩
          · exact retN X23 hx (t := .boolean) Bd.returns (by simp) (hb hby at_239) hr
          · show (some (.int (1 : Int32)) : Option Value) = some (.int 1) ∧ Fr n0 _
            exact ⟨rfl, N23⟩
        · rw [if_neg hk5]
          show Go pg.tables ev below (T20.setTop (mkF mi 184 #[.val (.int a), .val (.int b), .val (.int (0 : Int32)), .val (.int (1 : Int32)), .val (.int (1 : Int32)), .val (.int (1 : Int32)), .val (.int (2 : Int32)), .val (.ref f2), .val (.int (1 : Int32)), .unset] [])) P
          refine Go.st (fun t_ k_ => XS.iload X20.here hx rfl (hb hby at_184) rfl k_) ?_
          show Go pg.tables ev below (T20.setTop (mkF mi 186 #[.val (.int a), .val (.int b), .val (.int (0 : Int32)), .val (.int (1 : Int32)), .val (.int (1 : Int32)), .val (.int (1 : Int32)), .val (.int (2 : Int32)), .val (.ref f2), .val (.int (1 : Int32)), .unset] [(.int (1 : Int32))])) P
          refine Go.st (fun t_ k_ => XS.iload X20.here hx rfl (hb hby at_186) rfl k_) ?_
          show Go pg.tables ev below (T20.setTop (mkF mi 188 #[.val (.int a), .val (.int b), .val (.int (0 : Int32)), .val (.int (1 : Int32)), .val (.int (1 : Int32)), .val (.int (1 : Int32)), .val (.int (2 : Int32)), .val (.ref f2), .val (.int (1 : Int32)), .unset] [(.int (1 : Int32)), (.int (1 : Int32))])) P
          obtain ⟨_, _, ⟨T24, L24, k24, n24⟩, -, X24, ⟨Lc24, hQ24, l24, y24, z24⟩, st24⟩ := Jvm.LawKit.callS X20 hx (y := (⟨"com/example/baton/baton/TraceFlags", "of", "(ZZ)Lcom/example/baton/baton/TraceFlags;"⟩ : MethodName)) hown (mvT hZ (hw _ (List.mem_of_getElem? (i := 0) rfl))) (mvT hZ (hw _ (List.mem_of_getElem? (i := 1) rfl))) (mvT hZ (hw _ (List.mem_of_getElem? (i := 2) rfl))) (mvT hZ (hw _ (List.mem_of_getElem? (i := 3) rfl))) (by decide) (backOf (W := 0) (rmOf3 l Z a0 hw [] ar ka f0 f1 f2 f3 f5 f7 f8 f10 h0 n0 Z0 S0 A0) hZ (hw _ (List.mem_of_getElem? (i := 3) rfl)) (hw _ (List.mem_of_getElem? (i := 2) rfl)) (by decide) (by decide)) (g := (mkF mi 188 #[.val (.int a), .val (.int b), .val (.int (0 : Int32)), .val (.int (1 : Int32)), .val (.int (1 : Int32)), .val (.int (1 : Int32)), .val (.int (2 : Int32)), .val (.ref f2), .val (.int (1 : Int32)), .unset] [(.int (1 : Int32)), (.int (1 : Int32))])) rfl (by rw [hml]; rfl) (argsL := [(.int (1 : Int32)), (.int (1 : Int32))]) (rest := []) (lenOf pd_0 rfl) rfl (by show 2 * 0 + _ ≤ _; exact Nat.le_of_eq rfl) (hb hby at_188) (fun _ _ => ⟨rfl, e20, (by decide : 0 + 0 ≤ _), (by decide : 0 + 0 ≤ _)⟩)
          dsimp only [Pt.U, Pt.locs, Pt.cells, Pt.slots] at X24 l24 y24 z24 st24 hQ24
          subst l24 y24 z24
          obtain ⟨rfl, N24q, e24⟩ := hQ24
          have N24 := Fr.app N20 N24q
          refine Go.st st24 ?_
          show Go pg.tables ev below (T24.setTop (mkF mi 191 #[.val (.int a), .val (.int b), .val (.int (0 : Int32)), .val (.int (1 : Int32)), .val (.int (1 : Int32)), .val (.int (1 : Int32)), .val (.int (2 : Int32)), .val (.ref f2), .val (.int (1 : Int32)), .unset] [(.ref f3)])) P
          refine Go.st (fun t_ k_ => XS.astore X24.here hx rfl (hb hby at_191) rfl rfl (l' := #[.val (.int a), .val (.int b), .val (.int (0 : Int32)), .val (.int (1 : Int32)), .val (.int (1 : Int32)), .val (.int (1 : Int32)), .val (.int (2 : Int32)), .val (.ref f2), .val (.int (1 : Int32)), .val (.ref f3)]) rfl k_) ?_
          show Go pg.tables ev below (T24.setTop (mkF mi 193 #[.val (.int a), .val (.int b), .val (.int (0 : Int32)), .val (.int (1 : Int32)), .val (.int (1 : Int32)), .val (.int (1 : Int32)), .val (.int (2 : Int32)), .val (.ref f2), .val (.int (1 : Int32)), .val (.ref f3)] [])) P
          refine Go.st (fun t_ k_ => XS.iload X24.here hx rfl (hb hby at_193) rfl k_) ?_
          show Go pg.tables ev below (T24.setTop (mkF mi 195 #[.val (.int a), .val (.int b), .val (.int (0 : Int32)), .val (.int (1 : Int32)), .val (.int (1 : Int32)), .val (.int (1 : Int32)), .val (.int (2 : Int32)), .val (.ref f2), .val (.int (1 : Int32)), .val (.ref f3)] [(.int (1 : Int32))])) P
          refine Go.st (fun t_ k_ => XS.ifNo X24.here hx rfl (hb hby at_195) rfl ((if0 _ _).trans (feq (by decide)).1) k_) ?_
          show Go pg.tables ev below (T24.setTop (mkF mi 198 #[.val (.int a), .val (.int b), .val (.int (0 : Int32)), .val (.int (1 : Int32)), .val (.int (1 : Int32)), .val (.int (1 : Int32)), .val (.int (2 : Int32)), .val (.ref f2), .val (.int (1 : Int32)), .val (.ref f3)] [])) P
          refine Go.st (fun t_ k_ => XS.aload X24.here hx rfl (hb hby at_198) rfl rfl k_) ?_
          show Go pg.tables ev below (T24.setTop (mkF mi 200 #[.val (.int a), .val (.int b), .val (.int (0 : Int32)), .val (.int (1 : Int32)), .val (.int (1 : Int32)), .val (.int (1 : Int32)), .val (.int (2 : Int32)), .val (.ref f2), .val (.int (1 : Int32)), .val (.ref f3)] [(.ref f2)])) P
          refine Go.st (fun t_ k_ => XS.aload X24.here hx rfl (hb hby at_200) rfl rfl k_) ?_
          show Go pg.tables ev below (T24.setTop (mkF mi 202 #[.val (.int a), .val (.int b), .val (.int (0 : Int32)), .val (.int (1 : Int32)), .val (.int (1 : Int32)), .val (.int (1 : Int32)), .val (.int (2 : Int32)), .val (.ref f2), .val (.int (1 : Int32)), .val (.ref f3)] [(.ref f3), (.ref f2)])) P
          refine Go.st (fun t_ k_ => Jvm.RoadKit.acmp (g := (mkF mi 202 #[.val (.int a), .val (.int b), .val (.int (0 : Int32)), .val (.int (1 : Int32)), .val (.int (1 : Int32)), .val (.int (1 : Int32)), .val (.int (2 : Int32)), .val (.ref f2), .val (.int (1 : Int32)), .val (.ref f3)] [(.ref f3), (.ref f2)])) X24 hx rfl rfl rfl (pc0 := 202) (pc' := 209) (same := false) rfl (hb hby at_202) rfl (decide_eq_false fun q => ne23 (Value.ref.inj q)) (by decide) (by decide) k_) ?_
          show Go pg.tables ev below (T24.setTop (mkF mi 209 #[.val (.int a), .val (.int b), .val (.int (0 : Int32)), .val (.int (1 : Int32)), .val (.int (1 : Int32)), .val (.int (1 : Int32)), .val (.int (2 : Int32)), .val (.ref f2), .val (.int (1 : Int32)), .val (.ref f3)] [])) P
          refine Go.st (fun t_ k_ => XS.iconst X24.here hx rfl (hb hby at_209) k_) ?_
          show Go pg.tables ev below (T24.setTop (mkF mi 210 #[.val (.int a), .val (.int b), .val (.int (0 : Int32)), .val (.int (1 : Int32)), .val (.int (1 : Int32)), .val (.int (1 : Int32)), .val (.int (2 : Int32)), .val (.ref f2), .val (.int (1 : Int32)), .val (.ref f3)] [(.int (0 : Int32))])) P
          refine Go.st (fun t_ k_ => XS.iloadN X24.here hx rfl (hb hby at_210) rfl k_) ?_
          show Go pg.tables ev below (T24.setTop (mkF mi 211 #[.val (.int a), .val (.int b), .val (.int (0 : Int32)), .val (.int (1 : Int32)), .val (.int (1 : Int32)), .val (.int (1 : Int32)), .val (.int (2 : Int32)), .val (.ref f2), .val (.int (1 : Int32)), .val (.ref f3)] [(.int (0 : Int32)), (.int (0 : Int32))])) P
          refine Go.st (fun t_ k_ => XS.iload X24.here hx rfl (hb hby at_211) rfl k_) ?_
          show Go pg.tables ev below (T24.setTop (mkF mi 213 #[.val (.int a), .val (.int b), .val (.int (0 : Int32)), .val (.int (1 : Int32)), .val (.int (1 : Int32)), .val (.int (1 : Int32)), .val (.int (2 : Int32)), .val (.ref f2), .val (.int (1 : Int32)), .val (.ref f3)] [(.int (1 : Int32)), (.int (0 : Int32)), (.int (0 : Int32))])) P
          refine Go.st (fun t_ k_ => XS.icmpYes X24.here hx rfl (pc0 := 213) (pc' := 226) rfl (hb hby at_213) rfl (feq (by decide)).2 (by decide) (by decide) k_) ?_
          show Go pg.tables ev below (T24.setTop (mkF mi 226 #[.val (.int a), .val (.int b), .val (.int (0 : Int32)), .val (.int (1 : Int32)), .val (.int (1 : Int32)), .val (.int (1 : Int32)), .val (.int (2 : Int32)), .val (.ref f2), .val (.int (1 : Int32)), .val (.ref f3)] [(.int (0 : Int32))])) P
          refine Go.st (fun t_ k_ => XS.iconst X24.here hx rfl (hb hby at_226) k_) ?_
          show Go pg.tables ev below (T24.setTop (mkF mi 227 #[.val (.int a), .val (.int b), .val (.int (0 : Int32)), .val (.int (1 : Int32)), .val (.int (1 : Int32)), .val (.int (1 : Int32)), .val (.int (2 : Int32)), .val (.ref f2), .val (.int (1 : Int32)), .val (.ref f3)] [(.int (0 : Int32)), (.int (0 : Int32))])) P
          refine Go.st (fun t_ k_ => XS.icmpNo X24.here hx rfl (hb hby at_227) rfl (teq rfl).2 k_) ?_
          show Go pg.tables ev below (T24.setTop (mkF mi 230 #[.val (.int a), .val (.int b), .val (.int (0 : Int32)), .val (.int (1 : Int32)), .val (.int (1 : Int32)), .val (.int (1 : Int32)), .val (.int (2 : Int32)), .val (.ref f2), .val (.int (1 : Int32)), .val (.ref f3)] [])) P
          refine Go.st (fun t_ k_ => XS.iconst X24.here hx rfl (hb hby at_230) k_) ?_
          show Go pg.tables ev below (T24.setTop (mkF mi 231 #[.val (.int a), .val (.int b), .val (.int (0 : Int32)), .val (.int (1 : Int32)), .val (.int (1 : Int32)), .val (.int (1 : Int32)), .val (.int (2 : Int32)), .val (.ref f2), .val (.int (1 : Int32)), .val (.ref f3)] [(.int (1 : Int32))])) P
          refine Go.st (fun t_ k_ => XS.goto X24.here hx rfl (pc0 := 231) (pc' := 235) rfl (hb hby at_231) (by decide) (by decide) k_) ?_
          show Go pg.tables ev below (T24.setTop (mkF mi 235 #[.val (.int a), .val (.int b), .val (.int (0 : Int32)), .val (.int (1 : Int32)), .val (.int (1 : Int32)), .val (.int (1 : Int32)), .val (.int (2 : Int32)), .val (.ref f2), .val (.int (1 : Int32)), .val (.ref f3)] [(.int (1 : Int32))])) P
          refine Go.st (fun t_ k_ => XS.istore X24.here hx rfl (hb hby at_235) rfl (l' := #[.val (.int a), .val (.int b), .val (.int (0 : Int32)), .val (.int (1 : Int32)), .val (.int (1 : Int32)), .val (.int (1 : Int32)), .val (.int (2 : Int32)), .val (.ref f2), .val (.int (1 : Int32)), .val (.ref f3)]) rfl k_) ?_
          show Go pg.tables ev below (T24.setTop (mkF mi 237 #[.val (.int a), .val (.int b), .val (.int (0 : Int32)), .val (.int (1 : Int32)), .val (.int (1 : Int32)), .val (.int (1 : Int32)), .val (.int (2 : Int32)), .val (.ref f2), .val (.int (1 : Int32)), .val (.ref f3)] [])) P
          refine Go.st (fun t_ k_ => XS.iload X24.here hx rfl (hb hby at_237) rfl k_) ?_
          show Go pg.tables ev below (T24.setTop (mkF mi 239 #[.val (.int a), .val (.int b), .val (.int (0 : Int32)), .val (.int (1 : Int32)), .val (.int (1 : Int32)), .val (.int (1 : Int32)), .val (.int (2 : Int32)), .val (.ref f2), .val (.int (1 : Int32)), .val (.ref f3)] [(.int (1 : Int32))])) P
          obtain ⟨fs, hr, hrun, hended, hW, hsame⟩ := X24.leave (v := some (.int (1 : Int32))) (fun h => by rw [Bd.returns] at h; cases h) (BodyLoose.notSynchronized Bd)
          refine ⟨_, _, ?_, hP _ _ ⟨hrun, hended, _, _, rfl, ?_, ⟨_, rfl⟩, hW, hsame.mono (by decide) (by decide)⟩⟩
          · exact retN X24 hx (t := .boolean) Bd.returns (by simp) (hb hby at_239) hr
          · show (some (.int (1 : Int32)) : Option Value) = some (.int 1) ∧ Fr n0 _
            exact ⟨rfl, N24⟩
  · refine Go.st (fun t_ k_ => XS.ifNo X0.here hx rfl (hb hby at_3) rfl ((if0 _ _).trans (feq hc3_1).1) k_) ?_
    show Go pg.tables ev below (s₁.setTop (mkF mi 6 #[.val (.int a), .val (.int b), .unset, .unset, .unset, .unset, .unset, .unset, .unset, .unset] [])) P
    refine Go.st (fun t_ k_ => XS.iconst X0.here hx rfl (hb hby at_6) k_) ?_
    show Go pg.tables ev below (s₁.setTop (mkF mi 7 #[.val (.int a), .val (.int b), .unset, .unset, .unset, .unset, .unset, .unset, .unset, .unset] [(.int (1 : Int32))])) P
    refine Go.st (fun t_ k_ => XS.goto X0.here hx rfl (pc0 := 7) (pc' := 11) rfl (hb hby at_7) (by decide) (by decide) k_) ?_
    show Go pg.tables ev below (s₁.setTop (mkF mi 11 #[.val (.int a), .val (.int b), .unset, .unset, .unset, .unset, .unset, .unset, .unset, .unset] [(.int (1 : Int32))])) P
    refine Go.st (fun t_ k_ => XS.istoreN X0.here hx rfl (hb hby at_11) rfl (l' := #[.val (.int a), .val (.int b), .val (.int (1 : Int32)), .unset, .unset, .unset, .unset, .unset, .unset, .unset]) rfl k_) ?_
    show Go pg.tables ev below (s₁.setTop (mkF mi 12 #[.val (.int a), .val (.int b), .val (.int (1 : Int32)), .unset, .unset, .unset, .unset, .unset, .unset, .unset] [])) P
    refine Go.st (fun t_ k_ => XS.iloadN X0.here hx rfl (hb hby at_12) rfl k_) ?_
    show Go pg.tables ev below (s₁.setTop (mkF mi 13 #[.val (.int a), .val (.int b), .val (.int (1 : Int32)), .unset, .unset, .unset, .unset, .unset, .unset, .unset] [(.int a)])) P
    refine Go.st (fun t_ k_ => XS.iconst X0.here hx rfl (hb hby at_13) k_) ?_
    show Go pg.tables ev below (s₁.setTop (mkF mi 14 #[.val (.int a), .val (.int b), .val (.int (1 : Int32)), .unset, .unset, .unset, .unset, .unset, .unset, .unset] [(.int (2 : Int32)), (.int a)])) P
    refine Go.st (fun t_ k_ => XS.iand X0.here hx rfl (hb hby at_14) rfl k_) ?_
    show Go pg.tables ev below (s₁.setTop (mkF mi 15 #[.val (.int a), .val (.int b), .val (.int (1 : Int32)), .unset, .unset, .unset, .unset, .unset, .unset, .unset] [(.int (a &&& (2 : Int32)))])) P
    by_cases hc15_3 : (a &&& (2 : Int32)) = (0 : Int32)
    · refine Go.st (fun t_ k_ => XS.ifYes X0.here hx rfl (pc0 := 15) (pc' := 22) rfl (hb hby at_15) rfl ((if0 _ _).trans (teq hc15_3).1) (by decide) (by decide) k_) ?_
      show Go pg.tables ev below (s₁.setTop (mkF mi 22 #[.val (.int a), .val (.int b), .val (.int (1 : Int32)), .unset, .unset, .unset, .unset, .unset, .unset, .unset] [])) P
      refine Go.st (fun t_ k_ => XS.iconst X0.here hx rfl (hb hby at_22) k_) ?_
      show Go pg.tables ev below (s₁.setTop (mkF mi 23 #[.val (.int a), .val (.int b), .val (.int (1 : Int32)), .unset, .unset, .unset, .unset, .unset, .unset, .unset] [(.int (0 : Int32))])) P
      refine Go.st (fun t_ k_ => XS.istoreN X0.here hx rfl (hb hby at_23) rfl (l' := #[.val (.int a), .val (.int b), .val (.int (1 : Int32)), .val (.int (0 : Int32)), .unset, .unset, .unset, .unset, .unset, .unset]) rfl k_) ?_
      show Go pg.tables ev below (s₁.setTop (mkF mi 24 #[.val (.int a), .val (.int b), .val (.int (1 : Int32)), .val (.int (0 : Int32)), .unset, .unset, .unset, .unset, .unset, .unset] [])) P
      refine Go.st (fun t_ k_ => XS.iloadN X0.here hx rfl (hb hby at_24) rfl k_) ?_
      show Go pg.tables ev below (s₁.setTop (mkF mi 25 #[.val (.int a), .val (.int b), .val (.int (1 : Int32)), .val (.int (0 : Int32)), .unset, .unset, .unset, .unset, .unset, .unset] [(.int b)])) P
      refine Go.st (fun t_ k_ => XS.iconst X0.here hx rfl (hb hby at_25) k_) ?_
      show Go pg.tables ev below (s₁.setTop (mkF mi 26 #[.val (.int a), .val (.int b), .val (.int (1 : Int32)), .val (.int (0 : Int32)), .unset, .unset, .unset, .unset, .unset, .unset] [(.int (1 : Int32)), (.int b)])) P
      refine Go.st (fun t_ k_ => XS.iand X0.here hx rfl (hb hby at_26) rfl k_) ?_
      show Go pg.tables ev below (s₁.setTop (mkF mi 27 #[.val (.int a), .val (.int b), .val (.int (1 : Int32)), .val (.int (0 : Int32)), .unset, .unset, .unset, .unset, .unset, .unset] [(.int (b &&& (1 : Int32)))])) P
      have dm25 : ∀ t_, Steps pg.tables ev below (s₁.setTop (mkF mi 35 #[.val (.int a), .val (.int b), .val (.int (1 : Int32)), .val (.int (0 : Int32)), .unset, .unset, .unset, .unset, .unset, .unset] [(.int (if (b &&& (1 : Int32)) = (0 : Int32) then (0 : Int32) else (1 : Int32)))])) t_ → Steps pg.tables ev below (s₁.setTop (mkF mi 27 #[.val (.int a), .val (.int b), .val (.int (1 : Int32)), .val (.int (0 : Int32)), .unset, .unset, .unset, .unset, .unset, .unset] [(.int (b &&& (1 : Int32)))])) t_ := by
        intro t_ k_
        by_cases hd : (b &&& (1 : Int32)) = (0 : Int32)
        · refine XS.ifYes X0.here hx rfl (pc0 := 27) (pc' := 34) rfl (hb hby at_27) rfl ((if0 _ _).trans (teq hd).1) (by decide) (by decide) ?_
          show Steps pg.tables ev below (s₁.setTop (mkF mi 34 #[.val (.int a), .val (.int b), .val (.int (1 : Int32)), .val (.int (0 : Int32)), .unset, .unset, .unset, .unset, .unset, .unset] [])) t_
          refine XS.iconst X0.here hx rfl (hb hby at_34) ?_
          show Steps pg.tables ev below (s₁.setTop (mkF mi 35 #[.val (.int a), .val (.int b), .val (.int (1 : Int32)), .val (.int (0 : Int32)), .unset, .unset, .unset, .unset, .unset, .unset] [(.int (0 : Int32))])) t_
          exact own_cst (if_pos hd) k_
        · refine XS.ifNo X0.here hx rfl (hb hby at_27) rfl ((if0 _ _).trans (feq hd).1) ?_
          show Steps pg.tables ev below (s₁.setTop (mkF mi 30 #[.val (.int a), .val (.int b), .val (.int (1 : Int32)), .val (.int (0 : Int32)), .unset, .unset, .unset, .unset, .unset, .unset] [])) t_
          refine XS.iconst X0.here hx rfl (hb hby at_30) ?_
          show Steps pg.tables ev below (s₁.setTop (mkF mi 31 #[.val (.int a), .val (.int b), .val (.int (1 : Int32)), .val (.int (0 : Int32)), .unset, .unset, .unset, .unset, .unset, .unset] [(.int (1 : Int32))])) t_
          refine XS.goto X0.here hx rfl (pc0 := 31) (pc' := 35) rfl (hb hby at_31) (by decide) (by decide) ?_
          show Steps pg.tables ev below (s₁.setTop (mkF mi 35 #[.val (.int a), .val (.int b), .val (.int (1 : Int32)), .val (.int (0 : Int32)), .unset, .unset, .unset, .unset, .unset, .unset] [(.int (1 : Int32))])) t_
          exact own_cst (if_neg hd) k_
      refine Go.st dm25 ?_
      show Go pg.tables ev below (s₁.setTop (mkF mi 35 #[.val (.int a), .val (.int b), .val (.int (1 : Int32)), .val (.int (0 : Int32)), .unset, .unset, .unset, .unset, .unset, .unset] [(.int (if (b &&& (1 : Int32)) = (0 : Int32) then (0 : Int32) else (1 : Int32)))])) P
      refine Go.st (fun t_ k_ => XS.istore X0.here hx rfl (hb hby at_35) rfl (l' := #[.val (.int a), .val (.int b), .val (.int (1 : Int32)), .val (.int (0 : Int32)), .val (.int (if (b &&& (1 : Int32)) = (0 : Int32) then (0 : Int32) else (1 : Int32))), .unset, .unset, .unset, .unset, .unset]) rfl k_) ?_
      show Go pg.tables ev below (s₁.setTop (mkF mi 37 #[.val (.int a), .val (.int b), .val (.int (1 : Int32)), .val (.int (0 : Int32)), .val (.int (if (b &&& (1 : Int32)) = (0 : Int32) then (0 : Int32) else (1 : Int32))), .unset, .unset, .unset, .unset, .unset] [])) P
      refine Go.st (fun t_ k_ => XS.iloadN X0.here hx rfl (hb hby at_37) rfl k_) ?_
      show Go pg.tables ev below (s₁.setTop (mkF mi 38 #[.val (.int a), .val (.int b), .val (.int (1 : Int32)), .val (.int (0 : Int32)), .val (.int (if (b &&& (1 : Int32)) = (0 : Int32) then (0 : Int32) else (1 : Int32))), .unset, .unset, .unset, .unset, .unset] [(.int b)])) P
      refine Go.st (fun t_ k_ => XS.iconst X0.here hx rfl (hb hby at_38) k_) ?_
      show Go pg.tables ev below (s₁.setTop (mkF mi 39 #[.val (.int a), .val (.int b), .val (.int (1 : Int32)), .val (.int (0 : Int32)), .val (.int (if (b &&& (1 : Int32)) = (0 : Int32) then (0 : Int32) else (1 : Int32))), .unset, .unset, .unset, .unset, .unset] [(.int (2 : Int32)), (.int b)])) P
      refine Go.st (fun t_ k_ => XS.iand X0.here hx rfl (hb hby at_39) rfl k_) ?_
      show Go pg.tables ev below (s₁.setTop (mkF mi 40 #[.val (.int a), .val (.int b), .val (.int (1 : Int32)), .val (.int (0 : Int32)), .val (.int (if (b &&& (1 : Int32)) = (0 : Int32) then (0 : Int32) else (1 : Int32))), .unset, .unset, .unset, .unset, .unset] [(.int (b &&& (2 : Int32)))])) P
      have dm26 : ∀ t_, Steps pg.tables ev below (s₁.setTop (mkF mi 48 #[.val (.int a), .val (.int b), .val (.int (1 : Int32)), .val (.int (0 : Int32)), .val (.int (if (b &&& (1 : Int32)) = (0 : Int32) then (0 : Int32) else (1 : Int32))), .unset, .unset, .unset, .unset, .unset] [(.int (if (b &&& (2 : Int32)) = (0 : Int32) then (0 : Int32) else (1 : Int32)))])) t_ → Steps pg.tables ev below (s₁.setTop (mkF mi 40 #[.val (.int a), .val (.int b), .val (.int (1 : Int32)), .val (.int (0 : Int32)), .val (.int (if (b &&& (1 : Int32)) = (0 : Int32) then (0 : Int32) else (1 : Int32))), .unset, .unset, .unset, .unset, .unset] [(.int (b &&& (2 : Int32)))])) t_ := by
        intro t_ k_
        by_cases hd : (b &&& (2 : Int32)) = (0 : Int32)
        · refine XS.ifYes X0.here hx rfl (pc0 := 40) (pc' := 47) rfl (hb hby at_40) rfl ((if0 _ _).trans (teq hd).1) (by decide) (by decide) ?_
          show Steps pg.tables ev below (s₁.setTop (mkF mi 47 #[.val (.int a), .val (.int b), .val (.int (1 : Int32)), .val (.int (0 : Int32)), .val (.int (if (b &&& (1 : Int32)) = (0 : Int32) then (0 : Int32) else (1 : Int32))), .unset, .unset, .unset, .unset, .unset] [])) t_
          refine XS.iconst X0.here hx rfl (hb hby at_47) ?_
          show Steps pg.tables ev below (s₁.setTop (mkF mi 48 #[.val (.int a), .val (.int b), .val (.int (1 : Int32)), .val (.int (0 : Int32)), .val (.int (if (b &&& (1 : Int32)) = (0 : Int32) then (0 : Int32) else (1 : Int32))), .unset, .unset, .unset, .unset, .unset] [(.int (0 : Int32))])) t_
          exact own_cst (if_pos hd) k_
        · refine XS.ifNo X0.here hx rfl (hb hby at_40) rfl ((if0 _ _).trans (feq hd).1) ?_
          show Steps pg.tables ev below (s₁.setTop (mkF mi 43 #[.val (.int a), .val (.int b), .val (.int (1 : Int32)), .val (.int (0 : Int32)), .val (.int (if (b &&& (1 : Int32)) = (0 : Int32) then (0 : Int32) else (1 : Int32))), .unset, .unset, .unset, .unset, .unset] [])) t_
          refine XS.iconst X0.here hx rfl (hb hby at_43) ?_
          show Steps pg.tables ev below (s₁.setTop (mkF mi 44 #[.val (.int a), .val (.int b), .val (.int (1 : Int32)), .val (.int (0 : Int32)), .val (.int (if (b &&& (1 : Int32)) = (0 : Int32) then (0 : Int32) else (1 : Int32))), .unset, .unset, .unset, .unset, .unset] [(.int (1 : Int32))])) t_
          refine XS.goto X0.here hx rfl (pc0 := 44) (pc' := 48) rfl (hb hby at_44) (by decide) (by decide) ?_
          show Steps pg.tables ev below (s₁.setTop (mkF mi 48 #[.val (.int a), .val (.int b), .val (.int (1 : Int32)), .val (.int (0 : Int32)), .val (.int (if (b &&& (1 : Int32)) = (0 : Int32) then (0 : Int32) else (1 : Int32))), .unset, .unset, .unset, .unset, .unset] [(.int (1 : Int32))])) t_
          exact own_cst (if_neg hd) k_
      refine Go.st dm26 ?_
      show Go pg.tables ev below (s₁.setTop (mkF mi 48 #[.val (.int a), .val (.int b), .val (.int (1 : Int32)), .val (.int (0 : Int32)), .val (.int (if (b &&& (1 : Int32)) = (0 : Int32) then (0 : Int32) else (1 : Int32))), .unset, .unset, .unset, .unset, .unset] [(.int (if (b &&& (2 : Int32)) = (0 : Int32) then (0 : Int32) else (1 : Int32)))])) P
      refine Go.st (fun t_ k_ => XS.istore X0.here hx rfl (hb hby at_48) rfl (l' := #[.val (.int a), .val (.int b), .val (.int (1 : Int32)), .val (.int (0 : Int32)), .val (.int (if (b &&& (1 : Int32)) = (0 : Int32) then (0 : Int32) else (1 : Int32))), .val (.int (if (b &&& (2 : Int32)) = (0 : Int32) then (0 : Int32) else (1 : Int32))), .unset, .unset, .unset, .unset]) rfl k_) ?_
      show Go pg.tables ev below (s₁.setTop (mkF mi 50 #[.val (.int a), .val (.int b), .val (.int (1 : Int32)), .val (.int (0 : Int32)), .val (.int (if (b &&& (1 : Int32)) = (0 : Int32) then (0 : Int32) else (1 : Int32))), .val (.int (if (b &&& (2 : Int32)) = (0 : Int32) then (0 : Int32) else (1 : Int32))), .unset, .unset, .unset, .unset] [])) P
      refine Go.st (fun t_ k_ => XS.iloadN X0.here hx rfl (hb hby at_50) rfl k_) ?_
      show Go pg.tables ev below (s₁.setTop (mkF mi 51 #[.val (.int a), .val (.int b), .val (.int (1 : Int32)), .val (.int (0 : Int32)), .val (.int (if (b &&& (1 : Int32)) = (0 : Int32) then (0 : Int32) else (1 : Int32))), .val (.int (if (b &&& (2 : Int32)) = (0 : Int32) then (0 : Int32) else (1 : Int32))), .unset, .unset, .unset, .unset] [(.int (1 : Int32))])) P
      refine Go.st (fun t_ k_ => XS.ifNo X0.here hx rfl (hb hby at_51) rfl ((if0 _ _).trans (feq (by decide)).1) k_) ?_
      show Go pg.tables ev below (s₁.setTop (mkF mi 54 #[.val (.int a), .val (.int b), .val (.int (1 : Int32)), .val (.int (0 : Int32)), .val (.int (if (b &&& (1 : Int32)) = (0 : Int32) then (0 : Int32) else (1 : Int32))), .val (.int (if (b &&& (2 : Int32)) = (0 : Int32) then (0 : Int32) else (1 : Int32))), .unset, .unset, .unset, .unset] [])) P
      refine Go.st (fun t_ k_ => XS.iconst X0.here hx rfl (hb hby at_54) k_) ?_
      show Go pg.tables ev below (s₁.setTop (mkF mi 55 #[.val (.int a), .val (.int b), .val (.int (1 : Int32)), .val (.int (0 : Int32)), .val (.int (if (b &&& (1 : Int32)) = (0 : Int32) then (0 : Int32) else (1 : Int32))), .val (.int (if (b &&& (2 : Int32)) = (0 : Int32) then (0 : Int32) else (1 : Int32))), .unset, .unset, .unset, .unset] [(.int (1 : Int32))])) P
      refine Go.st (fun t_ k_ => XS.goto X0.here hx rfl (pc0 := 55) (pc' := 59) rfl (hb hby at_55) (by decide) (by decide) k_) ?_
      show Go pg.tables ev below (s₁.setTop (mkF mi 59 #[.val (.int a), .val (.int b), .val (.int (1 : Int32)), .val (.int (0 : Int32)), .val (.int (if (b &&& (1 : Int32)) = (0 : Int32) then (0 : Int32) else (1 : Int32))), .val (.int (if (b &&& (2 : Int32)) = (0 : Int32) then (0 : Int32) else (1 : Int32))), .unset, .unset, .unset, .unset] [(.int (1 : Int32))])) P
      refine Go.st (fun t_ k_ => XS.iloadN X0.here hx rfl (hb hby at_59) rfl k_) ?_
      show Go pg.tables ev below (s₁.setTop (mkF mi 60 #[.val (.int a), .val (.int b), .val (.int (1 : Int32)), .val (.int (0 : Int32)), .val (.int (if (b &&& (1 : Int32)) = (0 : Int32) then (0 : Int32) else (1 : Int32))), .val (.int (if (b &&& (2 : Int32)) = (0 : Int32) then (0 : Int32) else (1 : Int32))), .unset, .unset, .unset, .unset] [(.int (0 : Int32)), (.int (1 : Int32))])) P
      refine Go.st (fun t_ k_ => XS.ifYes X0.here hx rfl (pc0 := 60) (pc' := 67) rfl (hb hby at_60) rfl ((if0 _ _).trans (teq rfl).1) (by decide) (by decide) k_) ?_
      show Go pg.tables ev below (s₁.setTop (mkF mi 67 #[.val (.int a), .val (.int b), .val (.int (1 : Int32)), .val (.int (0 : Int32)), .val (.int (if (b &&& (1 : Int32)) = (0 : Int32) then (0 : Int32) else (1 : Int32))), .val (.int (if (b &&& (2 : Int32)) = (0 : Int32) then (0 : Int32) else (1 : Int32))), .unset, .unset, .unset, .unset] [(.int (1 : Int32))])) P
      refine Go.st (fun t_ k_ => XS.iconst X0.here hx rfl (hb hby at_67) k_) ?_
      show Go pg.tables ev below (s₁.setTop (mkF mi 68 #[.val (.int a), .val (.int b), .val (.int (1 : Int32)), .val (.int (0 : Int32)), .val (.int (if (b &&& (1 : Int32)) = (0 : Int32) then (0 : Int32) else (1 : Int32))), .val (.int (if (b &&& (2 : Int32)) = (0 : Int32) then (0 : Int32) else (1 : Int32))), .unset, .unset, .unset, .unset] [(.int (0 : Int32)), (.int (1 : Int32))])) P
      refine Go.st (fun t_ k_ => XS.ior X0.here hx rfl (hb hby at_68) rfl k_) ?_
      show Go pg.tables ev below (s₁.setTop (mkF mi 69 #[.val (.int a), .val (.int b), .val (.int (1 : Int32)), .val (.int (0 : Int32)), .val (.int (if (b &&& (1 : Int32)) = (0 : Int32) then (0 : Int32) else (1 : Int32))), .val (.int (if (b &&& (2 : Int32)) = (0 : Int32) then (0 : Int32) else (1 : Int32))), .unset, .unset, .unset, .unset] [(.int (1 : Int32))])) P
      refine Go.st (fun t_ k_ => XS.istore X0.here hx rfl (hb hby at_69) rfl (l' := #[.val (.int a), .val (.int b), .val (.int (1 : Int32)), .val (.int (0 : Int32)), .val (.int (if (b &&& (1 : Int32)) = (0 : Int32) then (0 : Int32) else (1 : Int32))), .val (.int (if (b &&& (2 : Int32)) = (0 : Int32) then (0 : Int32) else (1 : Int32))), .val (.int (1 : Int32)), .unset, .unset, .unset]) rfl k_) ?_
      show Go pg.tables ev below (s₁.setTop (mkF mi 71 #[.val (.int a), .val (.int b), .val (.int (1 : Int32)), .val (.int (0 : Int32)), .val (.int (if (b &&& (1 : Int32)) = (0 : Int32) then (0 : Int32) else (1 : Int32))), .val (.int (if (b &&& (2 : Int32)) = (0 : Int32) then (0 : Int32) else (1 : Int32))), .val (.int (1 : Int32)), .unset, .unset, .unset] [])) P
      refine Go.st (fun t_ k_ => XS.iloadN X0.here hx rfl (hb hby at_71) rfl k_) ?_
      show Go pg.tables ev below (s₁.setTop (mkF mi 72 #[.val (.int a), .val (.int b), .val (.int (1 : Int32)), .val (.int (0 : Int32)), .val (.int (if (b &&& (1 : Int32)) = (0 : Int32) then (0 : Int32) else (1 : Int32))), .val (.int (if (b &&& (2 : Int32)) = (0 : Int32) then (0 : Int32) else (1 : Int32))), .val (.int (1 : Int32)), .unset, .unset, .unset] [(.int (1 : Int32))])) P
      refine Go.st (fun t_ k_ => XS.iloadN X0.here hx rfl (hb hby at_72) rfl k_) ?_
      show Go pg.tables ev below (s₁.setTop (mkF mi 73 #[.val (.int a), .val (.int b), .val (.int (1 : Int32)), .val (.int (0 : Int32)), .val (.int (if (b &&& (1 : Int32)) = (0 : Int32) then (0 : Int32) else (1 : Int32))), .val (.int (if (b &&& (2 : Int32)) = (0 : Int32) then (0 : Int32) else (1 : Int32))), .val (.int (1 : Int32)), .unset, .unset, .unset] [(.int (0 : Int32)), (.int (1 : Int32))])) P
      obtain ⟨_, _, ⟨T27, L27, k27, n27⟩, -, X27, ⟨Lc27, hQ27, l27, y27, z27⟩, st27⟩ := Jvm.LawKit.callS X0 hx (y := (⟨"com/example/baton/baton/TraceFlags", "of", "(ZZ)Lcom/example/baton/baton/TraceFlags;"⟩ : MethodName)) hown (mvT hZ (hw _ (List.mem_of_getElem? (i := 0) rfl))) (mvT hZ (hw _ (List.mem_of_getElem? (i := 1) rfl))) (mvT hZ (hw _ (List.mem_of_getElem? (i := 2) rfl))) (mvT hZ (hw _ (List.mem_of_getElem? (i := 3) rfl))) (by decide) (backOf (W := 0) (rmOf1 l Z a0 hw [] ar ka f0 f1 f2 f3 f5 f7 f8 f10 h0 n0 Z0 S0 A0) hZ (hw _ (List.mem_of_getElem? (i := 3) rfl)) (hw _ (List.mem_of_getElem? (i := 2) rfl)) (by decide) (by decide)) (g := (mkF mi 73 #[.val (.int a), .val (.int b), .val (.int (1 : Int32)), .val (.int (0 : Int32)), .val (.int (if (b &&& (1 : Int32)) = (0 : Int32) then (0 : Int32) else (1 : Int32))), .val (.int (if (b &&& (2 : Int32)) = (0 : Int32) then (0 : Int32) else (1 : Int32))), .val (.int (1 : Int32)), .unset, .unset, .unset] [(.int (0 : Int32)), (.int (1 : Int32))])) rfl (by rw [hml]; rfl) (argsL := [(.int (1 : Int32)), (.int (0 : Int32))]) (rest := []) (lenOf pd_0 rfl) rfl (by show 2 * 0 + _ ≤ _; exact Nat.le_of_eq rfl) (hb hby at_73) (fun _ _ => ⟨rfl, e0, (by decide : 0 + 0 ≤ _), (by decide : 0 + 0 ≤ _)⟩)
      dsimp only [Pt.U, Pt.locs, Pt.cells, Pt.slots] at X27 l27 y27 z27 st27 hQ27
      subst l27 y27 z27
      obtain ⟨rfl, N27q, e27⟩ := hQ27
      have N27 := Fr.app N0 N27q
      refine Go.st st27 ?_
      show Go pg.tables ev below (T27.setTop (mkF mi 76 #[.val (.int a), .val (.int b), .val (.int (1 : Int32)), .val (.int (0 : Int32)), .val (.int (if (b &&& (1 : Int32)) = (0 : Int32) then (0 : Int32) else (1 : Int32))), .val (.int (if (b &&& (2 : Int32)) = (0 : Int32) then (0 : Int32) else (1 : Int32))), .val (.int (1 : Int32)), .unset, .unset, .unset] [(.ref f1)])) P
      refine Go.st (fun t_ k_ => XS.astore X27.here hx rfl (hb hby at_76) rfl rfl (l' := #[.val (.int a), .val (.int b), .val (.int (1 : Int32)), .val (.int (0 : Int32)), .val (.int (if (b &&& (1 : Int32)) = (0 : Int32) then (0 : Int32) else (1 : Int32))), .val (.int (if (b &&& (2 : Int32)) = (0 : Int32) then (0 : Int32) else (1 : Int32))), .val (.int (1 : Int32)), .val (.ref f1), .unset, .unset]) rfl k_) ?_
      show Go pg.tables ev below (T27.setTop (mkF mi 78 #[.val (.int a), .val (.int b), .val (.int (1 : Int32)), .val (.int (0 : Int32)), .val (.int (if (b &&& (1 : Int32)) = (0 : Int32) then (0 : Int32) else (1 : Int32))), .val (.int (if (b &&& (2 : Int32)) = (0 : Int32) then (0 : Int32) else (1 : Int32))), .val (.int (1 : Int32)), .val (.ref f1), .unset, .unset] [])) P
      refine Go.st (fun t_ k_ => XS.aload X27.here hx rfl (hb hby at_78) rfl rfl k_) ?_
      show Go pg.tables ev below (T27.setTop (mkF mi 80 #[.val (.int a), .val (.int b), .val (.int (1 : Int32)), .val (.int (0 : Int32)), .val (.int (if (b &&& (1 : Int32)) = (0 : Int32) then (0 : Int32) else (1 : Int32))), .val (.int (if (b &&& (2 : Int32)) = (0 : Int32) then (0 : Int32) else (1 : Int32))), .val (.int (1 : Int32)), .val (.ref f1), .unset, .unset] [(.ref f1)])) P
      refine Go.st (fun t_ k_ => XS.ifnonnullYes X27.here hx rfl (pc0 := 80) (pc' := 85) rfl (hb hby at_80) rfl (by decide) (by decide) k_) ?_
      show Go pg.tables ev below (T27.setTop (mkF mi 85 #[.val (.int a), .val (.int b), .val (.int (1 : Int32)), .val (.int (0 : Int32)), .val (.int (if (b &&& (1 : Int32)) = (0 : Int32) then (0 : Int32) else (1 : Int32))), .val (.int (if (b &&& (2 : Int32)) = (0 : Int32) then (0 : Int32) else (1 : Int32))), .val (.int (1 : Int32)), .val (.ref f1), .unset, .unset] [])) P
      refine Go.st (fun t_ k_ => XS.aload X27.here hx rfl (hb hby at_85) rfl rfl k_) ?_
      show Go pg.tables ev below (T27.setTop (mkF mi 87 #[.val (.int a), .val (.int b), .val (.int (1 : Int32)), .val (.int (0 : Int32)), .val (.int (if (b &&& (1 : Int32)) = (0 : Int32) then (0 : Int32) else (1 : Int32))), .val (.int (if (b &&& (2 : Int32)) = (0 : Int32) then (0 : Int32) else (1 : Int32))), .val (.int (1 : Int32)), .val (.ref f1), .unset, .unset] [(.ref f1)])) P
      obtain ⟨cq28, kq28, q28a, q28b, q28c⟩ := isOf hZ e27 E1
      obtain ⟨_, _, ⟨T28, L28, k28, n28⟩, -, X28, ⟨Lc28, hQ28, l28, y28, z28⟩, st28⟩ := X27.virtualBack hx (y := (⟨"com/example/baton/baton/TraceFlags", "sampled", "()Z"⟩ : MethodName)) (z := (⟨"com/example/baton/baton/TraceFlags", "sampled", "()Z"⟩ : MethodName)) hown (mvT hZ (hw _ (List.mem_of_getElem? (i := 6) rfl))) (mvT hZ (hw _ (List.mem_of_getElem? (i := 7) rfl))) (notFace_of_selects (args := #[]) (mvT hZ (hw _ (List.mem_of_getElem? (i := 9) rfl)))) (mvT hZ (hw _ (List.mem_of_getElem? (i := 9) rfl))) (mvT hZ (hw _ (List.mem_of_getElem? (i := 8) rfl))) (by decide) (backOf (W := 0) (rmA l Z a0 hw [] f1 (1 : Int32) h0 n0 Z0 F1) hZ (hw _ (List.mem_of_getElem? (i := 10) rfl)) (hw _ (List.mem_of_getElem? (i := 2) rfl)) (by decide) (by decide)) q28a q28c (g := (mkF mi 87 #[.val (.int a), .val (.int b), .val (.int (1 : Int32)), .val (.int (0 : Int32)), .val (.int (if (b &&& (1 : Int32)) = (0 : Int32) then (0 : Int32) else (1 : Int32))), .val (.int (if (b &&& (2 : Int32)) = (0 : Int32) then (0 : Int32) else (1 : Int32))), .val (.int (1 : Int32)), .val (.ref f1), .unset, .unset] [(.ref f1)])) rfl (by rw [hml]; rfl) (Steps.refl _) (argsL := []) (rest := []) (lenOf pd_1 rfl) rfl (by show 2 * 0 + _ ≤ _; exact Nat.le_of_eq rfl) (hb hby at_87) (fun _ _ => ⟨rfl, e27, (by decide : 0 + 0 ≤ _), (by decide : 0 + 0 ≤ _)⟩)
      dsimp only [Pt.U, Pt.locs, Pt.cells, Pt.slots] at X28 l28 y28 z28 st28 hQ28
      subst l28 y28 z28
      obtain ⟨rfl, N28q, e28⟩ := hQ28
      have N28 := Fr.app N27 N28q
      refine Go.tr st28 ?_
      show Go pg.tables ev below (T28.setTop (mkF mi 90 #[.val (.int a), .val (.int b), .val (.int (1 : Int32)), .val (.int (0 : Int32)), .val (.int (if (b &&& (1 : Int32)) = (0 : Int32) then (0 : Int32) else (1 : Int32))), .val (.int (if (b &&& (2 : Int32)) = (0 : Int32) then (0 : Int32) else (1 : Int32))), .val (.int (1 : Int32)), .val (.ref f1), .unset, .unset] [(.int (1 : Int32))])) P
      refine Go.st (fun t_ k_ => XS.iloadN X28.here hx rfl (hb hby at_90) rfl k_) ?_
      show Go pg.tables ev below (T28.setTop (mkF mi 91 #[.val (.int a), .val (.int b), .val (.int (1 : Int32)), .val (.int (0 : Int32)), .val (.int (if (b &&& (1 : Int32)) = (0 : Int32) then (0 : Int32) else (1 : Int32))), .val (.int (if (b &&& (2 : Int32)) = (0 : Int32) then (0 : Int32) else (1 : Int32))), .val (.int (1 : Int32)), .val (.ref f1), .unset, .unset] [(.int (1 : Int32)), (.int (1 : Int32))])) P
      refine Go.st (fun t_ k_ => XS.icmpNo X28.here hx rfl (hb hby at_91) rfl (teq rfl).2 k_) ?_
      show Go pg.tables ev below (T28.setTop (mkF mi 94 #[.val (.int a), .val (.int b), .val (.int (1 : Int32)), .val (.int (0 : Int32)), .val (.int (if (b &&& (1 : Int32)) = (0 : Int32) then (0 : Int32) else (1 : Int32))), .val (.int (if (b &&& (2 : Int32)) = (0 : Int32) then (0 : Int32) else (1 : Int32))), .val (.int (1 : Int32)), .val (.ref f1), .unset, .unset] [])) P
      refine Go.st (fun t_ k_ => XS.iconst X28.here hx rfl (hb hby at_94) k_) ?_
      show Go pg.tables ev below (T28.setTop (mkF mi 95 #[.val (.int a), .val (.int b), .val (.int (1 : Int32)), .val (.int (0 : Int32)), .val (.int (if (b &&& (1 : Int32)) = (0 : Int32) then (0 : Int32) else (1 : Int32))), .val (.int (if (b &&& (2 : Int32)) = (0 : Int32) then (0 : Int32) else (1 : Int32))), .val (.int (1 : Int32)), .val (.ref f1), .unset, .unset] [(.int (1 : Int32))])) P
      refine Go.st (fun t_ k_ => XS.goto X28.here hx rfl (pc0 := 95) (pc' := 99) rfl (hb hby at_95) (by decide) (by decide) k_) ?_
      show Go pg.tables ev below (T28.setTop (mkF mi 99 #[.val (.int a), .val (.int b), .val (.int (1 : Int32)), .val (.int (0 : Int32)), .val (.int (if (b &&& (1 : Int32)) = (0 : Int32) then (0 : Int32) else (1 : Int32))), .val (.int (if (b &&& (2 : Int32)) = (0 : Int32) then (0 : Int32) else (1 : Int32))), .val (.int (1 : Int32)), .val (.ref f1), .unset, .unset] [(.int (1 : Int32))])) P
      refine Go.st (fun t_ k_ => XS.istore X28.here hx rfl (hb hby at_99) rfl (l' := #[.val (.int a), .val (.int b), .val (.int (1 : Int32)), .val (.int (0 : Int32)), .val (.int (if (b &&& (1 : Int32)) = (0 : Int32) then (0 : Int32) else (1 : Int32))), .val (.int (if (b &&& (2 : Int32)) = (0 : Int32) then (0 : Int32) else (1 : Int32))), .val (.int (1 : Int32)), .val (.ref f1), .val (.int (1 : Int32)), .unset]) rfl k_) ?_
      show Go pg.tables ev below (T28.setTop (mkF mi 101 #[.val (.int a), .val (.int b), .val (.int (1 : Int32)), .val (.int (0 : Int32)), .val (.int (if (b &&& (1 : Int32)) = (0 : Int32) then (0 : Int32) else (1 : Int32))), .val (.int (if (b &&& (2 : Int32)) = (0 : Int32) then (0 : Int32) else (1 : Int32))), .val (.int (1 : Int32)), .val (.ref f1), .val (.int (1 : Int32)), .unset] [])) P
      refine Go.st (fun t_ k_ => XS.iload X28.here hx rfl (hb hby at_101) rfl k_) ?_
      show Go pg.tables ev below (T28.setTop (mkF mi 103 #[.val (.int a), .val (.int b), .val (.int (1 : Int32)), .val (.int (0 : Int32)), .val (.int (if (b &&& (1 : Int32)) = (0 : Int32) then (0 : Int32) else (1 : Int32))), .val (.int (if (b &&& (2 : Int32)) = (0 : Int32) then (0 : Int32) else (1 : Int32))), .val (.int (1 : Int32)), .val (.ref f1), .val (.int (1 : Int32)), .unset] [(.int (1 : Int32))])) P
      refine Go.st (fun t_ k_ => XS.ifNo X28.here hx rfl (hb hby at_103) rfl ((if0 _ _).trans (feq (by decide)).1) k_) ?_
      show Go pg.tables ev below (T28.setTop (mkF mi 106 #[.val (.int a), .val (.int b), .val (.int (1 : Int32)), .val (.int (0 : Int32)), .val (.int (if (b &&& (1 : Int32)) = (0 : Int32) then (0 : Int32) else (1 : Int32))), .val (.int (if (b &&& (2 : Int32)) = (0 : Int32) then (0 : Int32) else (1 : Int32))), .val (.int (1 : Int32)), .val (.ref f1), .val (.int (1 : Int32)), .unset] [])) P
      refine Go.st (fun t_ k_ => XS.aload X28.here hx rfl (hb hby at_106) rfl rfl k_) ?_
      show Go pg.tables ev below (T28.setTop (mkF mi 108 #[.val (.int a), .val (.int b), .val (.int (1 : Int32)), .val (.int (0 : Int32)), .val (.int (if (b &&& (1 : Int32)) = (0 : Int32) then (0 : Int32) else (1 : Int32))), .val (.int (if (b &&& (2 : Int32)) = (0 : Int32) then (0 : Int32) else (1 : Int32))), .val (.int (1 : Int32)), .val (.ref f1), .val (.int (1 : Int32)), .unset] [(.ref f1)])) P
      obtain ⟨cq29, kq29, q29a, q29b, q29c⟩ := isOf hZ e28 E1
      obtain ⟨_, _, ⟨T29, L29, k29, n29⟩, -, X29, ⟨Lc29, hQ29, l29, y29, z29⟩, st29⟩ := X28.virtualBack hx (y := (⟨"com/example/baton/baton/TraceFlags", "randomTraceId", "()Z"⟩ : MethodName)) (z := (⟨"com/example/baton/baton/TraceFlags", "randomTraceId", "()Z"⟩ : MethodName)) hown (mvT hZ (hw _ (List.mem_of_getElem? (i := 13) rfl))) (mvT hZ (hw _ (List.mem_of_getElem? (i := 14) rfl))) (notFace_of_selects (args := #[]) (mvT hZ (hw _ (List.mem_of_getElem? (i := 16) rfl)))) (mvT hZ (hw _ (List.mem_of_getElem? (i := 16) rfl))) (mvT hZ (hw _ (List.mem_of_getElem? (i := 15) rfl))) (by decide) (backOf (W := 0) (rmB l Z a0 hw [] f1 (1 : Int32) h0 n0 Z0 F1) hZ (hw _ (List.mem_of_getElem? (i := 17) rfl)) (hw _ (List.mem_of_getElem? (i := 2) rfl)) (by decide) (by decide)) q29a q29c (g := (mkF mi 108 #[.val (.int a), .val (.int b), .val (.int (1 : Int32)), .val (.int (0 : Int32)), .val (.int (if (b &&& (1 : Int32)) = (0 : Int32) then (0 : Int32) else (1 : Int32))), .val (.int (if (b &&& (2 : Int32)) = (0 : Int32) then (0 : Int32) else (1 : Int32))), .val (.int (1 : Int32)), .val (.ref f1), .val (.int (1 : Int32)), .unset] [(.ref f1)])) rfl (by rw [hml]; rfl) (Steps.refl _) (argsL := []) (rest := []) (lenOf pd_1 rfl) rfl (by show 2 * 0 + _ ≤ _; exact Nat.le_of_eq rfl) (hb hby at_108) (fun _ _ => ⟨rfl, e28, (by decide : 0 + 0 ≤ _), (by decide : 0 + 0 ≤ _)⟩)
      dsimp only [Pt.U, Pt.locs, Pt.cells, Pt.slots] at X29 l29 y29 z29 st29 hQ29
      subst l29 y29 z29
      obtain ⟨rfl, N29q, e29⟩ := hQ29
      have N29 := Fr.app N28 N29q
      refine Go.tr st29 ?_
      show Go pg.tables ev below (T29.setTop (mkF mi 111 #[.val (.int a), .val (.int b), .val (.int (1 : Int32)), .val (.int (0 : Int32)), .val (.int (if (b &&& (1 : Int32)) = (0 : Int32) then (0 : Int32) else (1 : Int32))), .val (.int (if (b &&& (2 : Int32)) = (0 : Int32) then (0 : Int32) else (1 : Int32))), .val (.int (1 : Int32)), .val (.ref f1), .val (.int (1 : Int32)), .unset] [(.int (0 : Int32))])) P
      refine Go.st (fun t_ k_ => XS.iloadN X29.here hx rfl (hb hby at_111) rfl k_) ?_
      show Go pg.tables ev below (T29.setTop (mkF mi 112 #[.val (.int a), .val (.int b), .val (.int (1 : Int32)), .val (.int (0 : Int32)), .val (.int (if (b &&& (1 : Int32)) = (0 : Int32) then (0 : Int32) else (1 : Int32))), .val (.int (if (b &&& (2 : Int32)) = (0 : Int32) then (0 : Int32) else (1 : Int32))), .val (.int (1 : Int32)), .val (.ref f1), .val (.int (1 : Int32)), .unset] [(.int (0 : Int32)), (.int (0 : Int32))])) P
      refine Go.st (fun t_ k_ => XS.icmpNo X29.here hx rfl (hb hby at_112) rfl (teq rfl).2 k_) ?_
      show Go pg.tables ev below (T29.setTop (mkF mi 115 #[.val (.int a), .val (.int b), .val (.int (1 : Int32)), .val (.int (0 : Int32)), .val (.int (if (b &&& (1 : Int32)) = (0 : Int32) then (0 : Int32) else (1 : Int32))), .val (.int (if (b &&& (2 : Int32)) = (0 : Int32) then (0 : Int32) else (1 : Int32))), .val (.int (1 : Int32)), .val (.ref f1), .val (.int (1 : Int32)), .unset] [])) P
      refine Go.st (fun t_ k_ => XS.iconst X29.here hx rfl (hb hby at_115) k_) ?_
      show Go pg.tables ev below (T29.setTop (mkF mi 116 #[.val (.int a), .val (.int b), .val (.int (1 : Int32)), .val (.int (0 : Int32)), .val (.int (if (b &&& (1 : Int32)) = (0 : Int32) then (0 : Int32) else (1 : Int32))), .val (.int (if (b &&& (2 : Int32)) = (0 : Int32) then (0 : Int32) else (1 : Int32))), .val (.int (1 : Int32)), .val (.ref f1), .val (.int (1 : Int32)), .unset] [(.int (1 : Int32))])) P
      refine Go.st (fun t_ k_ => XS.goto X29.here hx rfl (pc0 := 116) (pc' := 120) rfl (hb hby at_116) (by decide) (by decide) k_) ?_
      show Go pg.tables ev below (T29.setTop (mkF mi 120 #[.val (.int a), .val (.int b), .val (.int (1 : Int32)), .val (.int (0 : Int32)), .val (.int (if (b &&& (1 : Int32)) = (0 : Int32) then (0 : Int32) else (1 : Int32))), .val (.int (if (b &&& (2 : Int32)) = (0 : Int32) then (0 : Int32) else (1 : Int32))), .val (.int (1 : Int32)), .val (.ref f1), .val (.int (1 : Int32)), .unset] [(.int (1 : Int32))])) P
      refine Go.st (fun t_ k_ => XS.istore X29.here hx rfl (hb hby at_120) rfl (l' := #[.val (.int a), .val (.int b), .val (.int (1 : Int32)), .val (.int (0 : Int32)), .val (.int (if (b &&& (1 : Int32)) = (0 : Int32) then (0 : Int32) else (1 : Int32))), .val (.int (if (b &&& (2 : Int32)) = (0 : Int32) then (0 : Int32) else (1 : Int32))), .val (.int (1 : Int32)), .val (.ref f1), .val (.int (1 : Int32)), .unset]) rfl k_) ?_
      show Go pg.tables ev below (T29.setTop (mkF mi 122 #[.val (.int a), .val (.int b), .val (.int (1 : Int32)), .val (.int (0 : Int32)), .val (.int (if (b &&& (1 : Int32)) = (0 : Int32) then (0 : Int32) else (1 : Int32))), .val (.int (if (b &&& (2 : Int32)) = (0 : Int32) then (0 : Int32) else (1 : Int32))), .val (.int (1 : Int32)), .val (.ref f1), .val (.int (1 : Int32)), .unset] [])) P
      refine Go.st (fun t_ k_ => XS.iload X29.here hx rfl (hb hby at_122) rfl k_) ?_
      show Go pg.tables ev below (T29.setTop (mkF mi 124 #[.val (.int a), .val (.int b), .val (.int (1 : Int32)), .val (.int (0 : Int32)), .val (.int (if (b &&& (1 : Int32)) = (0 : Int32) then (0 : Int32) else (1 : Int32))), .val (.int (if (b &&& (2 : Int32)) = (0 : Int32) then (0 : Int32) else (1 : Int32))), .val (.int (1 : Int32)), .val (.ref f1), .val (.int (1 : Int32)), .unset] [(.int (1 : Int32))])) P
      refine Go.st (fun t_ k_ => XS.ifNo X29.here hx rfl (hb hby at_124) rfl ((if0 _ _).trans (feq (by decide)).1) k_) ?_
      show Go pg.tables ev below (T29.setTop (mkF mi 127 #[.val (.int a), .val (.int b), .val (.int (1 : Int32)), .val (.int (0 : Int32)), .val (.int (if (b &&& (1 : Int32)) = (0 : Int32) then (0 : Int32) else (1 : Int32))), .val (.int (if (b &&& (2 : Int32)) = (0 : Int32) then (0 : Int32) else (1 : Int32))), .val (.int (1 : Int32)), .val (.ref f1), .val (.int (1 : Int32)), .unset] [])) P
      refine Go.st (fun t_ k_ => XS.aload X29.here hx rfl (hb hby at_127) rfl rfl k_) ?_
      show Go pg.tables ev below (T29.setTop (mkF mi 129 #[.val (.int a), .val (.int b), .val (.int (1 : Int32)), .val (.int (0 : Int32)), .val (.int (if (b &&& (1 : Int32)) = (0 : Int32) then (0 : Int32) else (1 : Int32))), .val (.int (if (b &&& (2 : Int32)) = (0 : Int32) then (0 : Int32) else (1 : Int32))), .val (.int (1 : Int32)), .val (.ref f1), .val (.int (1 : Int32)), .unset] [(.ref f1)])) P
      obtain ⟨cq30, kq30, q30a, q30b, q30c⟩ := isOf hZ e29 E1
      obtain ⟨_, _, ⟨T30, L30, k30, n30⟩, -, X30, ⟨Lc30, hQ30, l30, y30, z30⟩, st30⟩ := X29.virtualBack hx (y := (⟨"com/example/baton/baton/TraceFlags", "debug", "()Z"⟩ : MethodName)) (z := (⟨"com/example/baton/baton/TraceFlags", "debug", "()Z"⟩ : MethodName)) hown (mvT hZ (hw _ (List.mem_of_getElem? (i := 18) rfl))) (mvT hZ (hw _ (List.mem_of_getElem? (i := 19) rfl))) (notFace_of_selects (args := #[]) (mvT hZ (hw _ (List.mem_of_getElem? (i := 21) rfl)))) (mvT hZ (hw _ (List.mem_of_getElem? (i := 21) rfl))) (mvT hZ (hw _ (List.mem_of_getElem? (i := 20) rfl))) (by decide) (backOf (W := 0) (rmC l Z a0 hw [] f1 (1 : Int32) h0 n0 Z0 F1) hZ (hw _ (List.mem_of_getElem? (i := 22) rfl)) (hw _ (List.mem_of_getElem? (i := 2) rfl)) (by decide) (by decide)) q30a q30c (g := (mkF mi 129 #[.val (.int a), .val (.int b), .val (.int (1 : Int32)), .val (.int (0 : Int32)), .val (.int (if (b &&& (1 : Int32)) = (0 : Int32) then (0 : Int32) else (1 : Int32))), .val (.int (if (b &&& (2 : Int32)) = (0 : Int32) then (0 : Int32) else (1 : Int32))), .val (.int (1 : Int32)), .val (.ref f1), .val (.int (1 : Int32)), .unset] [(.ref f1)])) rfl (by rw [hml]; rfl) (Steps.refl _) (argsL := []) (rest := []) (lenOf pd_1 rfl) rfl (by show 2 * 0 + _ ≤ _; exact Nat.le_of_eq rfl) (hb hby at_129) (fun _ _ => ⟨rfl, e29, (by decide : 0 + 0 ≤ _), (by decide : 0 + 0 ≤ _)⟩)
      dsimp only [Pt.U, Pt.locs, Pt.cells, Pt.slots] at X30 l30 y30 z30 st30 hQ30
      subst l30 y30 z30
      obtain ⟨rfl, N30q, e30⟩ := hQ30
      have N30 := Fr.app N29 N30q
      refine Go.tr st30 ?_
      show Go pg.tables ev below (T30.setTop (mkF mi 132 #[.val (.int a), .val (.int b), .val (.int (1 : Int32)), .val (.int (0 : Int32)), .val (.int (if (b &&& (1 : Int32)) = (0 : Int32) then (0 : Int32) else (1 : Int32))), .val (.int (if (b &&& (2 : Int32)) = (0 : Int32) then (0 : Int32) else (1 : Int32))), .val (.int (1 : Int32)), .val (.ref f1), .val (.int (1 : Int32)), .unset] [(.int (0 : Int32))])) P
      refine Go.st (fun t_ k_ => XS.ifNo X30.here hx rfl (hb hby at_132) rfl ((if0 _ _).trans (teq rfl).2) k_) ?_
      show Go pg.tables ev below (T30.setTop (mkF mi 135 #[.val (.int a), .val (.int b), .val (.int (1 : Int32)), .val (.int (0 : Int32)), .val (.int (if (b &&& (1 : Int32)) = (0 : Int32) then (0 : Int32) else (1 : Int32))), .val (.int (if (b &&& (2 : Int32)) = (0 : Int32) then (0 : Int32) else (1 : Int32))), .val (.int (1 : Int32)), .val (.ref f1), .val (.int (1 : Int32)), .unset] [])) P
      refine Go.st (fun t_ k_ => XS.iconst X30.here hx rfl (hb hby at_135) k_) ?_
      show Go pg.tables ev below (T30.setTop (mkF mi 136 #[.val (.int a), .val (.int b), .val (.int (1 : Int32)), .val (.int (0 : Int32)), .val (.int (if (b &&& (1 : Int32)) = (0 : Int32) then (0 : Int32) else (1 : Int32))), .val (.int (if (b &&& (2 : Int32)) = (0 : Int32) then (0 : Int32) else (1 : Int32))), .val (.int (1 : Int32)), .val (.ref f1), .val (.int (1 : Int32)), .unset] [(.int (1 : Int32))])) P
      refine Go.st (fun t_ k_ => XS.goto X30.here hx rfl (pc0 := 136) (pc' := 140) rfl (hb hby at_136) (by decide) (by decide) k_) ?_
      show Go pg.tables ev below (T30.setTop (mkF mi 140 #[.val (.int a), .val (.int b), .val (.int (1 : Int32)), .val (.int (0 : Int32)), .val (.int (if (b &&& (1 : Int32)) = (0 : Int32) then (0 : Int32) else (1 : Int32))), .val (.int (if (b &&& (2 : Int32)) = (0 : Int32) then (0 : Int32) else (1 : Int32))), .val (.int (1 : Int32)), .val (.ref f1), .val (.int (1 : Int32)), .unset] [(.int (1 : Int32))])) P
      refine Go.st (fun t_ k_ => XS.istore X30.here hx rfl (hb hby at_140) rfl (l' := #[.val (.int a), .val (.int b), .val (.int (1 : Int32)), .val (.int (0 : Int32)), .val (.int (if (b &&& (1 : Int32)) = (0 : Int32) then (0 : Int32) else (1 : Int32))), .val (.int (if (b &&& (2 : Int32)) = (0 : Int32) then (0 : Int32) else (1 : Int32))), .val (.int (1 : Int32)), .val (.ref f1), .val (.int (1 : Int32)), .unset]) rfl k_) ?_
      show Go pg.tables ev below (T30.setTop (mkF mi 142 #[.val (.int a), .val (.int b), .val (.int (1 : Int32)), .val (.int (0 : Int32)), .val (.int (if (b &&& (1 : Int32)) = (0 : Int32) then (0 : Int32) else (1 : Int32))), .val (.int (if (b &&& (2 : Int32)) = (0 : Int32) then (0 : Int32) else (1 : Int32))), .val (.int (1 : Int32)), .val (.ref f1), .val (.int (1 : Int32)), .unset] [])) P
      refine Go.st (fun t_ k_ => XS.iload X30.here hx rfl (hb hby at_142) rfl k_) ?_
      show Go pg.tables ev below (T30.setTop (mkF mi 144 #[.val (.int a), .val (.int b), .val (.int (1 : Int32)), .val (.int (0 : Int32)), .val (.int (if (b &&& (1 : Int32)) = (0 : Int32) then (0 : Int32) else (1 : Int32))), .val (.int (if (b &&& (2 : Int32)) = (0 : Int32) then (0 : Int32) else (1 : Int32))), .val (.int (1 : Int32)), .val (.ref f1), .val (.int (1 : Int32)), .unset] [(.int (1 : Int32))])) P
      refine Go.st (fun t_ k_ => XS.ifNo X30.here hx rfl (hb hby at_144) rfl ((if0 _ _).trans (feq (by decide)).1) k_) ?_
      show Go pg.tables ev below (T30.setTop (mkF mi 147 #[.val (.int a), .val (.int b), .val (.int (1 : Int32)), .val (.int (0 : Int32)), .val (.int (if (b &&& (1 : Int32)) = (0 : Int32) then (0 : Int32) else (1 : Int32))), .val (.int (if (b &&& (2 : Int32)) = (0 : Int32) then (0 : Int32) else (1 : Int32))), .val (.int (1 : Int32)), .val (.ref f1), .val (.int (1 : Int32)), .unset] [])) P
      refine Go.st (fun t_ k_ => XS.aload X30.here hx rfl (hb hby at_147) rfl rfl k_) ?_
      show Go pg.tables ev below (T30.setTop (mkF mi 149 #[.val (.int a), .val (.int b), .val (.int (1 : Int32)), .val (.int (0 : Int32)), .val (.int (if (b &&& (1 : Int32)) = (0 : Int32) then (0 : Int32) else (1 : Int32))), .val (.int (if (b &&& (2 : Int32)) = (0 : Int32) then (0 : Int32) else (1 : Int32))), .val (.int (1 : Int32)), .val (.ref f1), .val (.int (1 : Int32)), .unset] [(.ref f1)])) P
      obtain ⟨cq31, kq31, q31a, q31b, q31c⟩ := isOf hZ e30 E1
      obtain ⟨_, _, ⟨T31, L31, k31, n31⟩, -, X31, ⟨Lc31, hQ31, l31, y31, z31⟩, st31⟩ := X30.virtualBack hx (y := (⟨"com/example/baton/baton/TraceFlags", "deferred", "()Z"⟩ : MethodName)) (z := (⟨"com/example/baton/baton/TraceFlags", "deferred", "()Z"⟩ : MethodName)) hown (mvT hZ (hw _ (List.mem_of_getElem? (i := 23) rfl))) (mvT hZ (hw _ (List.mem_of_getElem? (i := 24) rfl))) (notFace_of_selects (args := #[]) (mvT hZ (hw _ (List.mem_of_getElem? (i := 26) rfl)))) (mvT hZ (hw _ (List.mem_of_getElem? (i := 26) rfl))) (mvT hZ (hw _ (List.mem_of_getElem? (i := 25) rfl))) (by decide) (backOf (W := 0) (rmD l Z a0 hw [] f1 (1 : Int32) h0 n0 Z0 F1) hZ (hw _ (List.mem_of_getElem? (i := 27) rfl)) (hw _ (List.mem_of_getElem? (i := 2) rfl)) (by decide) (by decide)) q31a q31c (g := (mkF mi 149 #[.val (.int a), .val (.int b), .val (.int (1 : Int32)), .val (.int (0 : Int32)), .val (.int (if (b &&& (1 : Int32)) = (0 : Int32) then (0 : Int32) else (1 : Int32))), .val (.int (if (b &&& (2 : Int32)) = (0 : Int32) then (0 : Int32) else (1 : Int32))), .val (.int (1 : Int32)), .val (.ref f1), .val (.int (1 : Int32)), .unset] [(.ref f1)])) rfl (by rw [hml]; rfl) (Steps.refl _) (argsL := []) (rest := []) (lenOf pd_1 rfl) rfl (by show 2 * 0 + _ ≤ _; exact Nat.le_of_eq rfl) (hb hby at_149) (fun _ _ => ⟨rfl, e30, (by decide : 0 + 0 ≤ _), (by decide : 0 + 0 ≤ _)⟩)
      dsimp only [Pt.U, Pt.locs, Pt.cells, Pt.slots] at X31 l31 y31 z31 st31 hQ31
      subst l31 y31 z31
      obtain ⟨rfl, N31q, e31⟩ := hQ31
      have N31 := Fr.app N30 N31q
      refine Go.tr st31 ?_
      show Go pg.tables ev below (T31.setTop (mkF mi 152 #[.val (.int a), .val (.int b), .val (.int (1 : Int32)), .val (.int (0 : Int32)), .val (.int (if (b &&& (1 : Int32)) = (0 : Int32) then (0 : Int32) else (1 : Int32))), .val (.int (if (b &&& (2 : Int32)) = (0 : Int32) then (0 : Int32) else (1 : Int32))), .val (.int (1 : Int32)), .val (.ref f1), .val (.int (1 : Int32)), .unset] [(.int (0 : Int32))])) P
      refine Go.st (fun t_ k_ => XS.ifNo X31.here hx rfl (hb hby at_152) rfl ((if0 _ _).trans (teq rfl).2) k_) ?_
      show Go pg.tables ev below (T31.setTop (mkF mi 155 #[.val (.int a), .val (.int b), .val (.int (1 : Int32)), .val (.int (0 : Int32)), .val (.int (if (b &&& (1 : Int32)) = (0 : Int32) then (0 : Int32) else (1 : Int32))), .val (.int (if (b &&& (2 : Int32)) = (0 : Int32) then (0 : Int32) else (1 : Int32))), .val (.int (1 : Int32)), .val (.ref f1), .val (.int (1 : Int32)), .unset] [])) P
      refine Go.st (fun t_ k_ => XS.iconst X31.here hx rfl (hb hby at_155) k_) ?_
      show Go pg.tables ev below (T31.setTop (mkF mi 156 #[.val (.int a), .val (.int b), .val (.int (1 : Int32)), .val (.int (0 : Int32)), .val (.int (if (b &&& (1 : Int32)) = (0 : Int32) then (0 : Int32) else (1 : Int32))), .val (.int (if (b &&& (2 : Int32)) = (0 : Int32) then (0 : Int32) else (1 : Int32))), .val (.int (1 : Int32)), .val (.ref f1), .val (.int (1 : Int32)), .unset] [(.int (1 : Int32))])) P
      refine Go.st (fun t_ k_ => XS.goto X31.here hx rfl (pc0 := 156) (pc' := 160) rfl (hb hby at_156) (by decide) (by decide) k_) ?_
      show Go pg.tables ev below (T31.setTop (mkF mi 160 #[.val (.int a), .val (.int b), .val (.int (1 : Int32)), .val (.int (0 : Int32)), .val (.int (if (b &&& (1 : Int32)) = (0 : Int32) then (0 : Int32) else (1 : Int32))), .val (.int (if (b &&& (2 : Int32)) = (0 : Int32) then (0 : Int32) else (1 : Int32))), .val (.int (1 : Int32)), .val (.ref f1), .val (.int (1 : Int32)), .unset] [(.int (1 : Int32))])) P
      refine Go.st (fun t_ k_ => XS.istore X31.here hx rfl (hb hby at_160) rfl (l' := #[.val (.int a), .val (.int b), .val (.int (1 : Int32)), .val (.int (0 : Int32)), .val (.int (if (b &&& (1 : Int32)) = (0 : Int32) then (0 : Int32) else (1 : Int32))), .val (.int (if (b &&& (2 : Int32)) = (0 : Int32) then (0 : Int32) else (1 : Int32))), .val (.int (1 : Int32)), .val (.ref f1), .val (.int (1 : Int32)), .unset]) rfl k_) ?_
      show Go pg.tables ev below (T31.setTop (mkF mi 162 #[.val (.int a), .val (.int b), .val (.int (1 : Int32)), .val (.int (0 : Int32)), .val (.int (if (b &&& (1 : Int32)) = (0 : Int32) then (0 : Int32) else (1 : Int32))), .val (.int (if (b &&& (2 : Int32)) = (0 : Int32) then (0 : Int32) else (1 : Int32))), .val (.int (1 : Int32)), .val (.ref f1), .val (.int (1 : Int32)), .unset] [])) P
      refine Go.st (fun t_ k_ => XS.iload X31.here hx rfl (hb hby at_162) rfl k_) ?_
      show Go pg.tables ev below (T31.setTop (mkF mi 164 #[.val (.int a), .val (.int b), .val (.int (1 : Int32)), .val (.int (0 : Int32)), .val (.int (if (b &&& (1 : Int32)) = (0 : Int32) then (0 : Int32) else (1 : Int32))), .val (.int (if (b &&& (2 : Int32)) = (0 : Int32) then (0 : Int32) else (1 : Int32))), .val (.int (1 : Int32)), .val (.ref f1), .val (.int (1 : Int32)), .unset] [(.int (1 : Int32))])) P
      refine Go.st (fun t_ k_ => XS.ifNo X31.here hx rfl (hb hby at_164) rfl ((if0 _ _).trans (feq (by decide)).1) k_) ?_
      show Go pg.tables ev below (T31.setTop (mkF mi 167 #[.val (.int a), .val (.int b), .val (.int (1 : Int32)), .val (.int (0 : Int32)), .val (.int (if (b &&& (1 : Int32)) = (0 : Int32) then (0 : Int32) else (1 : Int32))), .val (.int (if (b &&& (2 : Int32)) = (0 : Int32) then (0 : Int32) else (1 : Int32))), .val (.int (1 : Int32)), .val (.ref f1), .val (.int (1 : Int32)), .unset] [])) P
      refine Go.st (fun t_ k_ => XS.aload X31.here hx rfl (hb hby at_167) rfl rfl k_) ?_
      show Go pg.tables ev below (T31.setTop (mkF mi 169 #[.val (.int a), .val (.int b), .val (.int (1 : Int32)), .val (.int (0 : Int32)), .val (.int (if (b &&& (1 : Int32)) = (0 : Int32) then (0 : Int32) else (1 : Int32))), .val (.int (if (b &&& (2 : Int32)) = (0 : Int32) then (0 : Int32) else (1 : Int32))), .val (.int (1 : Int32)), .val (.ref f1), .val (.int (1 : Int32)), .unset] [(.ref f1)])) P
      obtain ⟨cq32, kq32, q32a, q32b, q32c⟩ := isOf hZ e31 E1
      obtain ⟨_, _, ⟨T32, L32, k32, n32⟩, -, X32, ⟨Lc32, hQ32, l32, y32, z32⟩, st32⟩ := X31.virtualBack hx (y := (⟨"com/example/baton/baton/TraceFlags", "bits", "()I"⟩ : MethodName)) (z := (⟨"com/example/baton/baton/TraceFlags", "bits", "()I"⟩ : MethodName)) hown (mvT hZ (hw _ (List.mem_of_getElem? (i := 28) rfl))) (mvT hZ (hw _ (List.mem_of_getElem? (i := 29) rfl))) (notFace_of_selects (args := #[]) (mvT hZ (hw _ (List.mem_of_getElem? (i := 31) rfl)))) (mvT hZ (hw _ (List.mem_of_getElem? (i := 31) rfl))) (mvT hZ (hw _ (List.mem_of_getElem? (i := 30) rfl))) (by decide) (backOf (W := 0) (rmE l Z a0 hw [] f1 (1 : Int32) h0 n0 Z0 F1) hZ (hw _ (List.mem_of_getElem? (i := 32) rfl)) (hw _ (List.mem_of_getElem? (i := 2) rfl)) (by decide) (by decide)) q32a q32c (g := (mkF mi 169 #[.val (.int a), .val (.int b), .val (.int (1 : Int32)), .val (.int (0 : Int32)), .val (.int (if (b &&& (1 : Int32)) = (0 : Int32) then (0 : Int32) else (1 : Int32))), .val (.int (if (b &&& (2 : Int32)) = (0 : Int32) then (0 : Int32) else (1 : Int32))), .val (.int (1 : Int32)), .val (.ref f1), .val (.int (1 : Int32)), .unset] [(.ref f1)])) rfl (by rw [hml]; rfl) (Steps.refl _) (argsL := []) (rest := []) (lenOf pd_2 rfl) rfl (by show 2 * 0 + _ ≤ _; exact Nat.le_of_eq rfl) (hb hby at_169) (fun _ _ => ⟨rfl, e31, (by decide : 0 + 0 ≤ _), (by decide : 0 + 0 ≤ _)⟩)
      dsimp only [Pt.U, Pt.locs, Pt.cells, Pt.slots] at X32 l32 y32 z32 st32 hQ32
      subst l32 y32 z32
      obtain ⟨rfl, N32q, e32⟩ := hQ32
      have N32 := Fr.app N31 N32q
      refine Go.tr st32 ?_
      show Go pg.tables ev below (T32.setTop (mkF mi 172 #[.val (.int a), .val (.int b), .val (.int (1 : Int32)), .val (.int (0 : Int32)), .val (.int (if (b &&& (1 : Int32)) = (0 : Int32) then (0 : Int32) else (1 : Int32))), .val (.int (if (b &&& (2 : Int32)) = (0 : Int32) then (0 : Int32) else (1 : Int32))), .val (.int (1 : Int32)), .val (.ref f1), .val (.int (1 : Int32)), .unset] [(.int (1 : Int32))])) P
      refine Go.st (fun t_ k_ => XS.iload X32.here hx rfl (hb hby at_172) rfl k_) ?_
      show Go pg.tables ev below (T32.setTop (mkF mi 174 #[.val (.int a), .val (.int b), .val (.int (1 : Int32)), .val (.int (0 : Int32)), .val (.int (if (b &&& (1 : Int32)) = (0 : Int32) then (0 : Int32) else (1 : Int32))), .val (.int (if (b &&& (2 : Int32)) = (0 : Int32) then (0 : Int32) else (1 : Int32))), .val (.int (1 : Int32)), .val (.ref f1), .val (.int (1 : Int32)), .unset] [(.int (1 : Int32)), (.int (1 : Int32))])) P
      refine Go.st (fun t_ k_ => XS.icmpNo X32.here hx rfl (hb hby at_174) rfl (teq rfl).2 k_) ?_
      show Go pg.tables ev below (T32.setTop (mkF mi 177 #[.val (.int a), .val (.int b), .val (.int (1 : Int32)), .val (.int (0 : Int32)), .val (.int (if (b &&& (1 : Int32)) = (0 : Int32) then (0 : Int32) else (1 : Int32))), .val (.int (if (b &&& (2 : Int32)) = (0 : Int32) then (0 : Int32) else (1 : Int32))), .val (.int (1 : Int32)), .val (.ref f1), .val (.int (1 : Int32)), .unset] [])) P
      refine Go.st (fun t_ k_ => XS.iconst X32.here hx rfl (hb hby at_177) k_) ?_
      show Go pg.tables ev below (T32.setTop (mkF mi 178 #[.val (.int a), .val (.int b), .val (.int (1 : Int32)), .val (.int (0 : Int32)), .val (.int (if (b &&& (1 : Int32)) = (0 : Int32) then (0 : Int32) else (1 : Int32))), .val (.int (if (b &&& (2 : Int32)) = (0 : Int32) then (0 : Int32) else (1 : Int32))), .val (.int (1 : Int32)), .val (.ref f1), .val (.int (1 : Int32)), .unset] [(.int (1 : Int32))])) P
      refine Go.st (fun t_ k_ => XS.goto X32.here hx rfl (pc0 := 178) (pc' := 182) rfl (hb hby at_178) (by decide) (by decide) k_) ?_
      show Go pg.tables ev below (T32.setTop (mkF mi 182 #[.val (.int a), .val (.int b), .val (.int (1 : Int32)), .val (.int (0 : Int32)), .val (.int (if (b &&& (1 : Int32)) = (0 : Int32) then (0 : Int32) else (1 : Int32))), .val (.int (if (b &&& (2 : Int32)) = (0 : Int32) then (0 : Int32) else (1 : Int32))), .val (.int (1 : Int32)), .val (.ref f1), .val (.int (1 : Int32)), .unset] [(.int (1 : Int32))])) P
      refine Go.st (fun t_ k_ => XS.istore X32.here hx rfl (hb hby at_182) rfl (l' := #[.val (.int a), .val (.int b), .val (.int (1 : Int32)), .val (.int (0 : Int32)), .val (.int (if (b &&& (1 : Int32)) = (0 : Int32) then (0 : Int32) else (1 : Int32))), .val (.int (if (b &&& (2 : Int32)) = (0 : Int32) then (0 : Int32) else (1 : Int32))), .val (.int (1 : Int32)), .val (.ref f1), .val (.int (1 : Int32)), .unset]) rfl k_) ?_
      show Go pg.tables ev below (T32.setTop (mkF mi 184 #[.val (.int a), .val (.int b), .val (.int (1 : Int32)), .val (.int (0 : Int32)), .val (.int (if (b &&& (1 : Int32)) = (0 : Int32) then (0 : Int32) else (1 : Int32))), .val (.int (if (b &&& (2 : Int32)) = (0 : Int32) then (0 : Int32) else (1 : Int32))), .val (.int (1 : Int32)), .val (.ref f1), .val (.int (1 : Int32)), .unset] [])) P
      by_cases hk4 : (b &&& (1 : Int32)) = (0 : Int32)
      · rw [if_pos hk4]
        show Go pg.tables ev below (T32.setTop (mkF mi 184 #[.val (.int a), .val (.int b), .val (.int (1 : Int32)), .val (.int (0 : Int32)), .val (.int (0 : Int32)), .val (.int (if (b &&& (2 : Int32)) = (0 : Int32) then (0 : Int32) else (1 : Int32))), .val (.int (1 : Int32)), .val (.ref f1), .val (.int (1 : Int32)), .unset] [])) P
        by_cases hk5 : (b &&& (2 : Int32)) = (0 : Int32)
        · rw [if_pos hk5]
          show Go pg.tables ev below (T32.setTop (mkF mi 184 #[.val (.int a), .val (.int b), .val (.int (1 : Int32)), .val (.int (0 : Int32)), .val (.int (0 : Int32)), .val (.int (0 : Int32)), .val (.int (1 : Int32)), .val (.ref f1), .val (.int (1 : Int32)), .unset] [])) P
          refine Go.st (fun t_ k_ => XS.iload X32.here hx rfl (hb hby at_184) rfl k_) ?_
          show Go pg.tables ev below (T32.setTop (mkF mi 186 #[.val (.int a), .val (.int b), .val (.int (1 : Int32)), .val (.int (0 : Int32)), .val (.int (0 : Int32)), .val (.int (0 : Int32)), .val (.int (1 : Int32)), .val (.ref f1), .val (.int (1 : Int32)), .unset] [(.int (0 : Int32))])) P
          refine Go.st (fun t_ k_ => XS.iload X32.here hx rfl (hb hby at_186) rfl k_) ?_
          show Go pg.tables ev below (T32.setTop (mkF mi 188 #[.val (.int a), .val (.int b), .val (.int (1 : Int32)), .val (.int (0 : Int32)), .val (.int (0 : Int32)), .val (.int (0 : Int32)), .val (.int (1 : Int32)), .val (.ref f1), .val (.int (1 : Int32)), .unset] [(.int (0 : Int32)), (.int (0 : Int32))])) P
          obtain ⟨_, _, ⟨T33, L33, k33, n33⟩, -, X33, ⟨Lc33, hQ33, l33, y33, z33⟩, st33⟩ := Jvm.LawKit.callS X32 hx (y := (⟨"com/example/baton/baton/TraceFlags", "of", "(ZZ)Lcom/example/baton/baton/TraceFlags;"⟩ : MethodName)) hown (mvT hZ (hw _ (List.mem_of_getElem? (i := 0) rfl))) (mvT hZ (hw _ (List.mem_of_getElem? (i := 1) rfl))) (mvT hZ (hw _ (List.mem_of_getElem? (i := 2) rfl))) (mvT hZ (hw _ (List.mem_of_getElem? (i := 3) rfl))) (by decide) (backOf (W := 0) (rmOf0 l Z a0 hw [] ar ka f0 f1 f2 f3 f5 f7 f8 f10 h0 n0 Z0 S0 A0) hZ (hw _ (List.mem_of_getElem? (i := 3) rfl)) (hw _ (List.mem_of_getElem? (i := 2) rfl)) (by decide) (by decide)) (g := (mkF mi 188 #[.val (.int a), .val (.int b), .val (.int (1 : Int32)), .val (.int (0 : Int32)), .val (.int (0 : Int32)), .val (.int (0 : Int32)), .val (.int (1 : Int32)), .val (.ref f1), .val (.int (1 : Int32)), .unset] [(.int (0 : Int32)), (.int (0 : Int32))])) rfl (by rw [hml]; rfl) (argsL := [(.int (0 : Int32)), (.int (0 : Int32))]) (rest := []) (lenOf pd_0 rfl) rfl (by show 2 * 0 + _ ≤ _; exact Nat.le_of_eq rfl) (hb hby at_188) (fun _ _ => ⟨rfl, e32, (by decide : 0 + 0 ≤ _), (by decide : 0 + 0 ≤ _)⟩)
          dsimp only [Pt.U, Pt.locs, Pt.cells, Pt.slots] at X33 l33 y33 z33 st33 hQ33
          subst l33 y33 z33
          obtain ⟨rfl, N33q, e33⟩ := hQ33
          have N33 := Fr.app N32 N33q
          refine Go.st st33 ?_
          show Go pg.tables ev below (T33.setTop (mkF mi 191 #[.val (.int a), .val (.int b), .val (.int (1 : Int32)), .val (.int (0 : Int32)), .val (.int (0 : Int32)), .val (.int (0 : Int32)), .val (.int (1 : Int32)), .val (.ref f1), .val (.int (1 : Int32)), .unset] [(.ref f0)])) P
          refine Go.st (fun t_ k_ => XS.astore X33.here hx rfl (hb hby at_191) rfl rfl (l' := #[.val (.int a), .val (.int b), .val (.int (1 : Int32)), .val (.int (0 : Int32)), .val (.int (0 : Int32)), .val (.int (0 : Int32)), .val (.int (1 : Int32)), .val (.ref f1), .val (.int (1 : Int32)), .val (.ref f0)]) rfl k_) ?_
          show Go pg.tables ev below (T33.setTop (mkF mi 193 #[.val (.int a), .val (.int b), .val (.int (1 : Int32)), .val (.int (0 : Int32)), .val (.int (0 : Int32)), .val (.int (0 : Int32)), .val (.int (1 : Int32)), .val (.ref f1), .val (.int (1 : Int32)), .val (.ref f0)] [])) P
          refine Go.st (fun t_ k_ => XS.iload X33.here hx rfl (hb hby at_193) rfl k_) ?_
          show Go pg.tables ev below (T33.setTop (mkF mi 195 #[.val (.int a), .val (.int b), .val (.int (1 : Int32)), .val (.int (0 : Int32)), .val (.int (0 : Int32)), .val (.int (0 : Int32)), .val (.int (1 : Int32)), .val (.ref f1), .val (.int (1 : Int32)), .val (.ref f0)] [(.int (1 : Int32))])) P
          refine Go.st (fun t_ k_ => XS.ifNo X33.here hx rfl (hb hby at_195) rfl ((if0 _ _).trans (feq (by decide)).1) k_) ?_
          show Go pg.tables ev below (T33.setTop (mkF mi 198 #[.val (.int a), .val (.int b), .val (.int (1 : Int32)), .val (.int (0 : Int32)), .val (.int (0 : Int32)), .val (.int (0 : Int32)), .val (.int (1 : Int32)), .val (.ref f1), .val (.int (1 : Int32)), .val (.ref f0)] [])) P
          refine Go.st (fun t_ k_ => XS.aload X33.here hx rfl (hb hby at_198) rfl rfl k_) ?_
          show Go pg.tables ev below (T33.setTop (mkF mi 200 #[.val (.int a), .val (.int b), .val (.int (1 : Int32)), .val (.int (0 : Int32)), .val (.int (0 : Int32)), .val (.int (0 : Int32)), .val (.int (1 : Int32)), .val (.ref f1), .val (.int (1 : Int32)), .val (.ref f0)] [(.ref f1)])) P
          refine Go.st (fun t_ k_ => XS.aload X33.here hx rfl (hb hby at_200) rfl rfl k_) ?_
          show Go pg.tables ev below (T33.setTop (mkF mi 202 #[.val (.int a), .val (.int b), .val (.int (1 : Int32)), .val (.int (0 : Int32)), .val (.int (0 : Int32)), .val (.int (0 : Int32)), .val (.int (1 : Int32)), .val (.ref f1), .val (.int (1 : Int32)), .val (.ref f0)] [(.ref f0), (.ref f1)])) P
          refine Go.st (fun t_ k_ => Jvm.RoadKit.acmp (g := (mkF mi 202 #[.val (.int a), .val (.int b), .val (.int (1 : Int32)), .val (.int (0 : Int32)), .val (.int (0 : Int32)), .val (.int (0 : Int32)), .val (.int (1 : Int32)), .val (.ref f1), .val (.int (1 : Int32)), .val (.ref f0)] [(.ref f0), (.ref f1)])) X33 hx rfl rfl rfl (pc0 := 202) (pc' := 209) (same := false) rfl (hb hby at_202) rfl (decide_eq_false fun q => (Ne.symm ne01) (Value.ref.inj q)) (by decide) (by decide) k_) ?_
          show Go pg.tables ev below (T33.setTop (mkF mi 209 #[.val (.int a), .val (.int b), .val (.int (1 : Int32)), .val (.int (0 : Int32)), .val (.int (0 : Int32)), .val (.int (0 : Int32)), .val (.int (1 : Int32)), .val (.ref f1), .val (.int (1 : Int32)), .val (.ref f0)] [])) P
          refine Go.st (fun t_ k_ => XS.iconst X33.here hx rfl (hb hby at_209) k_) ?_
          show Go pg.tables ev below (T33.setTop (mkF mi 210 #[.val (.int a), .val (.int b), .val (.int (1 : Int32)), .val (.int (0 : Int32)), .val (.int (0 : Int32)), .val (.int (0 : Int32)), .val (.int (1 : Int32)), .val (.ref f1), .val (.int (1 : Int32)), .val (.ref f0)] [(.int (0 : Int32))])) P
          refine Go.st (fun t_ k_ => XS.iloadN X33.here hx rfl (hb hby at_210) rfl k_) ?_
          show Go pg.tables ev below (T33.setTop (mkF mi 211 #[.val (.int a), .val (.int b), .val (.int (1 : Int32)), .val (.int (0 : Int32)), .val (.int (0 : Int32)), .val (.int (0 : Int32)), .val (.int (1 : Int32)), .val (.ref f1), .val (.int (1 : Int32)), .val (.ref f0)] [(.int (1 : Int32)), (.int (0 : Int32))])) P
          refine Go.st (fun t_ k_ => XS.iload X33.here hx rfl (hb hby at_211) rfl k_) ?_
          show Go pg.tables ev below (T33.setTop (mkF mi 213 #[.val (.int a), .val (.int b), .val (.int (1 : Int32)), .val (.int (0 : Int32)), .val (.int (0 : Int32)), .val (.int (0 : Int32)), .val (.int (1 : Int32)), .val (.ref f1), .val (.int (1 : Int32)), .val (.ref f0)] [(.int (0 : Int32)), (.int (1 : Int32)), (.int (0 : Int32))])) P
          refine Go.st (fun t_ k_ => XS.icmpYes X33.here hx rfl (pc0 := 213) (pc' := 226) rfl (hb hby at_213) rfl (feq (by decide)).2 (by decide) (by decide) k_) ?_
          show Go pg.tables ev below (T33.setTop (mkF mi 226 #[.val (.int a), .val (.int b), .val (.int (1 : Int32)), .val (.int (0 : Int32)), .val (.int (0 : Int32)), .val (.int (0 : Int32)), .val (.int (1 : Int32)), .val (.ref f1), .val (.int (1 : Int32)), .val (.ref f0)] [(.int (0 : Int32))])) P
          refine Go.st (fun t_ k_ => XS.iconst X33.here hx rfl (hb hby at_226) k_) ?_
          show Go pg.tables ev below (T33.setTop (mkF mi 227 #[.val (.int a), .val (.int b), .val (.int (1 : Int32)), .val (.int (0 : Int32)), .val (.int (0 : Int32)), .val (.int (0 : Int32)), .val (.int (1 : Int32)), .val (.ref f1), .val (.int (1 : Int32)), .val (.ref f0)] [(.int (0 : Int32)), (.int (0 : Int32))])) P
          refine Go.st (fun t_ k_ => XS.icmpNo X33.here hx rfl (hb hby at_227) rfl (teq rfl).2 k_) ?_
          show Go pg.tables ev below (T33.setTop (mkF mi 230 #[.val (.int a), .val (.int b), .val (.int (1 : Int32)), .val (.int (0 : Int32)), .val (.int (0 : Int32)), .val (.int (0 : Int32)), .val (.int (1 : Int32)), .val (.ref f1), .val (.int (1 : Int32)), .val (.ref f0)] [])) P
          refine Go.st (fun t_ k_ => XS.iconst X33.here hx rfl (hb hby at_230) k_) ?_
          show Go pg.tables ev below (T33.setTop (mkF mi 231 #[.val (.int a), .val (.int b), .val (.int (1 : Int32)), .val (.int (0 : Int32)), .val (.int (0 : Int32)), .val (.int (0 : Int32)), .val (.int (1 : Int32)), .val (.ref f1), .val (.int (1 : Int32)), .val (.ref f0)] [(.int (1 : Int32))])) P
          refine Go.st (fun t_ k_ => XS.goto X33.here hx rfl (pc0 := 231) (pc' := 235) rfl (hb hby at_231) (by decide) (by decide) k_) ?_
          show Go pg.tables ev below (T33.setTop (mkF mi 235 #[.val (.int a), .val (.int b), .val (.int (1 : Int32)), .val (.int (0 : Int32)), .val (.int (0 : Int32)), .val (.int (0 : Int32)), .val (.int (1 : Int32)), .val (.ref f1), .val (.int (1 : Int32)), .val (.ref f0)] [(.int (1 : Int32))])) P
          refine Go.st (fun t_ k_ => XS.istore X33.here hx rfl (hb hby at_235) rfl (l' := #[.val (.int a), .val (.int b), .val (.int (1 : Int32)), .val (.int (0 : Int32)), .val (.int (0 : Int32)), .val (.int (0 : Int32)), .val (.int (1 : Int32)), .val (.ref f1), .val (.int (1 : Int32)), .val (.ref f0)]) rfl k_) ?_
          show Go pg.tables ev below (T33.setTop (mkF mi 237 #[.val (.int a), .val (.int b), .val (.int (1 : Int32)), .val (.int (0 : Int32)), .val (.int (0 : Int32)), .val (.int (0 : Int32)), .val (.int (1 : Int32)), .val (.ref f1), .val (.int (1 : Int32)), .val (.ref f0)] [])) P
          refine Go.st (fun t_ k_ => XS.iload X33.here hx rfl (hb hby at_237) rfl k_) ?_
          show Go pg.tables ev below (T33.setTop (mkF mi 239 #[.val (.int a), .val (.int b), .val (.int (1 : Int32)), .val (.int (0 : Int32)), .val (.int (0 : Int32)), .val (.int (0 : Int32)), .val (.int (1 : Int32)), .val (.ref f1), .val (.int (1 : Int32)), .val (.ref f0)] [(.int (1 : Int32))])) P
          obtain ⟨fs, hr, hrun, hended, hW, hsame⟩ := X33.leave (v := some (.int (1 : Int32))) (fun h => by rw [Bd.returns] at h; cases h) (BodyLoose.notSynchronized Bd)
          refine ⟨_, _, ?_, hP _ _ ⟨hrun, hended, _, _, rfl, ?_, ⟨_, rfl⟩, hW, hsame.mono (by decide) (by decide)⟩⟩
          · exact retN X33 hx (t := .boolean) Bd.returns (by simp) (hb hby at_239) hr
          · show (some (.int (1 : Int32)) : Option Value) = some (.int 1) ∧ Fr n0 _
            exact ⟨rfl, N33⟩
        · rw [if_neg hk5]
          show Go pg.tables ev below (T32.setTop (mkF mi 184 #[.val (.int a), .val (.int b), .val (.int (1 : Int32)), .val (.int (0 : Int32)), .val (.int (0 : Int32)), .val (.int (1 : Int32)), .val (.int (1 : Int32)), .val (.ref f1), .val (.int (1 : Int32)), .unset] [])) P
          refine Go.st (fun t_ k_ => XS.iload X32.here hx rfl (hb hby at_184) rfl k_) ?_
          show Go pg.tables ev below (T32.setTop (mkF mi 186 #[.val (.int a), .val (.int b), .val (.int (1 : Int32)), .val (.int (0 : Int32)), .val (.int (0 : Int32)), .val (.int (1 : Int32)), .val (.int (1 : Int32)), .val (.ref f1), .val (.int (1 : Int32)), .unset] [(.int (0 : Int32))])) P
          refine Go.st (fun t_ k_ => XS.iload X32.here hx rfl (hb hby at_186) rfl k_) ?_
          show Go pg.tables ev below (T32.setTop (mkF mi 188 #[.val (.int a), .val (.int b), .val (.int (1 : Int32)), .val (.int (0 : Int32)), .val (.int (0 : Int32)), .val (.int (1 : Int32)), .val (.int (1 : Int32)), .val (.ref f1), .val (.int (1 : Int32)), .unset] [(.int (1 : Int32)), (.int (0 : Int32))])) P
          obtain ⟨_, _, ⟨T34, L34, k34, n34⟩, -, X34, ⟨Lc34, hQ34, l34, y34, z34⟩, st34⟩ := Jvm.LawKit.callS X32 hx (y := (⟨"com/example/baton/baton/TraceFlags", "of", "(ZZ)Lcom/example/baton/baton/TraceFlags;"⟩ : MethodName)) hown (mvT hZ (hw _ (List.mem_of_getElem? (i := 0) rfl))) (mvT hZ (hw _ (List.mem_of_getElem? (i := 1) rfl))) (mvT hZ (hw _ (List.mem_of_getElem? (i := 2) rfl))) (mvT hZ (hw _ (List.mem_of_getElem? (i := 3) rfl))) (by decide) (backOf (W := 0) (rmOf2 l Z a0 hw [] ar ka f0 f1 f2 f3 f5 f7 f8 f10 h0 n0 Z0 S0 A0) hZ (hw _ (List.mem_of_getElem? (i := 3) rfl)) (hw _ (List.mem_of_getElem? (i := 2) rfl)) (by decide) (by decide)) (g := (mkF mi 188 #[.val (.int a), .val (.int b), .val (.int (1 : Int32)), .val (.int (0 : Int32)), .val (.int (0 : Int32)), .val (.int (1 : Int32)), .val (.int (1 : Int32)), .val (.ref f1), .val (.int (1 : Int32)), .unset] [(.int (1 : Int32)), (.int (0 : Int32))])) rfl (by rw [hml]; rfl) (argsL := [(.int (0 : Int32)), (.int (1 : Int32))]) (rest := []) (lenOf pd_0 rfl) rfl (by show 2 * 0 + _ ≤ _; exact Nat.le_of_eq rfl) (hb hby at_188) (fun _ _ => ⟨rfl, e32, (by decide : 0 + 0 ≤ _), (by decide : 0 + 0 ≤ _)⟩)
          dsimp only [Pt.U, Pt.locs, Pt.cells, Pt.slots] at X34 l34 y34 z34 st34 hQ34
          subst l34 y34 z34
          obtain ⟨rfl, N34q, e34⟩ := hQ34
          have N34 := Fr.app N32 N34q
          refine Go.st st34 ?_
          show Go pg.tables ev below (T34.setTop (mkF mi 191 #[.val (.int a), .val (.int b), .val (.int (1 : Int32)), .val (.int (0 : Int32)), .val (.int (0 : Int32)), .val (.int (1 : Int32)), .val (.int (1 : Int32)), .val (.ref f1), .val (.int (1 : Int32)), .unset] [(.ref f2)])) P
          refine Go.st (fun t_ k_ => XS.astore X34.here hx rfl (hb hby at_191) rfl rfl (l' := #[.val (.int a), .val (.int b), .val (.int (1 : Int32)), .val (.int (0 : Int32)), .val (.int (0 : Int32)), .val (.int (1 : Int32)), .val (.int (1 : Int32)), .val (.ref f1), .val (.int (1 : Int32)), .val (.ref f2)]) rfl k_) ?_
          show Go pg.tables ev below (T34.setTop (mkF mi 193 #[.val (.int a), .val (.int b), .val (.int (1 : Int32)), .val (.int (0 : Int32)), .val (.int (0 : Int32)), .val (.int (1 : Int32)), .val (.int (1 : Int32)), .val (.ref f1), .val (.int (1 : Int32)), .val (.ref f2)] [])) P
          refine Go.st (fun t_ k_ => XS.iload X34.here hx rfl (hb hby at_193) rfl k_) ?_
          show Go pg.tables ev below (T34.setTop (mkF mi 195 #[.val (.int a), .val (.int b), .val (.int (1 : Int32)), .val (.int (0 : Int32)), .val (.int (0 : Int32)), .val (.int (1 : Int32)), .val (.int (1 : Int32)), .val (.ref f1), .val (.int (1 : Int32)), .val (.ref f2)] [(.int (1 : Int32))])) P
          refine Go.st (fun t_ k_ => XS.ifNo X34.here hx rfl (hb hby at_195) rfl ((if0 _ _).trans (feq (by decide)).1) k_) ?_
          show Go pg.tables ev below (T34.setTop (mkF mi 198 #[.val (.int a), .val (.int b), .val (.int (1 : Int32)), .val (.int (0 : Int32)), .val (.int (0 : Int32)), .val (.int (1 : Int32)), .val (.int (1 : Int32)), .val (.ref f1), .val (.int (1 : Int32)), .val (.ref f2)] [])) P
          refine Go.st (fun t_ k_ => XS.aload X34.here hx rfl (hb hby at_198) rfl rfl k_) ?_
          show Go pg.tables ev below (T34.setTop (mkF mi 200 #[.val (.int a), .val (.int b), .val (.int (1 : Int32)), .val (.int (0 : Int32)), .val (.int (0 : Int32)), .val (.int (1 : Int32)), .val (.int (1 : Int32)), .val (.ref f1), .val (.int (1 : Int32)), .val (.ref f2)] [(.ref f1)])) P
          refine Go.st (fun t_ k_ => XS.aload X34.here hx rfl (hb hby at_200) rfl rfl k_) ?_
          show Go pg.tables ev below (T34.setTop (mkF mi 202 #[.val (.int a), .val (.int b), .val (.int (1 : Int32)), .val (.int (0 : Int32)), .val (.int (0 : Int32)), .val (.int (1 : Int32)), .val (.int (1 : Int32)), .val (.ref f1), .val (.int (1 : Int32)), .val (.ref f2)] [(.ref f2), (.ref f1)])) P
          refine Go.st (fun t_ k_ => Jvm.RoadKit.acmp (g := (mkF mi 202 #[.val (.int a), .val (.int b), .val (.int (1 : Int32)), .val (.int (0 : Int32)), .val (.int (0 : Int32)), .val (.int (1 : Int32)), .val (.int (1 : Int32)), .val (.ref f1), .val (.int (1 : Int32)), .val (.ref f2)] [(.ref f2), (.ref f1)])) X34 hx rfl rfl rfl (pc0 := 202) (pc' := 209) (same := false) rfl (hb hby at_202) rfl (decide_eq_false fun q => ne12 (Value.ref.inj q)) (by decide) (by decide) k_) ?_
          show Go pg.tables ev below (T34.setTop (mkF mi 209 #[.val (.int a), .val (.int b), .val (.int (1 : Int32)), .val (.int (0 : Int32)), .val (.int (0 : Int32)), .val (.int (1 : Int32)), .val (.int (1 : Int32)), .val (.ref f1), .val (.int (1 : Int32)), .val (.ref f2)] [])) P
          refine Go.st (fun t_ k_ => XS.iconst X34.here hx rfl (hb hby at_209) k_) ?_
          show Go pg.tables ev below (T34.setTop (mkF mi 210 #[.val (.int a), .val (.int b), .val (.int (1 : Int32)), .val (.int (0 : Int32)), .val (.int (0 : Int32)), .val (.int (1 : Int32)), .val (.int (1 : Int32)), .val (.ref f1), .val (.int (1 : Int32)), .val (.ref f2)] [(.int (0 : Int32))])) P
          refine Go.st (fun t_ k_ => XS.iloadN X34.here hx rfl (hb hby at_210) rfl k_) ?_
          show Go pg.tables ev below (T34.setTop (mkF mi 211 #[.val (.int a), .val (.int b), .val (.int (1 : Int32)), .val (.int (0 : Int32)), .val (.int (0 : Int32)), .val (.int (1 : Int32)), .val (.int (1 : Int32)), .val (.ref f1), .val (.int (1 : Int32)), .val (.ref f2)] [(.int (1 : Int32)), (.int (0 : Int32))])) P
          refine Go.st (fun t_ k_ => XS.iload X34.here hx rfl (hb hby at_211) rfl k_) ?_
          show Go pg.tables ev below (T34.setTop (mkF mi 213 #[.val (.int a), .val (.int b), .val (.int (1 : Int32)), .val (.int (0 : Int32)), .val (.int (0 : Int32)), .val (.int (1 : Int32)), .val (.int (1 : Int32)), .val (.ref f1), .val (.int (1 : Int32)), .val (.ref f2)] [(.int (0 : Int32)), (.int (1 : Int32)), (.int (0 : Int32))])) P
          refine Go.st (fun t_ k_ => XS.icmpYes X34.here hx rfl (pc0 := 213) (pc' := 226) rfl (hb hby at_213) rfl (feq (by decide)).2 (by decide) (by decide) k_) ?_
          show Go pg.tables ev below (T34.setTop (mkF mi 226 #[.val (.int a), .val (.int b), .val (.int (1 : Int32)), .val (.int (0 : Int32)), .val (.int (0 : Int32)), .val (.int (1 : Int32)), .val (.int (1 : Int32)), .val (.ref f1), .val (.int (1 : Int32)), .val (.ref f2)] [(.int (0 : Int32))])) P
          refine Go.st (fun t_ k_ => XS.iconst X34.here hx rfl (hb hby at_226) k_) ?_
          show Go pg.tables ev below (T34.setTop (mkF mi 227 #[.val (.int a), .val (.int b), .val (.int (1 : Int32)), .val (.int (0 : Int32)), .val (.int (0 : Int32)), .val (.int (1 : Int32)), .val (.int (1 : Int32)), .val (.ref f1), .val (.int (1 : Int32)), .val (.ref f2)] [(.int (0 : Int32)), (.int (0 : Int32))])) P
          refine Go.st (fun t_ k_ => XS.icmpNo X34.here hx rfl (hb hby at_227) rfl (teq rfl).2 k_) ?_
          show Go pg.tables ev below (T34.setTop (mkF mi 230 #[.val (.int a), .val (.int b), .val (.int (1 : Int32)), .val (.int (0 : Int32)), .val (.int (0 : Int32)), .val (.int (1 : Int32)), .val (.int (1 : Int32)), .val (.ref f1), .val (.int (1 : Int32)), .val (.ref f2)] [])) P
          refine Go.st (fun t_ k_ => XS.iconst X34.here hx rfl (hb hby at_230) k_) ?_
          show Go pg.tables ev below (T34.setTop (mkF mi 231 #[.val (.int a), .val (.int b), .val (.int (1 : Int32)), .val (.int (0 : Int32)), .val (.int (0 : Int32)), .val (.int (1 : Int32)), .val (.int (1 : Int32)), .val (.ref f1), .val (.int (1 : Int32)), .val (.ref f2)] [(.int (1 : Int32))])) P
          refine Go.st (fun t_ k_ => XS.goto X34.here hx rfl (pc0 := 231) (pc' := 235) rfl (hb hby at_231) (by decide) (by decide) k_) ?_
          show Go pg.tables ev below (T34.setTop (mkF mi 235 #[.val (.int a), .val (.int b), .val (.int (1 : Int32)), .val (.int (0 : Int32)), .val (.int (0 : Int32)), .val (.int (1 : Int32)), .val (.int (1 : Int32)), .val (.ref f1), .val (.int (1 : Int32)), .val (.ref f2)] [(.int (1 : Int32))])) P
          refine Go.st (fun t_ k_ => XS.istore X34.here hx rfl (hb hby at_235) rfl (l' := #[.val (.int a), .val (.int b), .val (.int (1 : Int32)), .val (.int (0 : Int32)), .val (.int (0 : Int32)), .val (.int (1 : Int32)), .val (.int (1 : Int32)), .val (.ref f1), .val (.int (1 : Int32)), .val (.ref f2)]) rfl k_) ?_
          show Go pg.tables ev below (T34.setTop (mkF mi 237 #[.val (.int a), .val (.int b), .val (.int (1 : Int32)), .val (.int (0 : Int32)), .val (.int (0 : Int32)), .val (.int (1 : Int32)), .val (.int (1 : Int32)), .val (.ref f1), .val (.int (1 : Int32)), .val (.ref f2)] [])) P
          refine Go.st (fun t_ k_ => XS.iload X34.here hx rfl (hb hby at_237) rfl k_) ?_
          show Go pg.tables ev below (T34.setTop (mkF mi 239 #[.val (.int a), .val (.int b), .val (.int (1 : Int32)), .val (.int (0 : Int32)), .val (.int (0 : Int32)), .val (.int (1 : Int32)), .val (.int (1 : Int32)), .val (.ref f1), .val (.int (1 : Int32)), .val (.ref f2)] [(.int (1 : Int32))])) P
          obtain ⟨fs, hr, hrun, hended, hW, hsame⟩ := X34.leave (v := some (.int (1 : Int32))) (fun h => by rw [Bd.returns] at h; cases h) (BodyLoose.notSynchronized Bd)
          refine ⟨_, _, ?_, hP _ _ ⟨hrun, hended, _, _, rfl, ?_, ⟨_, rfl⟩, hW, hsame.mono (by decide) (by decide)⟩⟩
          · exact retN X34 hx (t := .boolean) Bd.returns (by simp) (hb hby at_239) hr
          · show (some (.int (1 : Int32)) : Option Value) = some (.int 1) ∧ Fr n0 _
            exact ⟨rfl, N34⟩
      · rw [if_neg hk4]
        show Go pg.tables ev below (T32.setTop (mkF mi 184 #[.val (.int a), .val (.int b), .val (.int (1 : Int32)), .val (.int (0 : Int32)), .val (.int (1 : Int32)), .val (.int (if (b &&& (2 : Int32)) = (0 : Int32) then (0 : Int32) else (1 : Int32))), .val (.int (1 : Int32)), .val (.ref f1), .val (.int (1 : Int32)), .unset] [])) P
        by_cases hk5 : (b &&& (2 : Int32)) = (0 : Int32)
        · rw [if_pos hk5]
          show Go pg.tables ev below (T32.setTop (mkF mi 184 #[.val (.int a), .val (.int b), .val (.int (1 : Int32)), .val (.int (0 : Int32)), .val (.int (1 : Int32)), .val (.int (0 : Int32)), .val (.int (1 : Int32)), .val (.ref f1), .val (.int (1 : Int32)), .unset] [])) P
          refine Go.st (fun t_ k_ => XS.iload X32.here hx rfl (hb hby at_184) rfl k_) ?_
          show Go pg.tables ev below (T32.setTop (mkF mi 186 #[.val (.int a), .val (.int b), .val (.int (1 : Int32)), .val (.int (0 : Int32)), .val (.int (1 : Int32)), .val (.int (0 : Int32)), .val (.int (1 : Int32)), .val (.ref f1), .val (.int (1 : Int32)), .unset] [(.int (1 : Int32))])) P
          refine Go.st (fun t_ k_ => XS.iload X32.here hx rfl (hb hby at_186) rfl k_) ?_
          show Go pg.tables ev below (T32.setTop (mkF mi 188 #[.val (.int a), .val (.int b), .val (.int (1 : Int32)), .val (.int (0 : Int32)), .val (.int (1 : Int32)), .val (.int (0 : Int32)), .val (.int (1 : Int32)), .val (.ref f1), .val (.int (1 : Int32)), .unset] [(.int (0 : Int32)), (.int (1 : Int32))])) P
          obtain ⟨_, _, ⟨T35, L35, k35, n35⟩, -, X35, ⟨Lc35, hQ35, l35, y35, z35⟩, st35⟩ := Jvm.LawKit.callS X32 hx (y := (⟨"com/example/baton/baton/TraceFlags", "of", "(ZZ)Lcom/example/baton/baton/TraceFlags;"⟩ : MethodName)) hown (mvT hZ (hw _ (List.mem_of_getElem? (i := 0) rfl))) (mvT hZ (hw _ (List.mem_of_getElem? (i := 1) rfl))) (mvT hZ (hw _ (List.mem_of_getElem? (i := 2) rfl))) (mvT hZ (hw _ (List.mem_of_getElem? (i := 3) rfl))) (by decide) (backOf (W := 0) (rmOf1 l Z a0 hw [] ar ka f0 f1 f2 f3 f5 f7 f8 f10 h0 n0 Z0 S0 A0) hZ (hw _ (List.mem_of_getElem? (i := 3) rfl)) (hw _ (List.mem_of_getElem? (i := 2) rfl)) (by decide) (by decide)) (g := (mkF mi 188 #[.val (.int a), .val (.int b), .val (.int (1 : Int32)), .val (.int (0 : Int32)), .val (.int (1 : Int32)), .val (.int (0 : Int32)), .val (.int (1 : Int32)), .val (.ref f1), .val (.int (1 : Int32)), .unset] [(.int (0 : Int32)), (.int (1 : Int32))])) rfl (by rw [hml]; rfl) (argsL := [(.int (1 : Int32)), (.int (0 : Int32))]) (rest := []) (lenOf pd_0 rfl) rfl (by show 2 * 0 + _ ≤ _; exact Nat.le_of_eq rfl) (hb hby at_188) (fun _ _ => ⟨rfl, e32, (by decide : 0 + 0 ≤ _), (by decide : 0 + 0 ≤ _)⟩)
          dsimp only [Pt.U, Pt.locs, Pt.cells, Pt.slots] at X35 l35 y35 z35 st35 hQ35
          subst l35 y35 z35
          obtain ⟨rfl, N35q, e35⟩ := hQ35
          have N35 := Fr.app N32 N35q
          refine Go.st st35 ?_
          show Go pg.tables ev below (T35.setTop (mkF mi 191 #[.val (.int a), .val (.int b), .val (.int (1 : Int32)), .val (.int (0 : Int32)), .val (.int (1 : Int32)), .val (.int (0 : Int32)), .val (.int (1 : Int32)), .val (.ref f1), .val (.int (1 : Int32)), .unset] [(.ref f1)])) P
          refine Go.st (fun t_ k_ => XS.astore X35.here hx rfl (hb hby at_191) rfl rfl (l' := #[.val (.int a), .val (.int b), .val (.int (1 : Int32)), .val (.int (0 : Int32)), .val (.int (1 : Int32)), .val (.int (0 : Int32)), .val (.int (1 : Int32)), .val (.ref f1), .val (.int (1 : Int32)), .val (.ref f1)]) rfl k_) ?_
          show Go pg.tables ev below (T35.setTop (mkF mi 193 #[.val (.int a), .val (.int b), .val (.int (1 : Int32)), .val (.int (0 : Int32)), .val (.int (1 : Int32)), .val (.int (0 : Int32)), .val (.int (1 : Int32)), .val (.ref f1), .val (.int (1 : Int32)), .val (.ref f1)] [])) P
          refine Go.st (fun t_ k_ => XS.iload X35.here hx rfl (hb hby at_193) rfl k_) ?_
          show Go pg.tables ev below (T35.setTop (mkF mi 195 #[.val (.int a), .val (.int b), .val (.int (1 : Int32)), .val (.int (0 : Int32)), .val (.int (1 : Int32)), .val (.int (0 : Int32)), .val (.int (1 : Int32)), .val (.ref f1), .val (.int (1 : Int32)), .val (.ref f1)] [(.int (1 : Int32))])) P
          refine Go.st (fun t_ k_ => XS.ifNo X35.here hx rfl (hb hby at_195) rfl ((if0 _ _).trans (feq (by decide)).1) k_) ?_
          show Go pg.tables ev below (T35.setTop (mkF mi 198 #[.val (.int a), .val (.int b), .val (.int (1 : Int32)), .val (.int (0 : Int32)), .val (.int (1 : Int32)), .val (.int (0 : Int32)), .val (.int (1 : Int32)), .val (.ref f1), .val (.int (1 : Int32)), .val (.ref f1)] [])) P
          refine Go.st (fun t_ k_ => XS.aload X35.here hx rfl (hb hby at_198) rfl rfl k_) ?_
          show Go pg.tables ev below (T35.setTop (mkF mi 200 #[.val (.int a), .val (.int b), .val (.int (1 : Int32)), .val (.int (0 : Int32)), .val (.int (1 : Int32)), .val (.int (0 : Int32)), .val (.int (1 : Int32)), .val (.ref f1), .val (.int (1 : Int32)), .val (.ref f1)] [(.ref f1)])) P
          refine Go.st (fun t_ k_ => XS.aload X35.here hx rfl (hb hby at_200) rfl rfl k_) ?_
          show Go pg.tables ev below (T35.setTop (mkF mi 202 #[.val (.int a), .val (.int b), .val (.int (1 : Int32)), .val (.int (0 : Int32)), .val (.int (1 : Int32)), .val (.int (0 : Int32)), .val (.int (1 : Int32)), .val (.ref f1), .val (.int (1 : Int32)), .val (.ref f1)] [(.ref f1), (.ref f1)])) P
          refine Go.st (fun t_ k_ => Jvm.RoadKit.acmp (g := (mkF mi 202 #[.val (.int a), .val (.int b), .val (.int (1 : Int32)), .val (.int (0 : Int32)), .val (.int (1 : Int32)), .val (.int (0 : Int32)), .val (.int (1 : Int32)), .val (.ref f1), .val (.int (1 : Int32)), .val (.ref f1)] [(.ref f1), (.ref f1)])) X35 hx rfl rfl rfl (pc0 := 202) (pc' := 205) (same := true) rfl (hb hby at_202) rfl (decide_eq_true rfl) (by decide) (by decide) k_) ?_
          show Go pg.tables ev below (T35.setTop (mkF mi 205 #[.val (.int a), .val (.int b), .val (.int (1 : Int32)), .val (.int (0 : Int32)), .val (.int (1 : Int32)), .val (.int (0 : Int32)), .val (.int (1 : Int32)), .val (.ref f1), .val (.int (1 : Int32)), .val (.ref f1)] [])) P
          refine Go.st (fun t_ k_ => XS.iconst X35.here hx rfl (hb hby at_205) k_) ?_
          show Go pg.tables ev below (T35.setTop (mkF mi 206 #[.val (.int a), .val (.int b), .val (.int (1 : Int32)), .val (.int (0 : Int32)), .val (.int (1 : Int32)), .val (.int (0 : Int32)), .val (.int (1 : Int32)), .val (.ref f1), .val (.int (1 : Int32)), .val (.ref f1)] [(.int (1 : Int32))])) P
          refine Go.st (fun t_ k_ => XS.goto X35.here hx rfl (pc0 := 206) (pc' := 210) rfl (hb hby at_206) (by decide) (by decide) k_) ?_
          show Go pg.tables ev below (T35.setTop (mkF mi 210 #[.val (.int a), .val (.int b), .val (.int (1 : Int32)), .val (.int (0 : Int32)), .val (.int (1 : Int32)), .val (.int (0 : Int32)), .val (.int (1 : Int32)), .val (.ref f1), .val (.int (1 : Int32)), .val (.ref f1)] [(.int (1 : Int32))])) P
          refine Go.st (fun t_ k_ => XS.iloadN X35.here hx rfl (hb hby at_210) rfl k_) ?_
          show Go pg.tables ev below (T35.setTop (mkF mi 211 #[.val (.int a), .val (.int b), .val (.int (1 : Int32)), .val (.int (0 : Int32)), .val (.int (1 : Int32)), .val (.int (0 : Int32)), .val (.int (1 : Int32)), .val (.ref f1), .val (.int (1 : Int32)), .val (.ref f1)] [(.int (1 : Int32)), (.int (1 : Int32))])) P
          refine Go.st (fun t_ k_ => XS.iload X35.here hx rfl (hb hby at_211) rfl k_) ?_
          show Go pg.tables ev below (T35.setTop (mkF mi 213 #[.val (.int a), .val (.int b), .val (.int (1 : Int32)), .val (.int (0 : Int32)), .val (.int (1 : Int32)), .val (.int (0 : Int32)), .val (.int (1 : Int32)), .val (.ref f1), .val (.int (1 : Int32)), .val (.ref f1)] [(.int (1 : Int32)), (.int (1 : Int32)), (.int (1 : Int32))])) P
          refine Go.st (fun t_ k_ => XS.icmpNo X35.here hx rfl (hb hby at_213) rfl (teq rfl).2 k_) ?_
          show Go pg.tables ev below (T35.setTop (mkF mi 216 #[.val (.int a), .val (.int b), .val (.int (1 : Int32)), .val (.int (0 : Int32)), .val (.int (1 : Int32)), .val (.int (0 : Int32)), .val (.int (1 : Int32)), .val (.ref f1), .val (.int (1 : Int32)), .val (.ref f1)] [(.int (1 : Int32))])) P
          refine Go.st (fun t_ k_ => XS.iloadN X35.here hx rfl (hb hby at_216) rfl k_) ?_
          show Go pg.tables ev below (T35.setTop (mkF mi 217 #[.val (.int a), .val (.int b), .val (.int (1 : Int32)), .val (.int (0 : Int32)), .val (.int (1 : Int32)), .val (.int (0 : Int32)), .val (.int (1 : Int32)), .val (.ref f1), .val (.int (1 : Int32)), .val (.ref f1)] [(.int (0 : Int32)), (.int (1 : Int32))])) P
          refine Go.st (fun t_ k_ => XS.iload X35.here hx rfl (hb hby at_217) rfl k_) ?_
          show Go pg.tables ev below (T35.setTop (mkF mi 219 #[.val (.int a), .val (.int b), .val (.int (1 : Int32)), .val (.int (0 : Int32)), .val (.int (1 : Int32)), .val (.int (0 : Int32)), .val (.int (1 : Int32)), .val (.ref f1), .val (.int (1 : Int32)), .val (.ref f1)] [(.int (0 : Int32)), (.int (0 : Int32)), (.int (1 : Int32))])) P
          refine Go.st (fun t_ k_ => XS.icmpNo X35.here hx rfl (hb hby at_219) rfl (teq rfl).2 k_) ?_
          show Go pg.tables ev below (T35.setTop (mkF mi 222 #[.val (.int a), .val (.int b), .val (.int (1 : Int32)), .val (.int (0 : Int32)), .val (.int (1 : Int32)), .val (.int (0 : Int32)), .val (.int (1 : Int32)), .val (.ref f1), .val (.int (1 : Int32)), .val (.ref f1)] [(.int (1 : Int32))])) P
          refine Go.st (fun t_ k_ => XS.iconst X35.here hx rfl (hb hby at_222) k_) ?_
          show Go pg.tables ev below (T35.setTop (mkF mi 223 #[.val (.int a), .val (.int b), .val (.int (1 : Int32)), .val (.int (0 : Int32)), .val (.int (1 : Int32)), .val (.int (0 : Int32)), .val (.int (1 : Int32)), .val (.ref f1), .val (.int (1 : Int32)), .val (.ref f1)] [(.int (1 : Int32)), (.int (1 : Int32))])) P
          refine Go.st (fun t_ k_ => XS.goto X35.here hx rfl (pc0 := 223) (pc' := 227) rfl (hb hby at_223) (by decide) (by decide) k_) ?_
          show Go pg.tables ev below (T35.setTop (mkF mi 227 #[.val (.int a), .val (.int b), .val (.int (1 : Int32)), .val (.int (0 : Int32)), .val (.int (1 : Int32)), .val (.int (0 : Int32)), .val (.int (1 : Int32)), .val (.ref f1), .val (.int (1 : Int32)), .val (.ref f1)] [(.int (1 : Int32)), (.int (1 : Int32))])) P
          refine Go.st (fun t_ k_ => XS.icmpNo X35.here hx rfl (hb hby at_227) rfl (teq rfl).2 k_) ?_
          show Go pg.tables ev below (T35.setTop (mkF mi 230 #[.val (.int a), .val (.int b), .val (.int (1 : Int32)), .val (.int (0 : Int32)), .val (.int (1 : Int32)), .val (.int (0 : Int32)), .val (.int (1 : Int32)), .val (.ref f1), .val (.int (1 : Int32)), .val (.ref f1)] [])) P
          refine Go.st (fun t_ k_ => XS.iconst X35.here hx rfl (hb hby at_230) k_) ?_
          show Go pg.tables ev below (T35.setTop (mkF mi 231 #[.val (.int a), .val (.int b), .val (.int (1 : Int32)), .val (.int (0 : Int32)), .val (.int (1 : Int32)), .val (.int (0 : Int32)), .val (.int (1 : Int32)), .val (.ref f1), .val (.int (1 : Int32)), .val (.ref f1)] [(.int (1 : Int32))])) P
          refine Go.st (fun t_ k_ => XS.goto X35.here hx rfl (pc0 := 231) (pc' := 235) rfl (hb hby at_231) (by decide) (by decide) k_) ?_
          show Go pg.tables ev below (T35.setTop (mkF mi 235 #[.val (.int a), .val (.int b), .val (.int (1 : Int32)), .val (.int (0 : Int32)), .val (.int (1 : Int32)), .val (.int (0 : Int32)), .val (.int (1 : Int32)), .val (.ref f1), .val (.int (1 : Int32)), .val (.ref f1)] [(.int (1 : Int32))])) P
          refine Go.st (fun t_ k_ => XS.istore X35.here hx rfl (hb hby at_235) rfl (l' := #[.val (.int a), .val (.int b), .val (.int (1 : Int32)), .val (.int (0 : Int32)), .val (.int (1 : Int32)), .val (.int (0 : Int32)), .val (.int (1 : Int32)), .val (.ref f1), .val (.int (1 : Int32)), .val (.ref f1)]) rfl k_) ?_
          show Go pg.tables ev below (T35.setTop (mkF mi 237 #[.val (.int a), .val (.int b), .val (.int (1 : Int32)), .val (.int (0 : Int32)), .val (.int (1 : Int32)), .val (.int (0 : Int32)), .val (.int (1 : Int32)), .val (.ref f1), .val (.int (1 : Int32)), .val (.ref f1)] [])) P
          refine Go.st (fun t_ k_ => XS.iload X35.here hx rfl (hb hby at_237) rfl k_) ?_
          show Go pg.tables ev below (T35.setTop (mkF mi 239 #[.val (.int a), .val (.int b), .val (.int (1 : Int32)), .val (.int (0 : Int32)), .val (.int (1 : Int32)), .val (.int (0 : Int32)), .val (.int (1 : Int32)), .val (.ref f1), .val (.int (1 : Int32)), .val (.ref f1)] [(.int (1 : Int32))])) P
          obtain ⟨fs, hr, hrun, hended, hW, hsame⟩ := X35.leave (v := some (.int (1 : Int32))) (fun h => by rw [Bd.returns] at h; cases h) (BodyLoose.notSynchronized Bd)
          refine ⟨_, _, ?_, hP _ _ ⟨hrun, hended, _, _, rfl, ?_, ⟨_, rfl⟩, hW, hsame.mono (by decide) (by decide)⟩⟩
          · exact retN X35 hx (t := .boolean) Bd.returns (by simp) (hb hby at_239) hr
          · show (some (.int (1 : Int32)) : Option Value) = some (.int 1) ∧ Fr n0 _
            exact ⟨rfl, N35⟩
        · rw [if_neg hk5]
          show Go pg.tables ev below (T32.setTop (mkF mi 184 #[.val (.int a), .val (.int b), .val (.int (1 : Int32)), .val (.int (0 : Int32)), .val (.int (1 : Int32)), .val (.int (1 : Int32)), .val (.int (1 : Int32)), .val (.ref f1), .val (.int (1 : Int32)), .unset] [])) P
          refine Go.st (fun t_ k_ => XS.iload X32.here hx rfl (hb hby at_184) rfl k_) ?_
          show Go pg.tables ev below (T32.setTop (mkF mi 186 #[.val (.int a), .val (.int b), .val (.int (1 : Int32)), .val (.int (0 : Int32)), .val (.int (1 : Int32)), .val (.int (1 : Int32)), .val (.int (1 : Int32)), .val (.ref f1), .val (.int (1 : Int32)), .unset] [(.int (1 : Int32))])) P
          refine Go.st (fun t_ k_ => XS.iload X32.here hx rfl (hb hby at_186) rfl k_) ?_
          show Go pg.tables ev below (T32.setTop (mkF mi 188 #[.val (.int a), .val (.int b), .val (.int (1 : Int32)), .val (.int (0 : Int32)), .val (.int (1 : Int32)), .val (.int (1 : Int32)), .val (.int (1 : Int32)), .val (.ref f1), .val (.int (1 : Int32)), .unset] [(.int (1 : Int32)), (.int (1 : Int32))])) P
          obtain ⟨_, _, ⟨T36, L36, k36, n36⟩, -, X36, ⟨Lc36, hQ36, l36, y36, z36⟩, st36⟩ := Jvm.LawKit.callS X32 hx (y := (⟨"com/example/baton/baton/TraceFlags", "of", "(ZZ)Lcom/example/baton/baton/TraceFlags;"⟩ : MethodName)) hown (mvT hZ (hw _ (List.mem_of_getElem? (i := 0) rfl))) (mvT hZ (hw _ (List.mem_of_getElem? (i := 1) rfl))) (mvT hZ (hw _ (List.mem_of_getElem? (i := 2) rfl))) (mvT hZ (hw _ (List.mem_of_getElem? (i := 3) rfl))) (by decide) (backOf (W := 0) (rmOf3 l Z a0 hw [] ar ka f0 f1 f2 f3 f5 f7 f8 f10 h0 n0 Z0 S0 A0) hZ (hw _ (List.mem_of_getElem? (i := 3) rfl)) (hw _ (List.mem_of_getElem? (i := 2) rfl)) (by decide) (by decide)) (g := (mkF mi 188 #[.val (.int a), .val (.int b), .val (.int (1 : Int32)), .val (.int (0 : Int32)), .val (.int (1 : Int32)), .val (.int (1 : Int32)), .val (.int (1 : Int32)), .val (.ref f1), .val (.int (1 : Int32)), .unset] [(.int (1 : Int32)), (.int (1 : Int32))])) rfl (by rw [hml]; rfl) (argsL := [(.int (1 : Int32)), (.int (1 : Int32))]) (rest := []) (lenOf pd_0 rfl) rfl (by show 2 * 0 + _ ≤ _; exact Nat.le_of_eq rfl) (hb hby at_188) (fun _ _ => ⟨rfl, e32, (by decide : 0 + 0 ≤ _), (by decide : 0 + 0 ≤ _)⟩)
          dsimp only [Pt.U, Pt.locs, Pt.cells, Pt.slots] at X36 l36 y36 z36 st36 hQ36
          subst l36 y36 z36
          obtain ⟨rfl, N36q, e36⟩ := hQ36
          have N36 := Fr.app N32 N36q
          refine Go.st st36 ?_
          show Go pg.tables ev below (T36.setTop (mkF mi 191 #[.val (.int a), .val (.int b), .val (.int (1 : Int32)), .val (.int (0 : Int32)), .val (.int (1 : Int32)), .val (.int (1 : Int32)), .val (.int (1 : Int32)), .val (.ref f1), .val (.int (1 : Int32)), .unset] [(.ref f3)])) P
          refine Go.st (fun t_ k_ => XS.astore X36.here hx rfl (hb hby at_191) rfl rfl (l' := #[.val (.int a), .val (.int b), .val (.int (1 : Int32)), .val (.int (0 : Int32)), .val (.int (1 : Int32)), .val (.int (1 : Int32)), .val (.int (1 : Int32)), .val (.ref f1), .val (.int (1 : Int32)), .val (.ref f3)]) rfl k_) ?_
          show Go pg.tables ev below (T36.setTop (mkF mi 193 #[.val (.int a), .val (.int b), .val (.int (1 : Int32)), .val (.int (0 : Int32)), .val (.int (1 : Int32)), .val (.int (1 : Int32)), .val (.int (1 : Int32)), .val (.ref f1), .val (.int (1 : Int32)), .val (.ref f3)] [])) P
          refine Go.st (fun t_ k_ => XS.iload X36.here hx rfl (hb hby at_193) rfl k_) ?_
          show Go pg.tables ev below (T36.setTop (mkF mi 195 #[.val (.int a), .val (.int b), .val (.int (1 : Int32)), .val (.int (0 : Int32)), .val (.int (1 : Int32)), .val (.int (1 : Int32)), .val (.int (1 : Int32)), .val (.ref f1), .val (.int (1 : Int32)), .val (.ref f3)] [(.int (1 : Int32))])) P
          refine Go.st (fun t_ k_ => XS.ifNo X36.here hx rfl (hb hby at_195) rfl ((if0 _ _).trans (feq (by decide)).1) k_) ?_
          show Go pg.tables ev below (T36.setTop (mkF mi 198 #[.val (.int a), .val (.int b), .val (.int (1 : Int32)), .val (.int (0 : Int32)), .val (.int (1 : Int32)), .val (.int (1 : Int32)), .val (.int (1 : Int32)), .val (.ref f1), .val (.int (1 : Int32)), .val (.ref f3)] [])) P
          refine Go.st (fun t_ k_ => XS.aload X36.here hx rfl (hb hby at_198) rfl rfl k_) ?_
          show Go pg.tables ev below (T36.setTop (mkF mi 200 #[.val (.int a), .val (.int b), .val (.int (1 : Int32)), .val (.int (0 : Int32)), .val (.int (1 : Int32)), .val (.int (1 : Int32)), .val (.int (1 : Int32)), .val (.ref f1), .val (.int (1 : Int32)), .val (.ref f3)] [(.ref f1)])) P
          refine Go.st (fun t_ k_ => XS.aload X36.here hx rfl (hb hby at_200) rfl rfl k_) ?_
          show Go pg.tables ev below (T36.setTop (mkF mi 202 #[.val (.int a), .val (.int b), .val (.int (1 : Int32)), .val (.int (0 : Int32)), .val (.int (1 : Int32)), .val (.int (1 : Int32)), .val (.int (1 : Int32)), .val (.ref f1), .val (.int (1 : Int32)), .val (.ref f3)] [(.ref f3), (.ref f1)])) P
          refine Go.st (fun t_ k_ => Jvm.RoadKit.acmp (g := (mkF mi 202 #[.val (.int a), .val (.int b), .val (.int (1 : Int32)), .val (.int (0 : Int32)), .val (.int (1 : Int32)), .val (.int (1 : Int32)), .val (.int (1 : Int32)), .val (.ref f1), .val (.int (1 : Int32)), .val (.ref f3)] [(.ref f3), (.ref f1)])) X36 hx rfl rfl rfl (pc0 := 202) (pc' := 209) (same := false) rfl (hb hby at_202) rfl (decide_eq_false fun q => ne13 (Value.ref.inj q)) (by decide) (by decide) k_) ?_
          show Go pg.tables ev below (T36.setTop (mkF mi 209 #[.val (.int a), .val (.int b), .val (.int (1 : Int32)), .val (.int (0 : Int32)), .val (.int (1 : Int32)), .val (.int (1 : Int32)), .val (.int (1 : Int32)), .val (.ref f1), .val (.int (1 : Int32)), .val (.ref f3)] [])) P
          refine Go.st (fun t_ k_ => XS.iconst X36.here hx rfl (hb hby at_209) k_) ?_
          show Go pg.tables ev below (T36.setTop (mkF mi 210 #[.val (.int a), .val (.int b), .val (.int (1 : Int32)), .val (.int (0 : Int32)), .val (.int (1 : Int32)), .val (.int (1 : Int32)), .val (.int (1 : Int32)), .val (.ref f1), .val (.int (1 : Int32)), .val (.ref f3)] [(.int (0 : Int32))])) P
          refine Go.st (fun t_ k_ => XS.iloadN X36.here hx rfl (hb hby at_210) rfl k_) ?_
          show Go pg.tables ev below (T36.setTop (mkF mi 211 #[.val (.int a), .val (.int b), .val (.int (1 : Int32)), .val (.int (0 : Int32)), .val (.int (1 : Int32)), .val (.int (1 : Int32)), .val (.int (1 : Int32)), .val (.ref f1), .val (.int (1 : Int32)), .val (.ref f3)] [(.int (1 : Int32)), (.int (0 : Int32))])) P
          refine Go.st (fun t_ k_ => XS.iload X36.here hx rfl (hb hby at_211) rfl k_) ?_
          show Go pg.tables ev below (T36.setTop (mkF mi 213 #[.val (.int a), .val (.int b), .val (.int (1 : Int32)), .val (.int (0 : Int32)), .val (.int (1 : Int32)), .val (.int (1 : Int32)), .val (.int (1 : Int32)), .val (.ref f1), .val (.int (1 : Int32)), .val (.ref f3)] [(.int (1 : Int32)), (.int (1 : Int32)), (.int (0 : Int32))])) P
          refine Go.st (fun t_ k_ => XS.icmpNo X36.here hx rfl (hb hby at_213) rfl (teq rfl).2 k_) ?_
          show Go pg.tables ev below (T36.setTop (mkF mi 216 #[.val (.int a), .val (.int b), .val (.int (1 : Int32)), .val (.int (0 : Int32)), .val (.int (1 : Int32)), .val (.int (1 : Int32)), .val (.int (1 : Int32)), .val (.ref f1), .val (.int (1 : Int32)), .val (.ref f3)] [(.int (0 : Int32))])) P
          refine Go.st (fun t_ k_ => XS.iloadN X36.here hx rfl (hb hby at_216) rfl k_) ?_
          show Go pg.tables ev below (T36.setTop (mkF mi 217 #[.val (.int a), .val (.int b), .val (.int (1 : Int32)), .val (.int (0 : Int32)), .val (.int (1 : Int32)), .val (.int (1 : Int32)), .val (.int (1 : Int32)), .val (.ref f1), .val (.int (1 : Int32)), .val (.ref f3)] [(.int (0 : Int32)), (.int (0 : Int32))])) P
          refine Go.st (fun t_ k_ => XS.iload X36.here hx rfl (hb hby at_217) rfl k_) ?_
          show Go pg.tables ev below (T36.setTop (mkF mi 219 #[.val (.int a), .val (.int b), .val (.int (1 : Int32)), .val (.int (0 : Int32)), .val (.int (1 : Int32)), .val (.int (1 : Int32)), .val (.int (1 : Int32)), .val (.ref f1), .val (.int (1 : Int32)), .val (.ref f3)] [(.int (1 : Int32)), (.int (0 : Int32)), (.int (0 : Int32))])) P
          refine Go.st (fun t_ k_ => XS.icmpYes X36.here hx rfl (pc0 := 219) (pc' := 226) rfl (hb hby at_219) rfl (feq (by decide)).2 (by decide) (by decide) k_) ?_
          show Go pg.tables ev below (T36.setTop (mkF mi 226 #[.val (.int a), .val (.int b), .val (.int (1 : Int32)), .val (.int (0 : Int32)), .val (.int (1 : Int32)), .val (.int (1 : Int32)), .val (.int (1 : Int32)), .val (.ref f1), .val (.int (1 : Int32)), .val (.ref f3)] [(.int (0 : Int32))])) P
          refine Go.st (fun t_ k_ => XS.iconst X36.here hx rfl (hb hby at_226) k_) ?_
          show Go pg.tables ev below (T36.setTop (mkF mi 227 #[.val (.int a), .val (.int b), .val (.int (1 : Int32)), .val (.int (0 : Int32)), .val (.int (1 : Int32)), .val (.int (1 : Int32)), .val (.int (1 : Int32)), .val (.ref f1), .val (.int (1 : Int32)), .val (.ref f3)] [(.int (0 : Int32)), (.int (0 : Int32))])) P
          refine Go.st (fun t_ k_ => XS.icmpNo X36.here hx rfl (hb hby at_227) rfl (teq rfl).2 k_) ?_
          show Go pg.tables ev below (T36.setTop (mkF mi 230 #[.val (.int a), .val (.int b), .val (.int (1 : Int32)), .val (.int (0 : Int32)), .val (.int (1 : Int32)), .val (.int (1 : Int32)), .val (.int (1 : Int32)), .val (.ref f1), .val (.int (1 : Int32)), .val (.ref f3)] [])) P
          refine Go.st (fun t_ k_ => XS.iconst X36.here hx rfl (hb hby at_230) k_) ?_
          show Go pg.tables ev below (T36.setTop (mkF mi 231 #[.val (.int a), .val (.int b), .val (.int (1 : Int32)), .val (.int (0 : Int32)), .val (.int (1 : Int32)), .val (.int (1 : Int32)), .val (.int (1 : Int32)), .val (.ref f1), .val (.int (1 : Int32)), .val (.ref f3)] [(.int (1 : Int32))])) P
          refine Go.st (fun t_ k_ => XS.goto X36.here hx rfl (pc0 := 231) (pc' := 235) rfl (hb hby at_231) (by decide) (by decide) k_) ?_
          show Go pg.tables ev below (T36.setTop (mkF mi 235 #[.val (.int a), .val (.int b), .val (.int (1 : Int32)), .val (.int (0 : Int32)), .val (.int (1 : Int32)), .val (.int (1 : Int32)), .val (.int (1 : Int32)), .val (.ref f1), .val (.int (1 : Int32)), .val (.ref f3)] [(.int (1 : Int32))])) P
          refine Go.st (fun t_ k_ => XS.istore X36.here hx rfl (hb hby at_235) rfl (l' := #[.val (.int a), .val (.int b), .val (.int (1 : Int32)), .val (.int (0 : Int32)), .val (.int (1 : Int32)), .val (.int (1 : Int32)), .val (.int (1 : Int32)), .val (.ref f1), .val (.int (1 : Int32)), .val (.ref f3)]) rfl k_) ?_
          show Go pg.tables ev below (T36.setTop (mkF mi 237 #[.val (.int a), .val (.int b), .val (.int (1 : Int32)), .val (.int (0 : Int32)), .val (.int (1 : Int32)), .val (.int (1 : Int32)), .val (.int (1 : Int32)), .val (.ref f1), .val (.int (1 : Int32)), .val (.ref f3)] [])) P
          refine Go.st (fun t_ k_ => XS.iload X36.here hx rfl (hb hby at_237) rfl k_) ?_
          show Go pg.tables ev below (T36.setTop (mkF mi 239 #[.val (.int a), .val (.int b), .val (.int (1 : Int32)), .val (.int (0 : Int32)), .val (.int (1 : Int32)), .val (.int (1 : Int32)), .val (.int (1 : Int32)), .val (.ref f1), .val (.int (1 : Int32)), .val (.ref f3)] [(.int (1 : Int32))])) P
          obtain ⟨fs, hr, hrun, hended, hW, hsame⟩ := X36.leave (v := some (.int (1 : Int32))) (fun h => by rw [Bd.returns] at h; cases h) (BodyLoose.notSynchronized Bd)
          refine ⟨_, _, ?_, hP _ _ ⟨hrun, hended, _, _, rfl, ?_, ⟨_, rfl⟩, hW, hsame.mono (by decide) (by decide)⟩⟩
          · exact retN X36 hx (t := .boolean) Bd.returns (by simp) (hb hby at_239) hr
          · show (some (.int (1 : Int32)) : Option Value) = some (.int 1) ∧ Fr n0 _
            exact ⟨rfl, N36⟩
    · refine Go.st (fun t_ k_ => XS.ifNo X0.here hx rfl (hb hby at_15) rfl ((if0 _ _).trans (feq hc15_3).1) k_) ?_
      show Go pg.tables ev below (s₁.setTop (mkF mi 18 #[.val (.int a), .val (.int b), .val (.int (1 : Int32)), .unset, .unset, .unset, .unset, .unset, .unset, .unset] [])) P
      refine Go.st (fun t_ k_ => XS.iconst X0.here hx rfl (hb hby at_18) k_) ?_
      show Go pg.tables ev below (s₁.setTop (mkF mi 19 #[.val (.int a), .val (.int b), .val (.int (1 : Int32)), .unset, .unset, .unset, .unset, .unset, .unset, .unset] [(.int (1 : Int32))])) P
      refine Go.st (fun t_ k_ => XS.goto X0.here hx rfl (pc0 := 19) (pc' := 23) rfl (hb hby at_19) (by decide) (by decide) k_) ?_
      show Go pg.tables ev below (s₁.setTop (mkF mi 23 #[.val (.int a), .val (.int b), .val (.int (1 : Int32)), .unset, .unset, .unset, .unset, .unset, .unset, .unset] [(.int (1 : Int32))])) P
      refine Go.st (fun t_ k_ => XS.istoreN X0.here hx rfl (hb hby at_23) rfl (l' := #[.val (.int a), .val (.int b), .val (.int (1 : Int32)), .val (.int (1 : Int32)), .unset, .unset, .unset, .unset, .unset, .unset]) rfl k_) ?_
      show Go pg.tables ev below (s₁.setTop (mkF mi 24 #[.val (.int a), .val (.int b), .val (.int (1 : Int32)), .val (.int (1 : Int32)), .unset, .unset, .unset, .unset, .unset, .unset] [])) P
      refine Go.st (fun t_ k_ => XS.iloadN X0.here hx rfl (hb hby at_24) rfl k_) ?_
      show Go pg.tables ev below (s₁.setTop (mkF mi 25 #[.val (.int a), .val (.int b), .val (.int (1 : Int32)), .val (.int (1 : Int32)), .unset, .unset, .unset, .unset, .unset, .unset] [(.int b)])) P
      refine Go.st (fun t_ k_ => XS.iconst X0.here hx rfl (hb hby at_25) k_) ?_
      show Go pg.tables ev below (s₁.setTop (mkF mi 26 #[.val (.int a), .val (.int b), .val (.int (1 : Int32)), .val (.int (1 : Int32)), .unset, .unset, .unset, .unset, .unset, .unset] [(.int (1 : Int32)), (.int b)])) P
      refine Go.st (fun t_ k_ => XS.iand X0.here hx rfl (hb hby at_26) rfl k_) ?_
      show Go pg.tables ev below (s₁.setTop (mkF mi 27 #[.val (.int a), .val (.int b), .val (.int (1 : Int32)), .val (.int (1 : Int32)), .unset, .unset, .unset, .unset, .unset, .unset] [(.int (b &&& (1 : Int32)))])) P
      have dm37 : ∀ t_, Steps pg.tables ev below (s₁.setTop (mkF mi 35 #[.val (.int a), .val (.int b), .val (.int (1 : Int32)), .val (.int (1 : Int32)), .unset, .unset, .unset, .unset, .unset, .unset] [(.int (if (b &&& (1 : Int32)) = (0 : Int32) then (0 : Int32) else (1 : Int32)))])) t_ → Steps pg.tables ev below (s₁.setTop (mkF mi 27 #[.val (.int a), .val (.int b), .val (.int (1 : Int32)), .val (.int (1 : Int32)), .unset, .unset, .unset, .unset, .unset, .unset] [(.int (b &&& (1 : Int32)))])) t_ := by
        intro t_ k_
        by_cases hd : (b &&& (1 : Int32)) = (0 : Int32)
        · refine XS.ifYes X0.here hx rfl (pc0 := 27) (pc' := 34) rfl (hb hby at_27) rfl ((if0 _ _).trans (teq hd).1) (by decide) (by decide) ?_
          show Steps pg.tables ev below (s₁.setTop (mkF mi 34 #[.val (.int a), .val (.int b), .val (.int (1 : Int32)), .val (.int (1 : Int32)), .unset, .unset, .unset, .unset, .unset, .unset] [])) t_
          refine XS.iconst X0.here hx rfl (hb hby at_34) ?_
          show Steps pg.tables ev below (s₁.setTop (mkF mi 35 #[.val (.int a), .val (.int b), .val (.int (1 : Int32)), .val (.int (1 : Int32)), .unset, .unset, .unset, .unset, .unset, .unset] [(.int (0 : Int32))])) t_
          exact own_cst (if_pos hd) k_
        · refine XS.ifNo X0.here hx rfl (hb hby at_27) rfl ((if0 _ _).trans (feq hd).1) ?_
          show Steps pg.tables ev below (s₁.setTop (mkF mi 30 #[.val (.int a), .val (.int b), .val (.int (1 : Int32)), .val (.int (1 : Int32)), .unset, .unset, .unset, .unset, .unset, .unset] [])) t_
          refine XS.iconst X0.here hx rfl (hb hby at_30) ?_
          show Steps pg.tables ev below (s₁.setTop (mkF mi 31 #[.val (.int a), .val (.int b), .val (.int (1 : Int32)), .val (.int (1 : Int32)), .unset, .unset, .unset, .unset, .unset, .unset] [(.int (1 : Int32))])) t_
          refine XS.goto X0.here hx rfl (pc0 := 31) (pc' := 35) rfl (hb hby at_31) (by decide) (by decide) ?_
          show Steps pg.tables ev below (s₁.setTop (mkF mi 35 #[.val (.int a), .val (.int b), .val (.int (1 : Int32)), .val (.int (1 : Int32)), .unset, .unset, .unset, .unset, .unset, .unset] [(.int (1 : Int32))])) t_
          exact own_cst (if_neg hd) k_
      refine Go.st dm37 ?_
      show Go pg.tables ev below (s₁.setTop (mkF mi 35 #[.val (.int a), .val (.int b), .val (.int (1 : Int32)), .val (.int (1 : Int32)), .unset, .unset, .unset, .unset, .unset, .unset] [(.int (if (b &&& (1 : Int32)) = (0 : Int32) then (0 : Int32) else (1 : Int32)))])) P
      refine Go.st (fun t_ k_ => XS.istore X0.here hx rfl (hb hby at_35) rfl (l' := #[.val (.int a), .val (.int b), .val (.int (1 : Int32)), .val (.int (1 : Int32)), .val (.int (if (b &&& (1 : Int32)) = (0 : Int32) then (0 : Int32) else (1 : Int32))), .unset, .unset, .unset, .unset, .unset]) rfl k_) ?_
      show Go pg.tables ev below (s₁.setTop (mkF mi 37 #[.val (.int a), .val (.int b), .val (.int (1 : Int32)), .val (.int (1 : Int32)), .val (.int (if (b &&& (1 : Int32)) = (0 : Int32) then (0 : Int32) else (1 : Int32))), .unset, .unset, .unset, .unset, .unset] [])) P
      refine Go.st (fun t_ k_ => XS.iloadN X0.here hx rfl (hb hby at_37) rfl k_) ?_
      show Go pg.tables ev below (s₁.setTop (mkF mi 38 #[.val (.int a), .val (.int b), .val (.int (1 : Int32)), .val (.int (1 : Int32)), .val (.int (if (b &&& (1 : Int32)) = (0 : Int32) then (0 : Int32) else (1 : Int32))), .unset, .unset, .unset, .unset, .unset] [(.int b)])) P
      refine Go.st (fun t_ k_ => XS.iconst X0.here hx rfl (hb hby at_38) k_) ?_
      show Go pg.tables ev below (s₁.setTop (mkF mi 39 #[.val (.int a), .val (.int b), .val (.int (1 : Int32)), .val (.int (1 : Int32)), .val (.int (if (b &&& (1 : Int32)) = (0 : Int32) then (0 : Int32) else (1 : Int32))), .unset, .unset, .unset, .unset, .unset] [(.int (2 : Int32)), (.int b)])) P
      refine Go.st (fun t_ k_ => XS.iand X0.here hx rfl (hb hby at_39) rfl k_) ?_
      show Go pg.tables ev below (s₁.setTop (mkF mi 40 #[.val (.int a), .val (.int b), .val (.int (1 : Int32)), .val (.int (1 : Int32)), .val (.int (if (b &&& (1 : Int32)) = (0 : Int32) then (0 : Int32) else (1 : Int32))), .unset, .unset, .unset, .unset, .unset] [(.int (b &&& (2 : Int32)))])) P
      have dm38 : ∀ t_, Steps pg.tables ev below (s₁.setTop (mkF mi 48 #[.val (.int a), .val (.int b), .val (.int (1 : Int32)), .val (.int (1 : Int32)), .val (.int (if (b &&& (1 : Int32)) = (0 : Int32) then (0 : Int32) else (1 : Int32))), .unset, .unset, .unset, .unset, .unset] [(.int (if (b &&& (2 : Int32)) = (0 : Int32) then (0 : Int32) else (1 : Int32)))])) t_ → Steps pg.tables ev below (s₁.setTop (mkF mi 40 #[.val (.int a), .val (.int b), .val (.int (1 : Int32)), .val (.int (1 : Int32)), .val (.int (if (b &&& (1 : Int32)) = (0 : Int32) then (0 : Int32) else (1 : Int32))), .unset, .unset, .unset, .unset, .unset] [(.int (b &&& (2 : Int32)))])) t_ := by
        intro t_ k_
        by_cases hd : (b &&& (2 : Int32)) = (0 : Int32)
        · refine XS.ifYes X0.here hx rfl (pc0 := 40) (pc' := 47) rfl (hb hby at_40) rfl ((if0 _ _).trans (teq hd).1) (by decide) (by decide) ?_
          show Steps pg.tables ev below (s₁.setTop (mkF mi 47 #[.val (.int a), .val (.int b), .val (.int (1 : Int32)), .val (.int (1 : Int32)), .val (.int (if (b &&& (1 : Int32)) = (0 : Int32) then (0 : Int32) else (1 : Int32))), .unset, .unset, .unset, .unset, .unset] [])) t_
          refine XS.iconst X0.here hx rfl (hb hby at_47) ?_
          show Steps pg.tables ev below (s₁.setTop (mkF mi 48 #[.val (.int a), .val (.int b), .val (.int (1 : Int32)), .val (.int (1 : Int32)), .val (.int (if (b &&& (1 : Int32)) = (0 : Int32) then (0 : Int32) else (1 : Int32))), .unset, .unset, .unset, .unset, .unset] [(.int (0 : Int32))])) t_
          exact own_cst (if_pos hd) k_
        · refine XS.ifNo X0.here hx rfl (hb hby at_40) rfl ((if0 _ _).trans (feq hd).1) ?_
          show Steps pg.tables ev below (s₁.setTop (mkF mi 43 #[.val (.int a), .val (.int b), .val (.int (1 : Int32)), .val (.int (1 : Int32)), .val (.int (if (b &&& (1 : Int32)) = (0 : Int32) then (0 : Int32) else (1 : Int32))), .unset, .unset, .unset, .unset, .unset] [])) t_
          refine XS.iconst X0.here hx rfl (hb hby at_43) ?_
          show Steps pg.tables ev below (s₁.setTop (mkF mi 44 #[.val (.int a), .val (.int b), .val (.int (1 : Int32)), .val (.int (1 : Int32)), .val (.int (if (b &&& (1 : Int32)) = (0 : Int32) then (0 : Int32) else (1 : Int32))), .unset, .unset, .unset, .unset, .unset] [(.int (1 : Int32))])) t_
          refine XS.goto X0.here hx rfl (pc0 := 44) (pc' := 48) rfl (hb hby at_44) (by decide) (by decide) ?_
          show Steps pg.tables ev below (s₁.setTop (mkF mi 48 #[.val (.int a), .val (.int b), .val (.int (1 : Int32)), .val (.int (1 : Int32)), .val (.int (if (b &&& (1 : Int32)) = (0 : Int32) then (0 : Int32) else (1 : Int32))), .unset, .unset, .unset, .unset, .unset] [(.int (1 : Int32))])) t_
          exact own_cst (if_neg hd) k_
      refine Go.st dm38 ?_
      show Go pg.tables ev below (s₁.setTop (mkF mi 48 #[.val (.int a), .val (.int b), .val (.int (1 : Int32)), .val (.int (1 : Int32)), .val (.int (if (b &&& (1 : Int32)) = (0 : Int32) then (0 : Int32) else (1 : Int32))), .unset, .unset, .unset, .unset, .unset] [(.int (if (b &&& (2 : Int32)) = (0 : Int32) then (0 : Int32) else (1 : Int32)))])) P
      refine Go.st (fun t_ k_ => XS.istore X0.here hx rfl (hb hby at_48) rfl (l' := #[.val (.int a), .val (.int b), .val (.int (1 : Int32)), .val (.int (1 : Int32)), .val (.int (if (b &&& (1 : Int32)) = (0 : Int32) then (0 : Int32) else (1 : Int32))), .val (.int (if (b &&& (2 : Int32)) = (0 : Int32) then (0 : Int32) else (1 : Int32))), .unset, .unset, .unset, .unset]) rfl k_) ?_
      show Go pg.tables ev below (s₁.setTop (mkF mi 50 #[.val (.int a), .val (.int b), .val (.int (1 : Int32)), .val (.int (1 : Int32)), .val (.int (if (b &&& (1 : Int32)) = (0 : Int32) then (0 : Int32) else (1 : Int32))), .val (.int (if (b &&& (2 : Int32)) = (0 : Int32) then (0 : Int32) else (1 : Int32))), .unset, .unset, .unset, .unset] [])) P
      refine Go.st (fun t_ k_ => XS.iloadN X0.here hx rfl (hb hby at_50) rfl k_) ?_
      show Go pg.tables ev below (s₁.setTop (mkF mi 51 #[.val (.int a), .val (.int b), .val (.int (1 : Int32)), .val (.int (1 : Int32)), .val (.int (if (b &&& (1 : Int32)) = (0 : Int32) then (0 : Int32) else (1 : Int32))), .val (.int (if (b &&& (2 : Int32)) = (0 : Int32) then (0 : Int32) else (1 : Int32))), .unset, .unset, .unset, .unset] [(.int (1 : Int32))])) P
      refine Go.st (fun t_ k_ => XS.ifNo X0.here hx rfl (hb hby at_51) rfl ((if0 _ _).trans (feq (by decide)).1) k_) ?_
      show Go pg.tables ev below (s₁.setTop (mkF mi 54 #[.val (.int a), .val (.int b), .val (.int (1 : Int32)), .val (.int (1 : Int32)), .val (.int (if (b &&& (1 : Int32)) = (0 : Int32) then (0 : Int32) else (1 : Int32))), .val (.int (if (b &&& (2 : Int32)) = (0 : Int32) then (0 : Int32) else (1 : Int32))), .unset, .unset, .unset, .unset] [])) P
      refine Go.st (fun t_ k_ => XS.iconst X0.here hx rfl (hb hby at_54) k_) ?_
      show Go pg.tables ev below (s₁.setTop (mkF mi 55 #[.val (.int a), .val (.int b), .val (.int (1 : Int32)), .val (.int (1 : Int32)), .val (.int (if (b &&& (1 : Int32)) = (0 : Int32) then (0 : Int32) else (1 : Int32))), .val (.int (if (b &&& (2 : Int32)) = (0 : Int32) then (0 : Int32) else (1 : Int32))), .unset, .unset, .unset, .unset] [(.int (1 : Int32))])) P
      refine Go.st (fun t_ k_ => XS.goto X0.here hx rfl (pc0 := 55) (pc' := 59) rfl (hb hby at_55) (by decide) (by decide) k_) ?_
      show Go pg.tables ev below (s₁.setTop (mkF mi 59 #[.val (.int a), .val (.int b), .val (.int (1 : Int32)), .val (.int (1 : Int32)), .val (.int (if (b &&& (1 : Int32)) = (0 : Int32) then (0 : Int32) else (1 : Int32))), .val (.int (if (b &&& (2 : Int32)) = (0 : Int32) then (0 : Int32) else (1 : Int32))), .unset, .unset, .unset, .unset] [(.int (1 : Int32))])) P
      refine Go.st (fun t_ k_ => XS.iloadN X0.here hx rfl (hb hby at_59) rfl k_) ?_
      show Go pg.tables ev below (s₁.setTop (mkF mi 60 #[.val (.int a), .val (.int b), .val (.int (1 : Int32)), .val (.int (1 : Int32)), .val (.int (if (b &&& (1 : Int32)) = (0 : Int32) then (0 : Int32) else (1 : Int32))), .val (.int (if (b &&& (2 : Int32)) = (0 : Int32) then (0 : Int32) else (1 : Int32))), .unset, .unset, .unset, .unset] [(.int (1 : Int32)), (.int (1 : Int32))])) P
      refine Go.st (fun t_ k_ => XS.ifNo X0.here hx rfl (hb hby at_60) rfl ((if0 _ _).trans (feq (by decide)).1) k_) ?_
      show Go pg.tables ev below (s₁.setTop (mkF mi 63 #[.val (.int a), .val (.int b), .val (.int (1 : Int32)), .val (.int (1 : Int32)), .val (.int (if (b &&& (1 : Int32)) = (0 : Int32) then (0 : Int32) else (1 : Int32))), .val (.int (if (b &&& (2 : Int32)) = (0 : Int32) then (0 : Int32) else (1 : Int32))), .unset, .unset, .unset, .unset] [(.int (1 : Int32))])) P
      refine Go.st (fun t_ k_ => XS.iconst X0.here hx rfl (hb hby at_63) k_) ?_
      show Go pg.tables ev below (s₁.setTop (mkF mi 64 #[.val (.int a), .val (.int b), .val (.int (1 : Int32)), .val (.int (1 : Int32)), .val (.int (if (b &&& (1 : Int32)) = (0 : Int32) then (0 : Int32) else (1 : Int32))), .val (.int (if (b &&& (2 : Int32)) = (0 : Int32) then (0 : Int32) else (1 : Int32))), .unset, .unset, .unset, .unset] [(.int (2 : Int32)), (.int (1 : Int32))])) P
      refine Go.st (fun t_ k_ => XS.goto X0.here hx rfl (pc0 := 64) (pc' := 68) rfl (hb hby at_64) (by decide) (by decide) k_) ?_
      show Go pg.tables ev below (s₁.setTop (mkF mi 68 #[.val (.int a), .val (.int b), .val (.int (1 : Int32)), .val (.int (1 : Int32)), .val (.int (if (b &&& (1 : Int32)) = (0 : Int32) then (0 : Int32) else (1 : Int32))), .val (.int (if (b &&& (2 : Int32)) = (0 : Int32) then (0 : Int32) else (1 : Int32))), .unset, .unset, .unset, .unset] [(.int (2 : Int32)), (.int (1 : Int32))])) P
      refine Go.st (fun t_ k_ => XS.ior X0.here hx rfl (hb hby at_68) rfl k_) ?_
      show Go pg.tables ev below (s₁.setTop (mkF mi 69 #[.val (.int a), .val (.int b), .val (.int (1 : Int32)), .val (.int (1 : Int32)), .val (.int (if (b &&& (1 : Int32)) = (0 : Int32) then (0 : Int32) else (1 : Int32))), .val (.int (if (b &&& (2 : Int32)) = (0 : Int32) then (0 : Int32) else (1 : Int32))), .unset, .unset, .unset, .unset] [(.int (3 : Int32))])) P
      refine Go.st (fun t_ k_ => XS.istore X0.here hx rfl (hb hby at_69) rfl (l' := #[.val (.int a), .val (.int b), .val (.int (1 : Int32)), .val (.int (1 : Int32)), .val (.int (if (b &&& (1 : Int32)) = (0 : Int32) then (0 : Int32) else (1 : Int32))), .val (.int (if (b &&& (2 : Int32)) = (0 : Int32) then (0 : Int32) else (1 : Int32))), .val (.int (3 : Int32)), .unset, .unset, .unset]) rfl k_) ?_
      show Go pg.tables ev below (s₁.setTop (mkF mi 71 #[.val (.int a), .val (.int b), .val (.int (1 : Int32)), .val (.int (1 : Int32)), .val (.int (if (b &&& (1 : Int32)) = (0 : Int32) then (0 : Int32) else (1 : Int32))), .val (.int (if (b &&& (2 : Int32)) = (0 : Int32) then (0 : Int32) else (1 : Int32))), .val (.int (3 : Int32)), .unset, .unset, .unset] [])) P
      refine Go.st (fun t_ k_ => XS.iloadN X0.here hx rfl (hb hby at_71) rfl k_) ?_
      show Go pg.tables ev below (s₁.setTop (mkF mi 72 #[.val (.int a), .val (.int b), .val (.int (1 : Int32)), .val (.int (1 : Int32)), .val (.int (if (b &&& (1 : Int32)) = (0 : Int32) then (0 : Int32) else (1 : Int32))), .val (.int (if (b &&& (2 : Int32)) = (0 : Int32) then (0 : Int32) else (1 : Int32))), .val (.int (3 : Int32)), .unset, .unset, .unset] [(.int (1 : Int32))])) P
      refine Go.st (fun t_ k_ => XS.iloadN X0.here hx rfl (hb hby at_72) rfl k_) ?_
      show Go pg.tables ev below (s₁.setTop (mkF mi 73 #[.val (.int a), .val (.int b), .val (.int (1 : Int32)), .val (.int (1 : Int32)), .val (.int (if (b &&& (1 : Int32)) = (0 : Int32) then (0 : Int32) else (1 : Int32))), .val (.int (if (b &&& (2 : Int32)) = (0 : Int32) then (0 : Int32) else (1 : Int32))), .val (.int (3 : Int32)), .unset, .unset, .unset] [(.int (1 : Int32)), (.int (1 : Int32))])) P
      obtain ⟨_, _, ⟨T39, L39, k39, n39⟩, -, X39, ⟨Lc39, hQ39, l39, y39, z39⟩, st39⟩ := Jvm.LawKit.callS X0 hx (y := (⟨"com/example/baton/baton/TraceFlags", "of", "(ZZ)Lcom/example/baton/baton/TraceFlags;"⟩ : MethodName)) hown (mvT hZ (hw _ (List.mem_of_getElem? (i := 0) rfl))) (mvT hZ (hw _ (List.mem_of_getElem? (i := 1) rfl))) (mvT hZ (hw _ (List.mem_of_getElem? (i := 2) rfl))) (mvT hZ (hw _ (List.mem_of_getElem? (i := 3) rfl))) (by decide) (backOf (W := 0) (rmOf3 l Z a0 hw [] ar ka f0 f1 f2 f3 f5 f7 f8 f10 h0 n0 Z0 S0 A0) hZ (hw _ (List.mem_of_getElem? (i := 3) rfl)) (hw _ (List.mem_of_getElem? (i := 2) rfl)) (by decide) (by decide)) (g := (mkF mi 73 #[.val (.int a), .val (.int b), .val (.int (1 : Int32)), .val (.int (1 : Int32)), .val (.int (if (b &&& (1 : Int32)) = (0 : Int32) then (0 : Int32) else (1 : Int32))), .val (.int (if (b &&& (2 : Int32)) = (0 : Int32) then (0 : Int32) else (1 : Int32))), .val (.int (3 : Int32)), .unset, .unset, .unset] [(.int (1 : Int32)), (.int (1 : Int32))])) rfl (by rw [hml]; rfl) (argsL := [(.int (1 : Int32)), (.int (1 : Int32))]) (rest := []) (lenOf pd_0 rfl) rfl (by show 2 * 0 + _ ≤ _; exact Nat.le_of_eq rfl) (hb hby at_73) (fun _ _ => ⟨rfl, e0, (by decide : 0 + 0 ≤ _), (by decide : 0 + 0 ≤ _)⟩)
      dsimp only [Pt.U, Pt.locs, Pt.cells, Pt.slots] at X39 l39 y39 z39 st39 hQ39
      subst l39 y39 z39
      obtain ⟨rfl, N39q, e39⟩ := hQ39
      have N39 := Fr.app N0 N39q
      refine Go.st st39 ?_
      show Go pg.tables ev below (T39.setTop (mkF mi 76 #[.val (.int a), .val (.int b), .val (.int (1 : Int32)), .val (.int (1 : Int32)), .val (.int (if (b &&& (1 : Int32)) = (0 : Int32) then (0 : Int32) else (1 : Int32))), .val (.int (if (b &&& (2 : Int32)) = (0 : Int32) then (0 : Int32) else (1 : Int32))), .val (.int (3 : Int32)), .unset, .unset, .unset] [(.ref f3)])) P
      refine Go.st (fun t_ k_ => XS.astore X39.here hx rfl (hb hby at_76) rfl rfl (l' := #[.val (.int a), .val (.int b), .val (.int (1 : Int32)), .val (.int (1 : Int32)), .val (.int (if (b &&& (1 : Int32)) = (0 : Int32) then (0 : Int32) else (1 : Int32))), .val (.int (if (b &&& (2 : Int32)) = (0 : Int32) then (0 : Int32) else (1 : Int32))), .val (.int (3 : Int32)), .val (.ref f3), .unset, .unset]) rfl k_) ?_
      show Go pg.tables ev below (T39.setTop (mkF mi 78 #[.val (.int a), .val (.int b), .val (.int (1 : Int32)), .val (.int (1 : Int32)), .val (.int (if (b &&& (1 : Int32)) = (0 : Int32) then (0 : Int32) else (1 : Int32))), .val (.int (if (b &&& (2 : Int32)) = (0 : Int32) then (0 : Int32) else (1 : Int32))), .val (.int (3 : Int32)), .val (.ref f3), .unset, .unset] [])) P
      refine Go.st (fun t_ k_ => XS.aload X39.here hx rfl (hb hby at_78) rfl rfl k_) ?_
      show Go pg.tables ev below (T39.setTop (mkF mi 80 #[.val (.int a), .val (.int b), .val (.int (1 : Int32)), .val (.int (1 : Int32)), .val (.int (if (b &&& (1 : Int32)) = (0 : Int32) then (0 : Int32) else (1 : Int32))), .val (.int (if (b &&& (2 : Int32)) = (0 : Int32) then (0 : Int32) else (1 : Int32))), .val (.int (3 : Int32)), .val (.ref f3), .unset, .unset] [(.ref f3)])) P
      refine Go.st (fun t_ k_ => XS.ifnonnullYes X39.here hx rfl (pc0 := 80) (pc' := 85) rfl (hb hby at_80) rfl (by decide) (by decide) k_) ?_
      show Go pg.tables ev below (T39.setTop (mkF mi 85 #[.val (.int a), .val (.int b), .val (.int (1 : Int32)), .val (.int (1 : Int32)), .val (.int (if (b &&& (1 : Int32)) = (0 : Int32) then (0 : Int32) else (1 : Int32))), .val (.int (if (b &&& (2 : Int32)) = (0 : Int32) then (0 : Int32) else (1 : Int32))), .val (.int (3 : Int32)), .val (.ref f3), .unset, .unset] [])) P
      refine Go.st (fun t_ k_ => XS.aload X39.here hx rfl (hb hby at_85) rfl rfl k_) ?_
      show Go pg.tables ev below (T39.setTop (mkF mi 87 #[.val (.int a), .val (.int b), .val (.int (1 : Int32)), .val (.int (1 : Int32)), .val (.int (if (b &&& (1 : Int32)) = (0 : Int32) then (0 : Int32) else (1 : Int32))), .val (.int (if (b &&& (2 : Int32)) = (0 : Int32) then (0 : Int32) else (1 : Int32))), .val (.int (3 : Int32)), .val (.ref f3), .unset, .unset] [(.ref f3)])) P
      obtain ⟨cq40, kq40, q40a, q40b, q40c⟩ := isOf hZ e39 E3
      obtain ⟨_, _, ⟨T40, L40, k40, n40⟩, -, X40, ⟨Lc40, hQ40, l40, y40, z40⟩, st40⟩ := X39.virtualBack hx (y := (⟨"com/example/baton/baton/TraceFlags", "sampled", "()Z"⟩ : MethodName)) (z := (⟨"com/example/baton/baton/TraceFlags", "sampled", "()Z"⟩ : MethodName)) hown (mvT hZ (hw _ (List.mem_of_getElem? (i := 6) rfl))) (mvT hZ (hw _ (List.mem_of_getElem? (i := 7) rfl))) (notFace_of_selects (args := #[]) (mvT hZ (hw _ (List.mem_of_getElem? (i := 9) rfl)))) (mvT hZ (hw _ (List.mem_of_getElem? (i := 9) rfl))) (mvT hZ (hw _ (List.mem_of_getElem? (i := 8) rfl))) (by decide) (backOf (W := 0) (rmA l Z a0 hw [] f3 (3 : Int32) h0 n0 Z0 F3) hZ (hw _ (List.mem_of_getElem? (i := 10) rfl)) (hw _ (List.mem_of_getElem? (i := 2) rfl)) (by decide) (by decide)) q40a q40c (g := (mkF mi 87 #[.val (.int a), .val (.int b), .val (.int (1 : Int32)), .val (.int (1 : Int32)), .val (.int (if (b &&& (1 : Int32)) = (0 : Int32) then (0 : Int32) else (1 : Int32))), .val (.int (if (b &&& (2 : Int32)) = (0 : Int32) then (0 : Int32) else (1 : Int32))), .val (.int (3 : Int32)), .val (.ref f3), .unset, .unset] [(.ref f3)])) rfl (by rw [hml]; rfl) (Steps.refl _) (argsL := []) (rest := []) (lenOf pd_1 rfl) rfl (by show 2 * 0 + _ ≤ _; exact Nat.le_of_eq rfl) (hb hby at_87) (fun _ _ => ⟨rfl, e39, (by decide : 0 + 0 ≤ _), (by decide : 0 + 0 ≤ _)⟩)
      dsimp only [Pt.U, Pt.locs, Pt.cells, Pt.slots] at X40 l40 y40 z40 st40 hQ40
      subst l40 y40 z40
      obtain ⟨rfl, N40q, e40⟩ := hQ40
      have N40 := Fr.app N39 N40q
      refine Go.tr st40 ?_
      show Go pg.tables ev below (T40.setTop (mkF mi 90 #[.val (.int a), .val (.int b), .val (.int (1 : Int32)), .val (.int (1 : Int32)), .val (.int (if (b &&& (1 : Int32)) = (0 : Int32) then (0 : Int32) else (1 : Int32))), .val (.int (if (b &&& (2 : Int32)) = (0 : Int32) then (0 : Int32) else (1 : Int32))), .val (.int (3 : Int32)), .val (.ref f3), .unset, .unset] [(.int (1 : Int32))])) P
      refine Go.st (fun t_ k_ => XS.iloadN X40.here hx rfl (hb hby at_90) rfl k_) ?_
      show Go pg.tables ev below (T40.setTop (mkF mi 91 #[.val (.int a), .val (.int b), .val (.int (1 : Int32)), .val (.int (1 : Int32)), .val (.int (if (b &&& (1 : Int32)) = (0 : Int32) then (0 : Int32) else (1 : Int32))), .val (.int (if (b &&& (2 : Int32)) = (0 : Int32) then (0 : Int32) else (1 : Int32))), .val (.int (3 : Int32)), .val (.ref f3), .unset, .unset] [(.int (1 : Int32)), (.int (1 : Int32))])) P
      refine Go.st (fun t_ k_ => XS.icmpNo X40.here hx rfl (hb hby at_91) rfl (teq rfl).2 k_) ?_
      show Go pg.tables ev below (T40.setTop (mkF mi 94 #[.val (.int a), .val (.int b), .val (.int (1 : Int32)), .val (.int (1 : Int32)), .val (.int (if (b &&& (1 : Int32)) = (0 : Int32) then (0 : Int32) else (1 : Int32))), .val (.int (if (b &&& (2 : Int32)) = (0 : Int32) then (0 : Int32) else (1 : Int32))), .val (.int (3 : Int32)), .val (.ref f3), .unset, .unset] [])) P
      refine Go.st (fun t_ k_ => XS.iconst X40.here hx rfl (hb hby at_94) k_) ?_
      show Go pg.tables ev below (T40.setTop (mkF mi 95 #[.val (.int a), .val (.int b), .val (.int (1 : Int32)), .val (.int (1 : Int32)), .val (.int (if (b &&& (1 : Int32)) = (0 : Int32) then (0 : Int32) else (1 : Int32))), .val (.int (if (b &&& (2 : Int32)) = (0 : Int32) then (0 : Int32) else (1 : Int32))), .val (.int (3 : Int32)), .val (.ref f3), .unset, .unset] [(.int (1 : Int32))])) P
      refine Go.st (fun t_ k_ => XS.goto X40.here hx rfl (pc0 := 95) (pc' := 99) rfl (hb hby at_95) (by decide) (by decide) k_) ?_
      show Go pg.tables ev below (T40.setTop (mkF mi 99 #[.val (.int a), .val (.int b), .val (.int (1 : Int32)), .val (.int (1 : Int32)), .val (.int (if (b &&& (1 : Int32)) = (0 : Int32) then (0 : Int32) else (1 : Int32))), .val (.int (if (b &&& (2 : Int32)) = (0 : Int32) then (0 : Int32) else (1 : Int32))), .val (.int (3 : Int32)), .val (.ref f3), .unset, .unset] [(.int (1 : Int32))])) P
      refine Go.st (fun t_ k_ => XS.istore X40.here hx rfl (hb hby at_99) rfl (l' := #[.val (.int a), .val (.int b), .val (.int (1 : Int32)), .val (.int (1 : Int32)), .val (.int (if (b &&& (1 : Int32)) = (0 : Int32) then (0 : Int32) else (1 : Int32))), .val (.int (if (b &&& (2 : Int32)) = (0 : Int32) then (0 : Int32) else (1 : Int32))), .val (.int (3 : Int32)), .val (.ref f3), .val (.int (1 : Int32)), .unset]) rfl k_) ?_
      show Go pg.tables ev below (T40.setTop (mkF mi 101 #[.val (.int a), .val (.int b), .val (.int (1 : Int32)), .val (.int (1 : Int32)), .val (.int (if (b &&& (1 : Int32)) = (0 : Int32) then (0 : Int32) else (1 : Int32))), .val (.int (if (b &&& (2 : Int32)) = (0 : Int32) then (0 : Int32) else (1 : Int32))), .val (.int (3 : Int32)), .val (.ref f3), .val (.int (1 : Int32)), .unset] [])) P
      refine Go.st (fun t_ k_ => XS.iload X40.here hx rfl (hb hby at_101) rfl k_) ?_
      show Go pg.tables ev below (T40.setTop (mkF mi 103 #[.val (.int a), .val (.int b), .val (.int (1 : Int32)), .val (.int (1 : Int32)), .val (.int (if (b &&& (1 : Int32)) = (0 : Int32) then (0 : Int32) else (1 : Int32))), .val (.int (if (b &&& (2 : Int32)) = (0 : Int32) then (0 : Int32) else (1 : Int32))), .val (.int (3 : Int32)), .val (.ref f3), .val (.int (1 : Int32)), .unset] [(.int (1 : Int32))])) P
      refine Go.st (fun t_ k_ => XS.ifNo X40.here hx rfl (hb hby at_103) rfl ((if0 _ _).trans (feq (by decide)).1) k_) ?_
      show Go pg.tables ev below (T40.setTop (mkF mi 106 #[.val (.int a), .val (.int b), .val (.int (1 : Int32)), .val (.int (1 : Int32)), .val (.int (if (b &&& (1 : Int32)) = (0 : Int32) then (0 : Int32) else (1 : Int32))), .val (.int (if (b &&& (2 : Int32)) = (0 : Int32) then (0 : Int32) else (1 : Int32))), .val (.int (3 : Int32)), .val (.ref f3), .val (.int (1 : Int32)), .unset] [])) P
      refine Go.st (fun t_ k_ => XS.aload X40.here hx rfl (hb hby at_106) rfl rfl k_) ?_
      show Go pg.tables ev below (T40.setTop (mkF mi 108 #[.val (.int a), .val (.int b), .val (.int (1 : Int32)), .val (.int (1 : Int32)), .val (.int (if (b &&& (1 : Int32)) = (0 : Int32) then (0 : Int32) else (1 : Int32))), .val (.int (if (b &&& (2 : Int32)) = (0 : Int32) then (0 : Int32) else (1 : Int32))), .val (.int (3 : Int32)), .val (.ref f3), .val (.int (1 : Int32)), .unset] [(.ref f3)])) P
      obtain ⟨cq41, kq41, q41a, q41b, q41c⟩ := isOf hZ e40 E3
      obtain ⟨_, _, ⟨T41, L41, k41, n41⟩, -, X41, ⟨Lc41, hQ41, l41, y41, z41⟩, st41⟩ := X40.virtualBack hx (y := (⟨"com/example/baton/baton/TraceFlags", "randomTraceId", "()Z"⟩ : MethodName)) (z := (⟨"com/example/baton/baton/TraceFlags", "randomTraceId", "()Z"⟩ : MethodName)) hown (mvT hZ (hw _ (List.mem_of_getElem? (i := 13) rfl))) (mvT hZ (hw _ (List.mem_of_getElem? (i := 14) rfl))) (notFace_of_selects (args := #[]) (mvT hZ (hw _ (List.mem_of_getElem? (i := 16) rfl)))) (mvT hZ (hw _ (List.mem_of_getElem? (i := 16) rfl))) (mvT hZ (hw _ (List.mem_of_getElem? (i := 15) rfl))) (by decide) (backOf (W := 0) (rmB l Z a0 hw [] f3 (3 : Int32) h0 n0 Z0 F3) hZ (hw _ (List.mem_of_getElem? (i := 17) rfl)) (hw _ (List.mem_of_getElem? (i := 2) rfl)) (by decide) (by decide)) q41a q41c (g := (mkF mi 108 #[.val (.int a), .val (.int b), .val (.int (1 : Int32)), .val (.int (1 : Int32)), .val (.int (if (b &&& (1 : Int32)) = (0 : Int32) then (0 : Int32) else (1 : Int32))), .val (.int (if (b &&& (2 : Int32)) = (0 : Int32) then (0 : Int32) else (1 : Int32))), .val (.int (3 : Int32)), .val (.ref f3), .val (.int (1 : Int32)), .unset] [(.ref f3)])) rfl (by rw [hml]; rfl) (Steps.refl _) (argsL := []) (rest := []) (lenOf pd_1 rfl) rfl (by show 2 * 0 + _ ≤ _; exact Nat.le_of_eq rfl) (hb hby at_108) (fun _ _ => ⟨rfl, e40, (by decide : 0 + 0 ≤ _), (by decide : 0 + 0 ≤ _)⟩)
      dsimp only [Pt.U, Pt.locs, Pt.cells, Pt.slots] at X41 l41 y41 z41 st41 hQ41
      subst l41 y41 z41
      obtain ⟨rfl, N41q, e41⟩ := hQ41
      have N41 := Fr.app N40 N41q
      refine Go.tr st41 ?_
      show Go pg.tables ev below (T41.setTop (mkF mi 111 #[.val (.int a), .val (.int b), .val (.int (1 : Int32)), .val (.int (1 : Int32)), .val (.int (if (b &&& (1 : Int32)) = (0 : Int32) then (0 : Int32) else (1 : Int32))), .val (.int (if (b &&& (2 : Int32)) = (0 : Int32) then (0 : Int32) else (1 : Int32))), .val (.int (3 : Int32)), .val (.ref f3), .val (.int (1 : Int32)), .unset] [(.int (1 : Int32))])) P
      refine Go.st (fun t_ k_ => XS.iloadN X41.here hx rfl (hb hby at_111) rfl k_) ?_
      show Go pg.tables ev below (T41.setTop (mkF mi 112 #[.val (.int a), .val (.int b), .val (.int (1 : Int32)), .val (.int (1 : Int32)), .val (.int (if (b &&& (1 : Int32)) = (0 : Int32) then (0 : Int32) else (1 : Int32))), .val (.int (if (b &&& (2 : Int32)) = (0 : Int32) then (0 : Int32) else (1 : Int32))), .val (.int (3 : Int32)), .val (.ref f3), .val (.int (1 : Int32)), .unset] [(.int (1 : Int32)), (.int (1 : Int32))])) P
      refine Go.st (fun t_ k_ => XS.icmpNo X41.here hx rfl (hb hby at_112) rfl (teq rfl).2 k_) ?_
      show Go pg.tables ev below (T41.setTop (mkF mi 115 #[.val (.int a), .val (.int b), .val (.int (1 : Int32)), .val (.int (1 : Int32)), .val (.int (if (b &&& (1 : Int32)) = (0 : Int32) then (0 : Int32) else (1 : Int32))), .val (.int (if (b &&& (2 : Int32)) = (0 : Int32) then (0 : Int32) else (1 : Int32))), .val (.int (3 : Int32)), .val (.ref f3), .val (.int (1 : Int32)), .unset] [])) P
      refine Go.st (fun t_ k_ => XS.iconst X41.here hx rfl (hb hby at_115) k_) ?_
      show Go pg.tables ev below (T41.setTop (mkF mi 116 #[.val (.int a), .val (.int b), .val (.int (1 : Int32)), .val (.int (1 : Int32)), .val (.int (if (b &&& (1 : Int32)) = (0 : Int32) then (0 : Int32) else (1 : Int32))), .val (.int (if (b &&& (2 : Int32)) = (0 : Int32) then (0 : Int32) else (1 : Int32))), .val (.int (3 : Int32)), .val (.ref f3), .val (.int (1 : Int32)), .unset] [(.int (1 : Int32))])) P
      refine Go.st (fun t_ k_ => XS.goto X41.here hx rfl (pc0 := 116) (pc' := 120) rfl (hb hby at_116) (by decide) (by decide) k_) ?_
      show Go pg.tables ev below (T41.setTop (mkF mi 120 #[.val (.int a), .val (.int b), .val (.int (1 : Int32)), .val (.int (1 : Int32)), .val (.int (if (b &&& (1 : Int32)) = (0 : Int32) then (0 : Int32) else (1 : Int32))), .val (.int (if (b &&& (2 : Int32)) = (0 : Int32) then (0 : Int32) else (1 : Int32))), .val (.int (3 : Int32)), .val (.ref f3), .val (.int (1 : Int32)), .unset] [(.int (1 : Int32))])) P
      refine Go.st (fun t_ k_ => XS.istore X41.here hx rfl (hb hby at_120) rfl (l' := #[.val (.int a), .val (.int b), .val (.int (1 : Int32)), .val (.int (1 : Int32)), .val (.int (if (b &&& (1 : Int32)) = (0 : Int32) then (0 : Int32) else (1 : Int32))), .val (.int (if (b &&& (2 : Int32)) = (0 : Int32) then (0 : Int32) else (1 : Int32))), .val (.int (3 : Int32)), .val (.ref f3), .val (.int (1 : Int32)), .unset]) rfl k_) ?_
      show Go pg.tables ev below (T41.setTop (mkF mi 122 #[.val (.int a), .val (.int b), .val (.int (1 : Int32)), .val (.int (1 : Int32)), .val (.int (if (b &&& (1 : Int32)) = (0 : Int32) then (0 : Int32) else (1 : Int32))), .val (.int (if (b &&& (2 : Int32)) = (0 : Int32) then (0 : Int32) else (1 : Int32))), .val (.int (3 : Int32)), .val (.ref f3), .val (.int (1 : Int32)), .unset] [])) P
      refine Go.st (fun t_ k_ => XS.iload X41.here hx rfl (hb hby at_122) rfl k_) ?_
      show Go pg.tables ev below (T41.setTop (mkF mi 124 #[.val (.int a), .val (.int b), .val (.int (1 : Int32)), .val (.int (1 : Int32)), .val (.int (if (b &&& (1 : Int32)) = (0 : Int32) then (0 : Int32) else (1 : Int32))), .val (.int (if (b &&& (2 : Int32)) = (0 : Int32) then (0 : Int32) else (1 : Int32))), .val (.int (3 : Int32)), .val (.ref f3), .val (.int (1 : Int32)), .unset] [(.int (1 : Int32))])) P
      refine Go.st (fun t_ k_ => XS.ifNo X41.here hx rfl (hb hby at_124) rfl ((if0 _ _).trans (feq (by decide)).1) k_) ?_
      show Go pg.tables ev below (T41.setTop (mkF mi 127 #[.val (.int a), .val (.int b), .val (.int (1 : Int32)), .val (.int (1 : Int32)), .val (.int (if (b &&& (1 : Int32)) = (0 : Int32) then (0 : Int32) else (1 : Int32))), .val (.int (if (b &&& (2 : Int32)) = (0 : Int32) then (0 : Int32) else (1 : Int32))), .val (.int (3 : Int32)), .val (.ref f3), .val (.int (1 : Int32)), .unset] [])) P
      refine Go.st (fun t_ k_ => XS.aload X41.here hx rfl (hb hby at_127) rfl rfl k_) ?_
      show Go pg.tables ev below (T41.setTop (mkF mi 129 #[.val (.int a), .val (.int b), .val (.int (1 : Int32)), .val (.int (1 : Int32)), .val (.int (if (b &&& (1 : Int32)) = (0 : Int32) then (0 : Int32) else (1 : Int32))), .val (.int (if (b &&& (2 : Int32)) = (0 : Int32) then (0 : Int32) else (1 : Int32))), .val (.int (3 : Int32)), .val (.ref f3), .val (.int (1 : Int32)), .unset] [(.ref f3)])) P
      obtain ⟨cq42, kq42, q42a, q42b, q42c⟩ := isOf hZ e41 E3
      obtain ⟨_, _, ⟨T42, L42, k42, n42⟩, -, X42, ⟨Lc42, hQ42, l42, y42, z42⟩, st42⟩ := X41.virtualBack hx (y := (⟨"com/example/baton/baton/TraceFlags", "debug", "()Z"⟩ : MethodName)) (z := (⟨"com/example/baton/baton/TraceFlags", "debug", "()Z"⟩ : MethodName)) hown (mvT hZ (hw _ (List.mem_of_getElem? (i := 18) rfl))) (mvT hZ (hw _ (List.mem_of_getElem? (i := 19) rfl))) (notFace_of_selects (args := #[]) (mvT hZ (hw _ (List.mem_of_getElem? (i := 21) rfl)))) (mvT hZ (hw _ (List.mem_of_getElem? (i := 21) rfl))) (mvT hZ (hw _ (List.mem_of_getElem? (i := 20) rfl))) (by decide) (backOf (W := 0) (rmC l Z a0 hw [] f3 (3 : Int32) h0 n0 Z0 F3) hZ (hw _ (List.mem_of_getElem? (i := 22) rfl)) (hw _ (List.mem_of_getElem? (i := 2) rfl)) (by decide) (by decide)) q42a q42c (g := (mkF mi 129 #[.val (.int a), .val (.int b), .val (.int (1 : Int32)), .val (.int (1 : Int32)), .val (.int (if (b &&& (1 : Int32)) = (0 : Int32) then (0 : Int32) else (1 : Int32))), .val (.int (if (b &&& (2 : Int32)) = (0 : Int32) then (0 : Int32) else (1 : Int32))), .val (.int (3 : Int32)), .val (.ref f3), .val (.int (1 : Int32)), .unset] [(.ref f3)])) rfl (by rw [hml]; rfl) (Steps.refl _) (argsL := []) (rest := []) (lenOf pd_1 rfl) rfl (by show 2 * 0 + _ ≤ _; exact Nat.le_of_eq rfl) (hb hby at_129) (fun _ _ => ⟨rfl, e41, (by decide : 0 + 0 ≤ _), (by decide : 0 + 0 ≤ _)⟩)
      dsimp only [Pt.U, Pt.locs, Pt.cells, Pt.slots] at X42 l42 y42 z42 st42 hQ42
      subst l42 y42 z42
      obtain ⟨rfl, N42q, e42⟩ := hQ42
      have N42 := Fr.app N41 N42q
      refine Go.tr st42 ?_
      show Go pg.tables ev below (T42.setTop (mkF mi 132 #[.val (.int a), .val (.int b), .val (.int (1 : Int32)), .val (.int (1 : Int32)), .val (.int (if (b &&& (1 : Int32)) = (0 : Int32) then (0 : Int32) else (1 : Int32))), .val (.int (if (b &&& (2 : Int32)) = (0 : Int32) then (0 : Int32) else (1 : Int32))), .val (.int (3 : Int32)), .val (.ref f3), .val (.int (1 : Int32)), .unset] [(.int (0 : Int32))])) P
      refine Go.st (fun t_ k_ => XS.ifNo X42.here hx rfl (hb hby at_132) rfl ((if0 _ _).trans (teq rfl).2) k_) ?_
      show Go pg.tables ev below (T42.setTop (mkF mi 135 #[.val (.int a), .val (.int b), .val (.int (1 : Int32)), .val (.int (1 : Int32)), .val (.int (if (b &&& (1 : Int32)) = (0 : Int32) then (0 : Int32) else (1 : Int32))), .val (.int (if (b &&& (2 : Int32)) = (0 : Int32) then (0 : Int32) else (1 : Int32))), .val (.int (3 : Int32)), .val (.ref f3), .val (.int (1 : Int32)), .unset] [])) P
      refine Go.st (fun t_ k_ => XS.iconst X42.here hx rfl (hb hby at_135) k_) ?_
      show Go pg.tables ev below (T42.setTop (mkF mi 136 #[.val (.int a), .val (.int b), .val (.int (1 : Int32)), .val (.int (1 : Int32)), .val (.int (if (b &&& (1 : Int32)) = (0 : Int32) then (0 : Int32) else (1 : Int32))), .val (.int (if (b &&& (2 : Int32)) = (0 : Int32) then (0 : Int32) else (1 : Int32))), .val (.int (3 : Int32)), .val (.ref f3), .val (.int (1 : Int32)), .unset] [(.int (1 : Int32))])) P
      refine Go.st (fun t_ k_ => XS.goto X42.here hx rfl (pc0 := 136) (pc' := 140) rfl (hb hby at_136) (by decide) (by decide) k_) ?_
      show Go pg.tables ev below (T42.setTop (mkF mi 140 #[.val (.int a), .val (.int b), .val (.int (1 : Int32)), .val (.int (1 : Int32)), .val (.int (if (b &&& (1 : Int32)) = (0 : Int32) then (0 : Int32) else (1 : Int32))), .val (.int (if (b &&& (2 : Int32)) = (0 : Int32) then (0 : Int32) else (1 : Int32))), .val (.int (3 : Int32)), .val (.ref f3), .val (.int (1 : Int32)), .unset] [(.int (1 : Int32))])) P
      refine Go.st (fun t_ k_ => XS.istore X42.here hx rfl (hb hby at_140) rfl (l' := #[.val (.int a), .val (.int b), .val (.int (1 : Int32)), .val (.int (1 : Int32)), .val (.int (if (b &&& (1 : Int32)) = (0 : Int32) then (0 : Int32) else (1 : Int32))), .val (.int (if (b &&& (2 : Int32)) = (0 : Int32) then (0 : Int32) else (1 : Int32))), .val (.int (3 : Int32)), .val (.ref f3), .val (.int (1 : Int32)), .unset]) rfl k_) ?_
      show Go pg.tables ev below (T42.setTop (mkF mi 142 #[.val (.int a), .val (.int b), .val (.int (1 : Int32)), .val (.int (1 : Int32)), .val (.int (if (b &&& (1 : Int32)) = (0 : Int32) then (0 : Int32) else (1 : Int32))), .val (.int (if (b &&& (2 : Int32)) = (0 : Int32) then (0 : Int32) else (1 : Int32))), .val (.int (3 : Int32)), .val (.ref f3), .val (.int (1 : Int32)), .unset] [])) P
      refine Go.st (fun t_ k_ => XS.iload X42.here hx rfl (hb hby at_142) rfl k_) ?_
      show Go pg.tables ev below (T42.setTop (mkF mi 144 #[.val (.int a), .val (.int b), .val (.int (1 : Int32)), .val (.int (1 : Int32)), .val (.int (if (b &&& (1 : Int32)) = (0 : Int32) then (0 : Int32) else (1 : Int32))), .val (.int (if (b &&& (2 : Int32)) = (0 : Int32) then (0 : Int32) else (1 : Int32))), .val (.int (3 : Int32)), .val (.ref f3), .val (.int (1 : Int32)), .unset] [(.int (1 : Int32))])) P
      refine Go.st (fun t_ k_ => XS.ifNo X42.here hx rfl (hb hby at_144) rfl ((if0 _ _).trans (feq (by decide)).1) k_) ?_
      show Go pg.tables ev below (T42.setTop (mkF mi 147 #[.val (.int a), .val (.int b), .val (.int (1 : Int32)), .val (.int (1 : Int32)), .val (.int (if (b &&& (1 : Int32)) = (0 : Int32) then (0 : Int32) else (1 : Int32))), .val (.int (if (b &&& (2 : Int32)) = (0 : Int32) then (0 : Int32) else (1 : Int32))), .val (.int (3 : Int32)), .val (.ref f3), .val (.int (1 : Int32)), .unset] [])) P
      refine Go.st (fun t_ k_ => XS.aload X42.here hx rfl (hb hby at_147) rfl rfl k_) ?_
      show Go pg.tables ev below (T42.setTop (mkF mi 149 #[.val (.int a), .val (.int b), .val (.int (1 : Int32)), .val (.int (1 : Int32)), .val (.int (if (b &&& (1 : Int32)) = (0 : Int32) then (0 : Int32) else (1 : Int32))), .val (.int (if (b &&& (2 : Int32)) = (0 : Int32) then (0 : Int32) else (1 : Int32))), .val (.int (3 : Int32)), .val (.ref f3), .val (.int (1 : Int32)), .unset] [(.ref f3)])) P
      obtain ⟨cq43, kq43, q43a, q43b, q43c⟩ := isOf hZ e42 E3
      obtain ⟨_, _, ⟨T43, L43, k43, n43⟩, -, X43, ⟨Lc43, hQ43, l43, y43, z43⟩, st43⟩ := X42.virtualBack hx (y := (⟨"com/example/baton/baton/TraceFlags", "deferred", "()Z"⟩ : MethodName)) (z := (⟨"com/example/baton/baton/TraceFlags", "deferred", "()Z"⟩ : MethodName)) hown (mvT hZ (hw _ (List.mem_of_getElem? (i := 23) rfl))) (mvT hZ (hw _ (List.mem_of_getElem? (i := 24) rfl))) (notFace_of_selects (args := #[]) (mvT hZ (hw _ (List.mem_of_getElem? (i := 26) rfl)))) (mvT hZ (hw _ (List.mem_of_getElem? (i := 26) rfl))) (mvT hZ (hw _ (List.mem_of_getElem? (i := 25) rfl))) (by decide) (backOf (W := 0) (rmD l Z a0 hw [] f3 (3 : Int32) h0 n0 Z0 F3) hZ (hw _ (List.mem_of_getElem? (i := 27) rfl)) (hw _ (List.mem_of_getElem? (i := 2) rfl)) (by decide) (by decide)) q43a q43c (g := (mkF mi 149 #[.val (.int a), .val (.int b), .val (.int (1 : Int32)), .val (.int (1 : Int32)), .val (.int (if (b &&& (1 : Int32)) = (0 : Int32) then (0 : Int32) else (1 : Int32))), .val (.int (if (b &&& (2 : Int32)) = (0 : Int32) then (0 : Int32) else (1 : Int32))), .val (.int (3 : Int32)), .val (.ref f3), .val (.int (1 : Int32)), .unset] [(.ref f3)])) rfl (by rw [hml]; rfl) (Steps.refl _) (argsL := []) (rest := []) (lenOf pd_1 rfl) rfl (by show 2 * 0 + _ ≤ _; exact Nat.le_of_eq rfl) (hb hby at_149) (fun _ _ => ⟨rfl, e42, (by decide : 0 + 0 ≤ _), (by decide : 0 + 0 ≤ _)⟩)
      dsimp only [Pt.U, Pt.locs, Pt.cells, Pt.slots] at X43 l43 y43 z43 st43 hQ43
      subst l43 y43 z43
      obtain ⟨rfl, N43q, e43⟩ := hQ43
      have N43 := Fr.app N42 N43q
      refine Go.tr st43 ?_
      show Go pg.tables ev below (T43.setTop (mkF mi 152 #[.val (.int a), .val (.int b), .val (.int (1 : Int32)), .val (.int (1 : Int32)), .val (.int (if (b &&& (1 : Int32)) = (0 : Int32) then (0 : Int32) else (1 : Int32))), .val (.int (if (b &&& (2 : Int32)) = (0 : Int32) then (0 : Int32) else (1 : Int32))), .val (.int (3 : Int32)), .val (.ref f3), .val (.int (1 : Int32)), .unset] [(.int (0 : Int32))])) P
      refine Go.st (fun t_ k_ => XS.ifNo X43.here hx rfl (hb hby at_152) rfl ((if0 _ _).trans (teq rfl).2) k_) ?_
      show Go pg.tables ev below (T43.setTop (mkF mi 155 #[.val (.int a), .val (.int b), .val (.int (1 : Int32)), .val (.int (1 : Int32)), .val (.int (if (b &&& (1 : Int32)) = (0 : Int32) then (0 : Int32) else (1 : Int32))), .val (.int (if (b &&& (2 : Int32)) = (0 : Int32) then (0 : Int32) else (1 : Int32))), .val (.int (3 : Int32)), .val (.ref f3), .val (.int (1 : Int32)), .unset] [])) P
      refine Go.st (fun t_ k_ => XS.iconst X43.here hx rfl (hb hby at_155) k_) ?_
      show Go pg.tables ev below (T43.setTop (mkF mi 156 #[.val (.int a), .val (.int b), .val (.int (1 : Int32)), .val (.int (1 : Int32)), .val (.int (if (b &&& (1 : Int32)) = (0 : Int32) then (0 : Int32) else (1 : Int32))), .val (.int (if (b &&& (2 : Int32)) = (0 : Int32) then (0 : Int32) else (1 : Int32))), .val (.int (3 : Int32)), .val (.ref f3), .val (.int (1 : Int32)), .unset] [(.int (1 : Int32))])) P
      refine Go.st (fun t_ k_ => XS.goto X43.here hx rfl (pc0 := 156) (pc' := 160) rfl (hb hby at_156) (by decide) (by decide) k_) ?_
      show Go pg.tables ev below (T43.setTop (mkF mi 160 #[.val (.int a), .val (.int b), .val (.int (1 : Int32)), .val (.int (1 : Int32)), .val (.int (if (b &&& (1 : Int32)) = (0 : Int32) then (0 : Int32) else (1 : Int32))), .val (.int (if (b &&& (2 : Int32)) = (0 : Int32) then (0 : Int32) else (1 : Int32))), .val (.int (3 : Int32)), .val (.ref f3), .val (.int (1 : Int32)), .unset] [(.int (1 : Int32))])) P
      refine Go.st (fun t_ k_ => XS.istore X43.here hx rfl (hb hby at_160) rfl (l' := #[.val (.int a), .val (.int b), .val (.int (1 : Int32)), .val (.int (1 : Int32)), .val (.int (if (b &&& (1 : Int32)) = (0 : Int32) then (0 : Int32) else (1 : Int32))), .val (.int (if (b &&& (2 : Int32)) = (0 : Int32) then (0 : Int32) else (1 : Int32))), .val (.int (3 : Int32)), .val (.ref f3), .val (.int (1 : Int32)), .unset]) rfl k_) ?_
      show Go pg.tables ev below (T43.setTop (mkF mi 162 #[.val (.int a), .val (.int b), .val (.int (1 : Int32)), .val (.int (1 : Int32)), .val (.int (if (b &&& (1 : Int32)) = (0 : Int32) then (0 : Int32) else (1 : Int32))), .val (.int (if (b &&& (2 : Int32)) = (0 : Int32) then (0 : Int32) else (1 : Int32))), .val (.int (3 : Int32)), .val (.ref f3), .val (.int (1 : Int32)), .unset] [])) P
      refine Go.st (fun t_ k_ => XS.iload X43.here hx rfl (hb hby at_162) rfl k_) ?_
      show Go pg.tables ev below (T43.setTop (mkF mi 164 #[.val (.int a), .val (.int b), .val (.int (1 : Int32)), .val (.int (1 : Int32)), .val (.int (if (b &&& (1 : Int32)) = (0 : Int32) then (0 : Int32) else (1 : Int32))), .val (.int (if (b &&& (2 : Int32)) = (0 : Int32) then (0 : Int32) else (1 : Int32))), .val (.int (3 : Int32)), .val (.ref f3), .val (.int (1 : Int32)), .unset] [(.int (1 : Int32))])) P
      refine Go.st (fun t_ k_ => XS.ifNo X43.here hx rfl (hb hby at_164) rfl ((if0 _ _).trans (feq (by decide)).1) k_) ?_
      show Go pg.tables ev below (T43.setTop (mkF mi 167 #[.val (.int a), .val (.int b), .val (.int (1 : Int32)), .val (.int (1 : Int32)), .val (.int (if (b &&& (1 : Int32)) = (0 : Int32) then (0 : Int32) else (1 : Int32))), .val (.int (if (b &&& (2 : Int32)) = (0 : Int32) then (0 : Int32) else (1 : Int32))), .val (.int (3 : Int32)), .val (.ref f3), .val (.int (1 : Int32)), .unset] [])) P
      refine Go.st (fun t_ k_ => XS.aload X43.here hx rfl (hb hby at_167) rfl rfl k_) ?_
      show Go pg.tables ev below (T43.setTop (mkF mi 169 #[.val (.int a), .val (.int b), .val (.int (1 : Int32)), .val (.int (1 : Int32)), .val (.int (if (b &&& (1 : Int32)) = (0 : Int32) then (0 : Int32) else (1 : Int32))), .val (.int (if (b &&& (2 : Int32)) = (0 : Int32) then (0 : Int32) else (1 : Int32))), .val (.int (3 : Int32)), .val (.ref f3), .val (.int (1 : Int32)), .unset] [(.ref f3)])) P
      obtain ⟨cq44, kq44, q44a, q44b, q44c⟩ := isOf hZ e43 E3
      obtain ⟨_, _, ⟨T44, L44, k44, n44⟩, -, X44, ⟨Lc44, hQ44, l44, y44, z44⟩, st44⟩ := X43.virtualBack hx (y := (⟨"com/example/baton/baton/TraceFlags", "bits", "()I"⟩ : MethodName)) (z := (⟨"com/example/baton/baton/TraceFlags", "bits", "()I"⟩ : MethodName)) hown (mvT hZ (hw _ (List.mem_of_getElem? (i := 28) rfl))) (mvT hZ (hw _ (List.mem_of_getElem? (i := 29) rfl))) (notFace_of_selects (args := #[]) (mvT hZ (hw _ (List.mem_of_getElem? (i := 31) rfl)))) (mvT hZ (hw _ (List.mem_of_getElem? (i := 31) rfl))) (mvT hZ (hw _ (List.mem_of_getElem? (i := 30) rfl))) (by decide) (backOf (W := 0) (rmE l Z a0 hw [] f3 (3 : Int32) h0 n0 Z0 F3) hZ (hw _ (List.mem_of_getElem? (i := 32) rfl)) (hw _ (List.mem_of_getElem? (i := 2) rfl)) (by decide) (by decide)) q44a q44c (g := (mkF mi 169 #[.val (.int a), .val (.int b), .val (.int (1 : Int32)), .val (.int (1 : Int32)), .val (.int (if (b &&& (1 : Int32)) = (0 : Int32) then (0 : Int32) else (1 : Int32))), .val (.int (if (b &&& (2 : Int32)) = (0 : Int32) then (0 : Int32) else (1 : Int32))), .val (.int (3 : Int32)), .val (.ref f3), .val (.int (1 : Int32)), .unset] [(.ref f3)])) rfl (by rw [hml]; rfl) (Steps.refl _) (argsL := []) (rest := []) (lenOf pd_2 rfl) rfl (by show 2 * 0 + _ ≤ _; exact Nat.le_of_eq rfl) (hb hby at_169) (fun _ _ => ⟨rfl, e43, (by decide : 0 + 0 ≤ _), (by decide : 0 + 0 ≤ _)⟩)
      dsimp only [Pt.U, Pt.locs, Pt.cells, Pt.slots] at X44 l44 y44 z44 st44 hQ44
      subst l44 y44 z44
      obtain ⟨rfl, N44q, e44⟩ := hQ44
      have N44 := Fr.app N43 N44q
      refine Go.tr st44 ?_
      show Go pg.tables ev below (T44.setTop (mkF mi 172 #[.val (.int a), .val (.int b), .val (.int (1 : Int32)), .val (.int (1 : Int32)), .val (.int (if (b &&& (1 : Int32)) = (0 : Int32) then (0 : Int32) else (1 : Int32))), .val (.int (if (b &&& (2 : Int32)) = (0 : Int32) then (0 : Int32) else (1 : Int32))), .val (.int (3 : Int32)), .val (.ref f3), .val (.int (1 : Int32)), .unset] [(.int (3 : Int32))])) P
      refine Go.st (fun t_ k_ => XS.iload X44.here hx rfl (hb hby at_172) rfl k_) ?_
      show Go pg.tables ev below (T44.setTop (mkF mi 174 #[.val (.int a), .val (.int b), .val (.int (1 : Int32)), .val (.int (1 : Int32)), .val (.int (if (b &&& (1 : Int32)) = (0 : Int32) then (0 : Int32) else (1 : Int32))), .val (.int (if (b &&& (2 : Int32)) = (0 : Int32) then (0 : Int32) else (1 : Int32))), .val (.int (3 : Int32)), .val (.ref f3), .val (.int (1 : Int32)), .unset] [(.int (3 : Int32)), (.int (3 : Int32))])) P
      refine Go.st (fun t_ k_ => XS.icmpNo X44.here hx rfl (hb hby at_174) rfl (teq rfl).2 k_) ?_
      show Go pg.tables ev below (T44.setTop (mkF mi 177 #[.val (.int a), .val (.int b), .val (.int (1 : Int32)), .val (.int (1 : Int32)), .val (.int (if (b &&& (1 : Int32)) = (0 : Int32) then (0 : Int32) else (1 : Int32))), .val (.int (if (b &&& (2 : Int32)) = (0 : Int32) then (0 : Int32) else (1 : Int32))), .val (.int (3 : Int32)), .val (.ref f3), .val (.int (1 : Int32)), .unset] [])) P
      refine Go.st (fun t_ k_ => XS.iconst X44.here hx rfl (hb hby at_177) k_) ?_
      show Go pg.tables ev below (T44.setTop (mkF mi 178 #[.val (.int a), .val (.int b), .val (.int (1 : Int32)), .val (.int (1 : Int32)), .val (.int (if (b &&& (1 : Int32)) = (0 : Int32) then (0 : Int32) else (1 : Int32))), .val (.int (if (b &&& (2 : Int32)) = (0 : Int32) then (0 : Int32) else (1 : Int32))), .val (.int (3 : Int32)), .val (.ref f3), .val (.int (1 : Int32)), .unset] [(.int (1 : Int32))])) P
      refine Go.st (fun t_ k_ => XS.goto X44.here hx rfl (pc0 := 178) (pc' := 182) rfl (hb hby at_178) (by decide) (by decide) k_) ?_
      show Go pg.tables ev below (T44.setTop (mkF mi 182 #[.val (.int a), .val (.int b), .val (.int (1 : Int32)), .val (.int (1 : Int32)), .val (.int (if (b &&& (1 : Int32)) = (0 : Int32) then (0 : Int32) else (1 : Int32))), .val (.int (if (b &&& (2 : Int32)) = (0 : Int32) then (0 : Int32) else (1 : Int32))), .val (.int (3 : Int32)), .val (.ref f3), .val (.int (1 : Int32)), .unset] [(.int (1 : Int32))])) P
      refine Go.st (fun t_ k_ => XS.istore X44.here hx rfl (hb hby at_182) rfl (l' := #[.val (.int a), .val (.int b), .val (.int (1 : Int32)), .val (.int (1 : Int32)), .val (.int (if (b &&& (1 : Int32)) = (0 : Int32) then (0 : Int32) else (1 : Int32))), .val (.int (if (b &&& (2 : Int32)) = (0 : Int32) then (0 : Int32) else (1 : Int32))), .val (.int (3 : Int32)), .val (.ref f3), .val (.int (1 : Int32)), .unset]) rfl k_) ?_
      show Go pg.tables ev below (T44.setTop (mkF mi 184 #[.val (.int a), .val (.int b), .val (.int (1 : Int32)), .val (.int (1 : Int32)), .val (.int (if (b &&& (1 : Int32)) = (0 : Int32) then (0 : Int32) else (1 : Int32))), .val (.int (if (b &&& (2 : Int32)) = (0 : Int32) then (0 : Int32) else (1 : Int32))), .val (.int (3 : Int32)), .val (.ref f3), .val (.int (1 : Int32)), .unset] [])) P
      by_cases hk4 : (b &&& (1 : Int32)) = (0 : Int32)
      · rw [if_pos hk4]
        show Go pg.tables ev below (T44.setTop (mkF mi 184 #[.val (.int a), .val (.int b), .val (.int (1 : Int32)), .val (.int (1 : Int32)), .val (.int (0 : Int32)), .val (.int (if (b &&& (2 : Int32)) = (0 : Int32) then (0 : Int32) else (1 : Int32))), .val (.int (3 : Int32)), .val (.ref f3), .val (.int (1 : Int32)), .unset] [])) P
        by_cases hk5 : (b &&& (2 : Int32)) = (0 : Int32)
        · rw [if_pos hk5]
          show Go pg.tables ev below (T44.setTop (mkF mi 184 #[.val (.int a), .val (.int b), .val (.int (1 : Int32)), .val (.int (1 : Int32)), .val (.int (0 : Int32)), .val (.int (0 : Int32)), .val (.int (3 : Int32)), .val (.ref f3), .val (.int (1 : Int32)), .unset] [])) P
          refine Go.st (fun t_ k_ => XS.iload X44.here hx rfl (hb hby at_184) rfl k_) ?_
          show Go pg.tables ev below (T44.setTop (mkF mi 186 #[.val (.int a), .val (.int b), .val (.int (1 : Int32)), .val (.int (1 : Int32)), .val (.int (0 : Int32)), .val (.int (0 : Int32)), .val (.int (3 : Int32)), .val (.ref f3), .val (.int (1 : Int32)), .unset] [(.int (0 : Int32))])) P
          refine Go.st (fun t_ k_ => XS.iload X44.here hx rfl (hb hby at_186) rfl k_) ?_
          show Go pg.tables ev below (T44.setTop (mkF mi 188 #[.val (.int a), .val (.int b), .val (.int (1 : Int32)), .val (.int (1 : Int32)), .val (.int (0 : Int32)), .val (.int (0 : Int32)), .val (.int (3 : Int32)), .val (.ref f3), .val (.int (1 : Int32)), .unset] [(.int (0 : Int32)), (.int (0 : Int32))])) P
          obtain ⟨_, _, ⟨T45, L45, k45, n45⟩, -, X45, ⟨Lc45, hQ45, l45, y45, z45⟩, st45⟩ := Jvm.LawKit.callS X44 hx (y := (⟨"com/example/baton/baton/TraceFlags", "of", "(ZZ)Lcom/example/baton/baton/TraceFlags;"⟩ : MethodName)) hown (mvT hZ (hw _ (List.mem_of_getElem? (i := 0) rfl))) (mvT hZ (hw _ (List.mem_of_getElem? (i := 1) rfl))) (mvT hZ (hw _ (List.mem_of_getElem? (i := 2) rfl))) (mvT hZ (hw _ (List.mem_of_getElem? (i := 3) rfl))) (by decide) (backOf (W := 0) (rmOf0 l Z a0 hw [] ar ka f0 f1 f2 f3 f5 f7 f8 f10 h0 n0 Z0 S0 A0) hZ (hw _ (List.mem_of_getElem? (i := 3) rfl)) (hw _ (List.mem_of_getElem? (i := 2) rfl)) (by decide) (by decide)) (g := (mkF mi 188 #[.val (.int a), .val (.int b), .val (.int (1 : Int32)), .val (.int (1 : Int32)), .val (.int (0 : Int32)), .val (.int (0 : Int32)), .val (.int (3 : Int32)), .val (.ref f3), .val (.int (1 : Int32)), .unset] [(.int (0 : Int32)), (.int (0 : Int32))])) rfl (by rw [hml]; rfl) (argsL := [(.int (0 : Int32)), (.int (0 : Int32))]) (rest := []) (lenOf pd_0 rfl) rfl (by show 2 * 0 + _ ≤ _; exact Nat.le_of_eq rfl) (hb hby at_188) (fun _ _ => ⟨rfl, e44, (by decide : 0 + 0 ≤ _), (by decide : 0 + 0 ≤ _)⟩)
          dsimp only [Pt.U, Pt.locs, Pt.cells, Pt.slots] at X45 l45 y45 z45 st45 hQ45
          subst l45 y45 z45
          obtain ⟨rfl, N45q, e45⟩ := hQ45
          have N45 := Fr.app N44 N45q
          refine Go.st st45 ?_
          show Go pg.tables ev below (T45.setTop (mkF mi 191 #[.val (.int a), .val (.int b), .val (.int (1 : Int32)), .val (.int (1 : Int32)), .val (.int (0 : Int32)), .val (.int (0 : Int32)), .val (.int (3 : Int32)), .val (.ref f3), .val (.int (1 : Int32)), .unset] [(.ref f0)])) P
          refine Go.st (fun t_ k_ => XS.astore X45.here hx rfl (hb hby at_191) rfl rfl (l' := #[.val (.int a), .val (.int b), .val (.int (1 : Int32)), .val (.int (1 : Int32)), .val (.int (0 : Int32)), .val (.int (0 : Int32)), .val (.int (3 : Int32)), .val (.ref f3), .val (.int (1 : Int32)), .val (.ref f0)]) rfl k_) ?_
          show Go pg.tables ev below (T45.setTop (mkF mi 193 #[.val (.int a), .val (.int b), .val (.int (1 : Int32)), .val (.int (1 : Int32)), .val (.int (0 : Int32)), .val (.int (0 : Int32)), .val (.int (3 : Int32)), .val (.ref f3), .val (.int (1 : Int32)), .val (.ref f0)] [])) P
          refine Go.st (fun t_ k_ => XS.iload X45.here hx rfl (hb hby at_193) rfl k_) ?_
          show Go pg.tables ev below (T45.setTop (mkF mi 195 #[.val (.int a), .val (.int b), .val (.int (1 : Int32)), .val (.int (1 : Int32)), .val (.int (0 : Int32)), .val (.int (0 : Int32)), .val (.int (3 : Int32)), .val (.ref f3), .val (.int (1 : Int32)), .val (.ref f0)] [(.int (1 : Int32))])) P
          refine Go.st (fun t_ k_ => XS.ifNo X45.here hx rfl (hb hby at_195) rfl ((if0 _ _).trans (feq (by decide)).1) k_) ?_
          show Go pg.tables ev below (T45.setTop (mkF mi 198 #[.val (.int a), .val (.int b), .val (.int (1 : Int32)), .val (.int (1 : Int32)), .val (.int (0 : Int32)), .val (.int (0 : Int32)), .val (.int (3 : Int32)), .val (.ref f3), .val (.int (1 : Int32)), .val (.ref f0)] [])) P
          refine Go.st (fun t_ k_ => XS.aload X45.here hx rfl (hb hby at_198) rfl rfl k_) ?_
          show Go pg.tables ev below (T45.setTop (mkF mi 200 #[.val (.int a), .val (.int b), .val (.int (1 : Int32)), .val (.int (1 : Int32)), .val (.int (0 : Int32)), .val (.int (0 : Int32)), .val (.int (3 : Int32)), .val (.ref f3), .val (.int (1 : Int32)), .val (.ref f0)] [(.ref f3)])) P
          refine Go.st (fun t_ k_ => XS.aload X45.here hx rfl (hb hby at_200) rfl rfl k_) ?_
          show Go pg.tables ev below (T45.setTop (mkF mi 202 #[.val (.int a), .val (.int b), .val (.int (1 : Int32)), .val (.int (1 : Int32)), .val (.int (0 : Int32)), .val (.int (0 : Int32)), .val (.int (3 : Int32)), .val (.ref f3), .val (.int (1 : Int32)), .val (.ref f0)] [(.ref f0), (.ref f3)])) P
          refine Go.st (fun t_ k_ => Jvm.RoadKit.acmp (g := (mkF mi 202 #[.val (.int a), .val (.int b), .val (.int (1 : Int32)), .val (.int (1 : Int32)), .val (.int (0 : Int32)), .val (.int (0 : Int32)), .val (.int (3 : Int32)), .val (.ref f3), .val (.int (1 : Int32)), .val (.ref f0)] [(.ref f0), (.ref f3)])) X45 hx rfl rfl rfl (pc0 := 202) (pc' := 209) (same := false) rfl (hb hby at_202) rfl (decide_eq_false fun q => (Ne.symm ne03) (Value.ref.inj q)) (by decide) (by decide) k_) ?_
          show Go pg.tables ev below (T45.setTop (mkF mi 209 #[.val (.int a), .val (.int b), .val (.int (1 : Int32)), .val (.int (1 : Int32)), .val (.int (0 : Int32)), .val (.int (0 : Int32)), .val (.int (3 : Int32)), .val (.ref f3), .val (.int (1 : Int32)), .val (.ref f0)] [])) P
          refine Go.st (fun t_ k_ => XS.iconst X45.here hx rfl (hb hby at_209) k_) ?_
          show Go pg.tables ev below (T45.setTop (mkF mi 210 #[.val (.int a), .val (.int b), .val (.int (1 : Int32)), .val (.int (1 : Int32)), .val (.int (0 : Int32)), .val (.int (0 : Int32)), .val (.int (3 : Int32)), .val (.ref f3), .val (.int (1 : Int32)), .val (.ref f0)] [(.int (0 : Int32))])) P
          refine Go.st (fun t_ k_ => XS.iloadN X45.here hx rfl (hb hby at_210) rfl k_) ?_
          show Go pg.tables ev below (T45.setTop (mkF mi 211 #[.val (.int a), .val (.int b), .val (.int (1 : Int32)), .val (.int (1 : Int32)), .val (.int (0 : Int32)), .val (.int (0 : Int32)), .val (.int (3 : Int32)), .val (.ref f3), .val (.int (1 : Int32)), .val (.ref f0)] [(.int (1 : Int32)), (.int (0 : Int32))])) P
          refine Go.st (fun t_ k_ => XS.iload X45.here hx rfl (hb hby at_211) rfl k_) ?_
          show Go pg.tables ev below (T45.setTop (mkF mi 213 #[.val (.int a), .val (.int b), .val (.int (1 : Int32)), .val (.int (1 : Int32)), .val (.int (0 : Int32)), .val (.int (0 : Int32)), .val (.int (3 : Int32)), .val (.ref f3), .val (.int (1 : Int32)), .val (.ref f0)] [(.int (0 : Int32)), (.int (1 : Int32)), (.int (0 : Int32))])) P
          refine Go.st (fun t_ k_ => XS.icmpYes X45.here hx rfl (pc0 := 213) (pc' := 226) rfl (hb hby at_213) rfl (feq (by decide)).2 (by decide) (by decide) k_) ?_
          show Go pg.tables ev below (T45.setTop (mkF mi 226 #[.val (.int a), .val (.int b), .val (.int (1 : Int32)), .val (.int (1 : Int32)), .val (.int (0 : Int32)), .val (.int (0 : Int32)), .val (.int (3 : Int32)), .val (.ref f3), .val (.int (1 : Int32)), .val (.ref f0)] [(.int (0 : Int32))])) P
          refine Go.st (fun t_ k_ => XS.iconst X45.here hx rfl (hb hby at_226) k_) ?_
          show Go pg.tables ev below (T45.setTop (mkF mi 227 #[.val (.int a), .val (.int b), .val (.int (1 : Int32)), .val (.int (1 : Int32)), .val (.int (0 : Int32)), .val (.int (0 : Int32)), .val (.int (3 : Int32)), .val (.ref f3), .val (.int (1 : Int32)), .val (.ref f0)] [(.int (0 : Int32)), (.int (0 : Int32))])) P
          refine Go.st (fun t_ k_ => XS.icmpNo X45.here hx rfl (hb hby at_227) rfl (teq rfl).2 k_) ?_
          show Go pg.tables ev below (T45.setTop (mkF mi 230 #[.val (.int a), .val (.int b), .val (.int (1 : Int32)), .val (.int (1 : Int32)), .val (.int (0 : Int32)), .val (.int (0 : Int32)), .val (.int (3 : Int32)), .val (.ref f3), .val (.int (1 : Int32)), .val (.ref f0)] [])) P
          refine Go.st (fun t_ k_ => XS.iconst X45.here hx rfl (hb hby at_230) k_) ?_
          show Go pg.tables ev below (T45.setTop (mkF mi 231 #[.val (.int a), .val (.int b), .val (.int (1 : Int32)), .val (.int (1 : Int32)), .val (.int (0 : Int32)), .val (.int (0 : Int32)), .val (.int (3 : Int32)), .val (.ref f3), .val (.int (1 : Int32)), .val (.ref f0)] [(.int (1 : Int32))])) P
          refine Go.st (fun t_ k_ => XS.goto X45.here hx rfl (pc0 := 231) (pc' := 235) rfl (hb hby at_231) (by decide) (by decide) k_) ?_
          show Go pg.tables ev below (T45.setTop (mkF mi 235 #[.val (.int a), .val (.int b), .val (.int (1 : Int32)), .val (.int (1 : Int32)), .val (.int (0 : Int32)), .val (.int (0 : Int32)), .val (.int (3 : Int32)), .val (.ref f3), .val (.int (1 : Int32)), .val (.ref f0)] [(.int (1 : Int32))])) P
          refine Go.st (fun t_ k_ => XS.istore X45.here hx rfl (hb hby at_235) rfl (l' := #[.val (.int a), .val (.int b), .val (.int (1 : Int32)), .val (.int (1 : Int32)), .val (.int (0 : Int32)), .val (.int (0 : Int32)), .val (.int (3 : Int32)), .val (.ref f3), .val (.int (1 : Int32)), .val (.ref f0)]) rfl k_) ?_
          show Go pg.tables ev below (T45.setTop (mkF mi 237 #[.val (.int a), .val (.int b), .val (.int (1 : Int32)), .val (.int (1 : Int32)), .val (.int (0 : Int32)), .val (.int (0 : Int32)), .val (.int (3 : Int32)), .val (.ref f3), .val (.int (1 : Int32)), .val (.ref f0)] [])) P
          refine Go.st (fun t_ k_ => XS.iload X45.here hx rfl (hb hby at_237) rfl k_) ?_
          show Go pg.tables ev below (T45.setTop (mkF mi 239 #[.val (.int a), .val (.int b), .val (.int (1 : Int32)), .val (.int (1 : Int32)), .val (.int (0 : Int32)), .val (.int (0 : Int32)), .val (.int (3 : Int32)), .val (.ref f3), .val (.int (1 : Int32)), .val (.ref f0)] [(.int (1 : Int32))])) P
          obtain ⟨fs, hr, hrun, hended, hW, hsame⟩ := X45.leave (v := some (.int (1 : Int32))) (fun h => by rw [Bd.returns] at h; cases h) (BodyLoose.notSynchronized Bd)
          refine ⟨_, _, ?_, hP _ _ ⟨hrun, hended, _, _, rfl, ?_, ⟨_, rfl⟩, hW, hsame.mono (by decide) (by decide)⟩⟩
          · exact retN X45 hx (t := .boolean) Bd.returns (by simp) (hb hby at_239) hr
          · show (some (.int (1 : Int32)) : Option Value) = some (.int 1) ∧ Fr n0 _
            exact ⟨rfl, N45⟩
        · rw [if_neg hk5]
          show Go pg.tables ev below (T44.setTop (mkF mi 184 #[.val (.int a), .val (.int b), .val (.int (1 : Int32)), .val (.int (1 : Int32)), .val (.int (0 : Int32)), .val (.int (1 : Int32)), .val (.int (3 : Int32)), .val (.ref f3), .val (.int (1 : Int32)), .unset] [])) P
          refine Go.st (fun t_ k_ => XS.iload X44.here hx rfl (hb hby at_184) rfl k_) ?_
          show Go pg.tables ev below (T44.setTop (mkF mi 186 #[.val (.int a), .val (.int b), .val (.int (1 : Int32)), .val (.int (1 : Int32)), .val (.int (0 : Int32)), .val (.int (1 : Int32)), .val (.int (3 : Int32)), .val (.ref f3), .val (.int (1 : Int32)), .unset] [(.int (0 : Int32))])) P
          refine Go.st (fun t_ k_ => XS.iload X44.here hx rfl (hb hby at_186) rfl k_) ?_
          show Go pg.tables ev below (T44.setTop (mkF mi 188 #[.val (.int a), .val (.int b), .val (.int (1 : Int32)), .val (.int (1 : Int32)), .val (.int (0 : Int32)), .val (.int (1 : Int32)), .val (.int (3 : Int32)), .val (.ref f3), .val (.int (1 : Int32)), .unset] [(.int (1 : Int32)), (.int (0 : Int32))])) P
          obtain ⟨_, _, ⟨T46, L46, k46, n46⟩, -, X46, ⟨Lc46, hQ46, l46, y46, z46⟩, st46⟩ := Jvm.LawKit.callS X44 hx (y := (⟨"com/example/baton/baton/TraceFlags", "of", "(ZZ)Lcom/example/baton/baton/TraceFlags;"⟩ : MethodName)) hown (mvT hZ (hw _ (List.mem_of_getElem? (i := 0) rfl))) (mvT hZ (hw _ (List.mem_of_getElem? (i := 1) rfl))) (mvT hZ (hw _ (List.mem_of_getElem? (i := 2) rfl))) (mvT hZ (hw _ (List.mem_of_getElem? (i := 3) rfl))) (by decide) (backOf (W := 0) (rmOf2 l Z a0 hw [] ar ka f0 f1 f2 f3 f5 f7 f8 f10 h0 n0 Z0 S0 A0) hZ (hw _ (List.mem_of_getElem? (i := 3) rfl)) (hw _ (List.mem_of_getElem? (i := 2) rfl)) (by decide) (by decide)) (g := (mkF mi 188 #[.val (.int a), .val (.int b), .val (.int (1 : Int32)), .val (.int (1 : Int32)), .val (.int (0 : Int32)), .val (.int (1 : Int32)), .val (.int (3 : Int32)), .val (.ref f3), .val (.int (1 : Int32)), .unset] [(.int (1 : Int32)), (.int (0 : Int32))])) rfl (by rw [hml]; rfl) (argsL := [(.int (0 : Int32)), (.int (1 : Int32))]) (rest := []) (lenOf pd_0 rfl) rfl (by show 2 * 0 + _ ≤ _; exact Nat.le_of_eq rfl) (hb hby at_188) (fun _ _ => ⟨rfl, e44, (by decide : 0 + 0 ≤ _), (by decide : 0 + 0 ≤ _)⟩)
          dsimp only [Pt.U, Pt.locs, Pt.cells, Pt.slots] at X46 l46 y46 z46 st46 hQ46
          subst l46 y46 z46
          obtain ⟨rfl, N46q, e46⟩ := hQ46
          have N46 := Fr.app N44 N46q
          refine Go.st st46 ?_
          show Go pg.tables ev below (T46.setTop (mkF mi 191 #[.val (.int a), .val (.int b), .val (.int (1 : Int32)), .val (.int (1 : Int32)), .val (.int (0 : Int32)), .val (.int (1 : Int32)), .val (.int (3 : Int32)), .val (.ref f3), .val (.int (1 : Int32)), .unset] [(.ref f2)])) P
          refine Go.st (fun t_ k_ => XS.astore X46.here hx rfl (hb hby at_191) rfl rfl (l' := #[.val (.int a), .val (.int b), .val (.int (1 : Int32)), .val (.int (1 : Int32)), .val (.int (0 : Int32)), .val (.int (1 : Int32)), .val (.int (3 : Int32)), .val (.ref f3), .val (.int (1 : Int32)), .val (.ref f2)]) rfl k_) ?_
          show Go pg.tables ev below (T46.setTop (mkF mi 193 #[.val (.int a), .val (.int b), .val (.int (1 : Int32)), .val (.int (1 : Int32)), .val (.int (0 : Int32)), .val (.int (1 : Int32)), .val (.int (3 : Int32)), .val (.ref f3), .val (.int (1 : Int32)), .val (.ref f2)] [])) P
          refine Go.st (fun t_ k_ => XS.iload X46.here hx rfl (hb hby at_193) rfl k_) ?_
          show Go pg.tables ev below (T46.setTop (mkF mi 195 #[.val (.int a), .val (.int b), .val (.int (1 : Int32)), .val (.int (1 : Int32)), .val (.int (0 : Int32)), .val (.int (1 : Int32)), .val (.int (3 : Int32)), .val (.ref f3), .val (.int (1 : Int32)), .val (.ref f2)] [(.int (1 : Int32))])) P
          refine Go.st (fun t_ k_ => XS.ifNo X46.here hx rfl (hb hby at_195) rfl ((if0 _ _).trans (feq (by decide)).1) k_) ?_
          show Go pg.tables ev below (T46.setTop (mkF mi 198 #[.val (.int a), .val (.int b), .val (.int (1 : Int32)), .val (.int (1 : Int32)), .val (.int (0 : Int32)), .val (.int (1 : Int32)), .val (.int (3 : Int32)), .val (.ref f3), .val (.int (1 : Int32)), .val (.ref f2)] [])) P
          refine Go.st (fun t_ k_ => XS.aload X46.here hx rfl (hb hby at_198) rfl rfl k_) ?_
          show Go pg.tables ev below (T46.setTop (mkF mi 200 #[.val (.int a), .val (.int b), .val (.int (1 : Int32)), .val (.int (1 : Int32)), .val (.int (0 : Int32)), .val (.int (1 : Int32)), .val (.int (3 : Int32)), .val (.ref f3), .val (.int (1 : Int32)), .val (.ref f2)] [(.ref f3)])) P
          refine Go.st (fun t_ k_ => XS.aload X46.here hx rfl (hb hby at_200) rfl rfl k_) ?_
          show Go pg.tables ev below (T46.setTop (mkF mi 202 #[.val (.int a), .val (.int b), .val (.int (1 : Int32)), .val (.int (1 : Int32)), .val (.int (0 : Int32)), .val (.int (1 : Int32)), .val (.int (3 : Int32)), .val (.ref f3), .val (.int (1 : Int32)), .val (.ref f2)] [(.ref f2), (.ref f3)])) P
          refine Go.st (fun t_ k_ => Jvm.RoadKit.acmp (g := (mkF mi 202 #[.val (.int a), .val (.int b), .val (.int (1 : Int32)), .val (.int (1 : Int32)), .val (.int (0 : Int32)), .val (.int (1 : Int32)), .val (.int (3 : Int32)), .val (.ref f3), .val (.int (1 : Int32)), .val (.ref f2)] [(.ref f2), (.ref f3)])) X46 hx rfl rfl rfl (pc0 := 202) (pc' := 209) (same := false) rfl (hb hby at_202) rfl (decide_eq_false fun q => (Ne.symm ne23) (Value.ref.inj q)) (by decide) (by decide) k_) ?_
          show Go pg.tables ev below (T46.setTop (mkF mi 209 #[.val (.int a), .val (.int b), .val (.int (1 : Int32)), .val (.int (1 : Int32)), .val (.int (0 : Int32)), .val (.int (1 : Int32)), .val (.int (3 : Int32)), .val (.ref f3), .val (.int (1 : Int32)), .val (.ref f2)] [])) P
          refine Go.st (fun t_ k_ => XS.iconst X46.here hx rfl (hb hby at_209) k_) ?_
          show Go pg.tables ev below (T46.setTop (mkF mi 210 #[.val (.int a), .val (.int b), .val (.int (1 : Int32)), .val (.int (1 : Int32)), .val (.int (0 : Int32)), .val (.int (1 : Int32)), .val (.int (3 : Int32)), .val (.ref f3), .val (.int (1 : Int32)), .val (.ref f2)] [(.int (0 : Int32))])) P
          refine Go.st (fun t_ k_ => XS.iloadN X46.here hx rfl (hb hby at_210) rfl k_) ?_
          show Go pg.tables ev below (T46.setTop (mkF mi 211 #[.val (.int a), .val (.int b), .val (.int (1 : Int32)), .val (.int (1 : Int32)), .val (.int (0 : Int32)), .val (.int (1 : Int32)), .val (.int (3 : Int32)), .val (.ref f3), .val (.int (1 : Int32)), .val (.ref f2)] [(.int (1 : Int32)), (.int (0 : Int32))])) P
          refine Go.st (fun t_ k_ => XS.iload X46.here hx rfl (hb hby at_211) rfl k_) ?_
          show Go pg.tables ev below (T46.setTop (mkF mi 213 #[.val (.int a), .val (.int b), .val (.int (1 : Int32)), .val (.int (1 : Int32)), .val (.int (0 : Int32)), .val (.int (1 : Int32)), .val (.int (3 : Int32)), .val (.ref f3), .val (.int (1 : Int32)), .val (.ref f2)] [(.int (0 : Int32)), (.int (1 : Int32)), (.int (0 : Int32))])) P
          refine Go.st (fun t_ k_ => XS.icmpYes X46.here hx rfl (pc0 := 213) (pc' := 226) rfl (hb hby at_213) rfl (feq (by decide)).2 (by decide) (by decide) k_) ?_
          show Go pg.tables ev below (T46.setTop (mkF mi 226 #[.val (.int a), .val (.int b), .val (.int (1 : Int32)), .val (.int (1 : Int32)), .val (.int (0 : Int32)), .val (.int (1 : Int32)), .val (.int (3 : Int32)), .val (.ref f3), .val (.int (1 : Int32)), .val (.ref f2)] [(.int (0 : Int32))])) P
          refine Go.st (fun t_ k_ => XS.iconst X46.here hx rfl (hb hby at_226) k_) ?_
          show Go pg.tables ev below (T46.setTop (mkF mi 227 #[.val (.int a), .val (.int b), .val (.int (1 : Int32)), .val (.int (1 : Int32)), .val (.int (0 : Int32)), .val (.int (1 : Int32)), .val (.int (3 : Int32)), .val (.ref f3), .val (.int (1 : Int32)), .val (.ref f2)] [(.int (0 : Int32)), (.int (0 : Int32))])) P
          refine Go.st (fun t_ k_ => XS.icmpNo X46.here hx rfl (hb hby at_227) rfl (teq rfl).2 k_) ?_
          show Go pg.tables ev below (T46.setTop (mkF mi 230 #[.val (.int a), .val (.int b), .val (.int (1 : Int32)), .val (.int (1 : Int32)), .val (.int (0 : Int32)), .val (.int (1 : Int32)), .val (.int (3 : Int32)), .val (.ref f3), .val (.int (1 : Int32)), .val (.ref f2)] [])) P
          refine Go.st (fun t_ k_ => XS.iconst X46.here hx rfl (hb hby at_230) k_) ?_
          show Go pg.tables ev below (T46.setTop (mkF mi 231 #[.val (.int a), .val (.int b), .val (.int (1 : Int32)), .val (.int (1 : Int32)), .val (.int (0 : Int32)), .val (.int (1 : Int32)), .val (.int (3 : Int32)), .val (.ref f3), .val (.int (1 : Int32)), .val (.ref f2)] [(.int (1 : Int32))])) P
          refine Go.st (fun t_ k_ => XS.goto X46.here hx rfl (pc0 := 231) (pc' := 235) rfl (hb hby at_231) (by decide) (by decide) k_) ?_
          show Go pg.tables ev below (T46.setTop (mkF mi 235 #[.val (.int a), .val (.int b), .val (.int (1 : Int32)), .val (.int (1 : Int32)), .val (.int (0 : Int32)), .val (.int (1 : Int32)), .val (.int (3 : Int32)), .val (.ref f3), .val (.int (1 : Int32)), .val (.ref f2)] [(.int (1 : Int32))])) P
          refine Go.st (fun t_ k_ => XS.istore X46.here hx rfl (hb hby at_235) rfl (l' := #[.val (.int a), .val (.int b), .val (.int (1 : Int32)), .val (.int (1 : Int32)), .val (.int (0 : Int32)), .val (.int (1 : Int32)), .val (.int (3 : Int32)), .val (.ref f3), .val (.int (1 : Int32)), .val (.ref f2)]) rfl k_) ?_
          show Go pg.tables ev below (T46.setTop (mkF mi 237 #[.val (.int a), .val (.int b), .val (.int (1 : Int32)), .val (.int (1 : Int32)), .val (.int (0 : Int32)), .val (.int (1 : Int32)), .val (.int (3 : Int32)), .val (.ref f3), .val (.int (1 : Int32)), .val (.ref f2)] [])) P
          refine Go.st (fun t_ k_ => XS.iload X46.here hx rfl (hb hby at_237) rfl k_) ?_
          show Go pg.tables ev below (T46.setTop (mkF mi 239 #[.val (.int a), .val (.int b), .val (.int (1 : Int32)), .val (.int (1 : Int32)), .val (.int (0 : Int32)), .val (.int (1 : Int32)), .val (.int (3 : Int32)), .val (.ref f3), .val (.int (1 : Int32)), .val (.ref f2)] [(.int (1 : Int32))])) P
          obtain ⟨fs, hr, hrun, hended, hW, hsame⟩ := X46.leave (v := some (.int (1 : Int32))) (fun h => by rw [Bd.returns] at h; cases h) (BodyLoose.notSynchronized Bd)
          refine ⟨_, _, ?_, hP _ _ ⟨hrun, hended, _, _, rfl, ?_, ⟨_, rfl⟩, hW, hsame.mono (by decide) (by decide)⟩⟩
          · exact retN X46 hx (t := .boolean) Bd.returns (by simp) (hb hby at_239) hr
          · show (some (.int (1 : Int32)) : Option Value) = some (.int 1) ∧ Fr n0 _
            exact ⟨rfl, N46⟩
      · rw [if_neg hk4]
        show Go pg.tables ev below (T44.setTop (mkF mi 184 #[.val (.int a), .val (.int b), .val (.int (1 : Int32)), .val (.int (1 : Int32)), .val (.int (1 : Int32)), .val (.int (if (b &&& (2 : Int32)) = (0 : Int32) then (0 : Int32) else (1 : Int32))), .val (.int (3 : Int32)), .val (.ref f3), .val (.int (1 : Int32)), .unset] [])) P
        by_cases hk5 : (b &&& (2 : Int32)) = (0 : Int32)
        · rw [if_pos hk5]
          show Go pg.tables ev below (T44.setTop (mkF mi 184 #[.val (.int a), .val (.int b), .val (.int (1 : Int32)), .val (.int (1 : Int32)), .val (.int (1 : Int32)), .val (.int (0 : Int32)), .val (.int (3 : Int32)), .val (.ref f3), .val (.int (1 : Int32)), .unset] [])) P
          refine Go.st (fun t_ k_ => XS.iload X44.here hx rfl (hb hby at_184) rfl k_) ?_
          show Go pg.tables ev below (T44.setTop (mkF mi 186 #[.val (.int a), .val (.int b), .val (.int (1 : Int32)), .val (.int (1 : Int32)), .val (.int (1 : Int32)), .val (.int (0 : Int32)), .val (.int (3 : Int32)), .val (.ref f3), .val (.int (1 : Int32)), .unset] [(.int (1 : Int32))])) P
          refine Go.st (fun t_ k_ => XS.iload X44.here hx rfl (hb hby at_186) rfl k_) ?_
          show Go pg.tables ev below (T44.setTop (mkF mi 188 #[.val (.int a), .val (.int b), .val (.int (1 : Int32)), .val (.int (1 : Int32)), .val (.int (1 : Int32)), .val (.int (0 : Int32)), .val (.int (3 : Int32)), .val (.ref f3), .val (.int (1 : Int32)), .unset] [(.int (0 : Int32)), (.int (1 : Int32))])) P
          obtain ⟨_, _, ⟨T47, L47, k47, n47⟩, -, X47, ⟨Lc47, hQ47, l47, y47, z47⟩, st47⟩ := Jvm.LawKit.callS X44 hx (y := (⟨"com/example/baton/baton/TraceFlags", "of", "(ZZ)Lcom/example/baton/baton/TraceFlags;"⟩ : MethodName)) hown (mvT hZ (hw _ (List.mem_of_getElem? (i := 0) rfl))) (mvT hZ (hw _ (List.mem_of_getElem? (i := 1) rfl))) (mvT hZ (hw _ (List.mem_of_getElem? (i := 2) rfl))) (mvT hZ (hw _ (List.mem_of_getElem? (i := 3) rfl))) (by decide) (backOf (W := 0) (rmOf1 l Z a0 hw [] ar ka f0 f1 f2 f3 f5 f7 f8 f10 h0 n0 Z0 S0 A0) hZ (hw _ (List.mem_of_getElem? (i := 3) rfl)) (hw _ (List.mem_of_getElem? (i := 2) rfl)) (by decide) (by decide)) (g := (mkF mi 188 #[.val (.int a), .val (.int b), .val (.int (1 : Int32)), .val (.int (1 : Int32)), .val (.int (1 : Int32)), .val (.int (0 : Int32)), .val (.int (3 : Int32)), .val (.ref f3), .val (.int (1 : Int32)), .unset] [(.int (0 : Int32)), (.int (1 : Int32))])) rfl (by rw [hml]; rfl) (argsL := [(.int (1 : Int32)), (.int (0 : Int32))]) (rest := []) (lenOf pd_0 rfl) rfl (by show 2 * 0 + _ ≤ _; exact Nat.le_of_eq rfl) (hb hby at_188) (fun _ _ => ⟨rfl, e44, (by decide : 0 + 0 ≤ _), (by decide : 0 + 0 ≤ _)⟩)
          dsimp only [Pt.U, Pt.locs, Pt.cells, Pt.slots] at X47 l47 y47 z47 st47 hQ47
          subst l47 y47 z47
          obtain ⟨rfl, N47q, e47⟩ := hQ47
          have N47 := Fr.app N44 N47q
          refine Go.st st47 ?_
          show Go pg.tables ev below (T47.setTop (mkF mi 191 #[.val (.int a), .val (.int b), .val (.int (1 : Int32)), .val (.int (1 : Int32)), .val (.int (1 : Int32)), .val (.int (0 : Int32)), .val (.int (3 : Int32)), .val (.ref f3), .val (.int (1 : Int32)), .unset] [(.ref f1)])) P
          refine Go.st (fun t_ k_ => XS.astore X47.here hx rfl (hb hby at_191) rfl rfl (l' := #[.val (.int a), .val (.int b), .val (.int (1 : Int32)), .val (.int (1 : Int32)), .val (.int (1 : Int32)), .val (.int (0 : Int32)), .val (.int (3 : Int32)), .val (.ref f3), .val (.int (1 : Int32)), .val (.ref f1)]) rfl k_) ?_
          show Go pg.tables ev below (T47.setTop (mkF mi 193 #[.val (.int a), .val (.int b), .val (.int (1 : Int32)), .val (.int (1 : Int32)), .val (.int (1 : Int32)), .val (.int (0 : Int32)), .val (.int (3 : Int32)), .val (.ref f3), .val (.int (1 : Int32)), .val (.ref f1)] [])) P
          refine Go.st (fun t_ k_ => XS.iload X47.here hx rfl (hb hby at_193) rfl k_) ?_
          show Go pg.tables ev below (T47.setTop (mkF mi 195 #[.val (.int a), .val (.int b), .val (.int (1 : Int32)), .val (.int (1 : Int32)), .val (.int (1 : Int32)), .val (.int (0 : Int32)), .val (.int (3 : Int32)), .val (.ref f3), .val (.int (1 : Int32)), .val (.ref f1)] [(.int (1 : Int32))])) P
          refine Go.st (fun t_ k_ => XS.ifNo X47.here hx rfl (hb hby at_195) rfl ((if0 _ _).trans (feq (by decide)).1) k_) ?_
          show Go pg.tables ev below (T47.setTop (mkF mi 198 #[.val (.int a), .val (.int b), .val (.int (1 : Int32)), .val (.int (1 : Int32)), .val (.int (1 : Int32)), .val (.int (0 : Int32)), .val (.int (3 : Int32)), .val (.ref f3), .val (.int (1 : Int32)), .val (.ref f1)] [])) P
          refine Go.st (fun t_ k_ => XS.aload X47.here hx rfl (hb hby at_198) rfl rfl k_) ?_
          show Go pg.tables ev below (T47.setTop (mkF mi 200 #[.val (.int a), .val (.int b), .val (.int (1 : Int32)), .val (.int (1 : Int32)), .val (.int (1 : Int32)), .val (.int (0 : Int32)), .val (.int (3 : Int32)), .val (.ref f3), .val (.int (1 : Int32)), .val (.ref f1)] [(.ref f3)])) P
          refine Go.st (fun t_ k_ => XS.aload X47.here hx rfl (hb hby at_200) rfl rfl k_) ?_
          show Go pg.tables ev below (T47.setTop (mkF mi 202 #[.val (.int a), .val (.int b), .val (.int (1 : Int32)), .val (.int (1 : Int32)), .val (.int (1 : Int32)), .val (.int (0 : Int32)), .val (.int (3 : Int32)), .val (.ref f3), .val (.int (1 : Int32)), .val (.ref f1)] [(.ref f1), (.ref f3)])) P
          refine Go.st (fun t_ k_ => Jvm.RoadKit.acmp (g := (mkF mi 202 #[.val (.int a), .val (.int b), .val (.int (1 : Int32)), .val (.int (1 : Int32)), .val (.int (1 : Int32)), .val (.int (0 : Int32)), .val (.int (3 : Int32)), .val (.ref f3), .val (.int (1 : Int32)), .val (.ref f1)] [(.ref f1), (.ref f3)])) X47 hx rfl rfl rfl (pc0 := 202) (pc' := 209) (same := false) rfl (hb hby at_202) rfl (decide_eq_false fun q => (Ne.symm ne13) (Value.ref.inj q)) (by decide) (by decide) k_) ?_
          show Go pg.tables ev below (T47.setTop (mkF mi 209 #[.val (.int a), .val (.int b), .val (.int (1 : Int32)), .val (.int (1 : Int32)), .val (.int (1 : Int32)), .val (.int (0 : Int32)), .val (.int (3 : Int32)), .val (.ref f3), .val (.int (1 : Int32)), .val (.ref f1)] [])) P
          refine Go.st (fun t_ k_ => XS.iconst X47.here hx rfl (hb hby at_209) k_) ?_
          show Go pg.tables ev below (T47.setTop (mkF mi 210 #[.val (.int a), .val (.int b), .val (.int (1 : Int32)), .val (.int (1 : Int32)), .val (.int (1 : Int32)), .val (.int (0 : Int32)), .val (.int (3 : Int32)), .val (.ref f3), .val (.int (1 : Int32)), .val (.ref f1)] [(.int (0 : Int32))])) P
          refine Go.st (fun t_ k_ => XS.iloadN X47.here hx rfl (hb hby at_210) rfl k_) ?_
          show Go pg.tables ev below (T47.setTop (mkF mi 211 #[.val (.int a), .val (.int b), .val (.int (1 : Int32)), .val (.int (1 : Int32)), .val (.int (1 : Int32)), .val (.int (0 : Int32)), .val (.int (3 : Int32)), .val (.ref f3), .val (.int (1 : Int32)), .val (.ref f1)] [(.int (1 : Int32)), (.int (0 : Int32))])) P
          refine Go.st (fun t_ k_ => XS.iload X47.here hx rfl (hb hby at_211) rfl k_) ?_
          show Go pg.tables ev below (T47.setTop (mkF mi 213 #[.val (.int a), .val (.int b), .val (.int (1 : Int32)), .val (.int (1 : Int32)), .val (.int (1 : Int32)), .val (.int (0 : Int32)), .val (.int (3 : Int32)), .val (.ref f3), .val (.int (1 : Int32)), .val (.ref f1)] [(.int (1 : Int32)), (.int (1 : Int32)), (.int (0 : Int32))])) P
          refine Go.st (fun t_ k_ => XS.icmpNo X47.here hx rfl (hb hby at_213) rfl (teq rfl).2 k_) ?_
          show Go pg.tables ev below (T47.setTop (mkF mi 216 #[.val (.int a), .val (.int b), .val (.int (1 : Int32)), .val (.int (1 : Int32)), .val (.int (1 : Int32)), .val (.int (0 : Int32)), .val (.int (3 : Int32)), .val (.ref f3), .val (.int (1 : Int32)), .val (.ref f1)] [(.int (0 : Int32))])) P
          refine Go.st (fun t_ k_ => XS.iloadN X47.here hx rfl (hb hby at_216) rfl k_) ?_
          show Go pg.tables ev below (T47.setTop (mkF mi 217 #[.val (.int a), .val (.int b), .val (.int (1 : Int32)), .val (.int (1 : Int32)), .val (.int (1 : Int32)), .val (.int (0 : Int32)), .val (.int (3 : Int32)), .val (.ref f3), .val (.int (1 : Int32)), .val (.ref f1)] [(.int (1 : Int32)), (.int (0 : Int32))])) P
          refine Go.st (fun t_ k_ => XS.iload X47.here hx rfl (hb hby at_217) rfl k_) ?_
          show Go pg.tables ev below (T47.setTop (mkF mi 219 #[.val (.int a), .val (.int b), .val (.int (1 : Int32)), .val (.int (1 : Int32)), .val (.int (1 : Int32)), .val (.int (0 : Int32)), .val (.int (3 : Int32)), .val (.ref f3), .val (.int (1 : Int32)), .val (.ref f1)] [(.int (0 : Int32)), (.int (1 : Int32)), (.int (0 : Int32))])) P
          refine Go.st (fun t_ k_ => XS.icmpYes X47.here hx rfl (pc0 := 219) (pc' := 226) rfl (hb hby at_219) rfl (feq (by decide)).2 (by decide) (by decide) k_) ?_
          show Go pg.tables ev below (T47.setTop (mkF mi 226 #[.val (.int a), .val (.int b), .val (.int (1 : Int32)), .val (.int (1 : Int32)), .val (.int (1 : Int32)), .val (.int (0 : Int32)), .val (.int (3 : Int32)), .val (.ref f3), .val (.int (1 : Int32)), .val (.ref f1)] [(.int (0 : Int32))])) P
          refine Go.st (fun t_ k_ => XS.iconst X47.here hx rfl (hb hby at_226) k_) ?_
          show Go pg.tables ev below (T47.setTop (mkF mi 227 #[.val (.int a), .val (.int b), .val (.int (1 : Int32)), .val (.int (1 : Int32)), .val (.int (1 : Int32)), .val (.int (0 : Int32)), .val (.int (3 : Int32)), .val (.ref f3), .val (.int (1 : Int32)), .val (.ref f1)] [(.int (0 : Int32)), (.int (0 : Int32))])) P
          refine Go.st (fun t_ k_ => XS.icmpNo X47.here hx rfl (hb hby at_227) rfl (teq rfl).2 k_) ?_
          show Go pg.tables ev below (T47.setTop (mkF mi 230 #[.val (.int a), .val (.int b), .val (.int (1 : Int32)), .val (.int (1 : Int32)), .val (.int (1 : Int32)), .val (.int (0 : Int32)), .val (.int (3 : Int32)), .val (.ref f3), .val (.int (1 : Int32)), .val (.ref f1)] [])) P
          refine Go.st (fun t_ k_ => XS.iconst X47.here hx rfl (hb hby at_230) k_) ?_
          show Go pg.tables ev below (T47.setTop (mkF mi 231 #[.val (.int a), .val (.int b), .val (.int (1 : Int32)), .val (.int (1 : Int32)), .val (.int (1 : Int32)), .val (.int (0 : Int32)), .val (.int (3 : Int32)), .val (.ref f3), .val (.int (1 : Int32)), .val (.ref f1)] [(.int (1 : Int32))])) P
          refine Go.st (fun t_ k_ => XS.goto X47.here hx rfl (pc0 := 231) (pc' := 235) rfl (hb hby at_231) (by decide) (by decide) k_) ?_
          show Go pg.tables ev below (T47.setTop (mkF mi 235 #[.val (.int a), .val (.int b), .val (.int (1 : Int32)), .val (.int (1 : Int32)), .val (.int (1 : Int32)), .val (.int (0 : Int32)), .val (.int (3 : Int32)), .val (.ref f3), .val (.int (1 : Int32)), .val (.ref f1)] [(.int (1 : Int32))])) P
          refine Go.st (fun t_ k_ => XS.istore X47.here hx rfl (hb hby at_235) rfl (l' := #[.val (.int a), .val (.int b), .val (.int (1 : Int32)), .val (.int (1 : Int32)), .val (.int (1 : Int32)), .val (.int (0 : Int32)), .val (.int (3 : Int32)), .val (.ref f3), .val (.int (1 : Int32)), .val (.ref f1)]) rfl k_) ?_
          show Go pg.tables ev below (T47.setTop (mkF mi 237 #[.val (.int a), .val (.int b), .val (.int (1 : Int32)), .val (.int (1 : Int32)), .val (.int (1 : Int32)), .val (.int (0 : Int32)), .val (.int (3 : Int32)), .val (.ref f3), .val (.int (1 : Int32)), .val (.ref f1)] [])) P
          refine Go.st (fun t_ k_ => XS.iload X47.here hx rfl (hb hby at_237) rfl k_) ?_
          show Go pg.tables ev below (T47.setTop (mkF mi 239 #[.val (.int a), .val (.int b), .val (.int (1 : Int32)), .val (.int (1 : Int32)), .val (.int (1 : Int32)), .val (.int (0 : Int32)), .val (.int (3 : Int32)), .val (.ref f3), .val (.int (1 : Int32)), .val (.ref f1)] [(.int (1 : Int32))])) P
          obtain ⟨fs, hr, hrun, hended, hW, hsame⟩ := X47.leave (v := some (.int (1 : Int32))) (fun h => by rw [Bd.returns] at h; cases h) (BodyLoose.notSynchronized Bd)
          refine ⟨_, _, ?_, hP _ _ ⟨hrun, hended, _, _, rfl, ?_, ⟨_, rfl⟩, hW, hsame.mono (by decide) (by decide)⟩⟩
          · exact retN X47 hx (t := .boolean) Bd.returns (by simp) (hb hby at_239) hr
          · show (some (.int (1 : Int32)) : Option Value) = some (.int 1) ∧ Fr n0 _
            exact ⟨rfl, N47⟩
        · rw [if_neg hk5]
          show Go pg.tables ev below (T44.setTop (mkF mi 184 #[.val (.int a), .val (.int b), .val (.int (1 : Int32)), .val (.int (1 : Int32)), .val (.int (1 : Int32)), .val (.int (1 : Int32)), .val (.int (3 : Int32)), .val (.ref f3), .val (.int (1 : Int32)), .unset] [])) P
          refine Go.st (fun t_ k_ => XS.iload X44.here hx rfl (hb hby at_184) rfl k_) ?_
          show Go pg.tables ev below (T44.setTop (mkF mi 186 #[.val (.int a), .val (.int b), .val (.int (1 : Int32)), .val (.int (1 : Int32)), .val (.int (1 : Int32)), .val (.int (1 : Int32)), .val (.int (3 : Int32)), .val (.ref f3), .val (.int (1 : Int32)), .unset] [(.int (1 : Int32))])) P
          refine Go.st (fun t_ k_ => XS.iload X44.here hx rfl (hb hby at_186) rfl k_) ?_
          show Go pg.tables ev below (T44.setTop (mkF mi 188 #[.val (.int a), .val (.int b), .val (.int (1 : Int32)), .val (.int (1 : Int32)), .val (.int (1 : Int32)), .val (.int (1 : Int32)), .val (.int (3 : Int32)), .val (.ref f3), .val (.int (1 : Int32)), .unset] [(.int (1 : Int32)), (.int (1 : Int32))])) P
          obtain ⟨_, _, ⟨T48, L48, k48, n48⟩, -, X48, ⟨Lc48, hQ48, l48, y48, z48⟩, st48⟩ := Jvm.LawKit.callS X44 hx (y := (⟨"com/example/baton/baton/TraceFlags", "of", "(ZZ)Lcom/example/baton/baton/TraceFlags;"⟩ : MethodName)) hown (mvT hZ (hw _ (List.mem_of_getElem? (i := 0) rfl))) (mvT hZ (hw _ (List.mem_of_getElem? (i := 1) rfl))) (mvT hZ (hw _ (List.mem_of_getElem? (i := 2) rfl))) (mvT hZ (hw _ (List.mem_of_getElem? (i := 3) rfl))) (by decide) (backOf (W := 0) (rmOf3 l Z a0 hw [] ar ka f0 f1 f2 f3 f5 f7 f8 f10 h0 n0 Z0 S0 A0) hZ (hw _ (List.mem_of_getElem? (i := 3) rfl)) (hw _ (List.mem_of_getElem? (i := 2) rfl)) (by decide) (by decide)) (g := (mkF mi 188 #[.val (.int a), .val (.int b), .val (.int (1 : Int32)), .val (.int (1 : Int32)), .val (.int (1 : Int32)), .val (.int (1 : Int32)), .val (.int (3 : Int32)), .val (.ref f3), .val (.int (1 : Int32)), .unset] [(.int (1 : Int32)), (.int (1 : Int32))])) rfl (by rw [hml]; rfl) (argsL := [(.int (1 : Int32)), (.int (1 : Int32))]) (rest := []) (lenOf pd_0 rfl) rfl (by show 2 * 0 + _ ≤ _; exact Nat.le_of_eq rfl) (hb hby at_188) (fun _ _ => ⟨rfl, e44, (by decide : 0 + 0 ≤ _), (by decide : 0 + 0 ≤ _)⟩)
          dsimp only [Pt.U, Pt.locs, Pt.cells, Pt.slots] at X48 l48 y48 z48 st48 hQ48
          subst l48 y48 z48
          obtain ⟨rfl, N48q, e48⟩ := hQ48
          have N48 := Fr.app N44 N48q
          refine Go.st st48 ?_
          show Go pg.tables ev below (T48.setTop (mkF mi 191 #[.val (.int a), .val (.int b), .val (.int (1 : Int32)), .val (.int (1 : Int32)), .val (.int (1 : Int32)), .val (.int (1 : Int32)), .val (.int (3 : Int32)), .val (.ref f3), .val (.int (1 : Int32)), .unset] [(.ref f3)])) P
          refine Go.st (fun t_ k_ => XS.astore X48.here hx rfl (hb hby at_191) rfl rfl (l' := #[.val (.int a), .val (.int b), .val (.int (1 : Int32)), .val (.int (1 : Int32)), .val (.int (1 : Int32)), .val (.int (1 : Int32)), .val (.int (3 : Int32)), .val (.ref f3), .val (.int (1 : Int32)), .val (.ref f3)]) rfl k_) ?_
          show Go pg.tables ev below (T48.setTop (mkF mi 193 #[.val (.int a), .val (.int b), .val (.int (1 : Int32)), .val (.int (1 : Int32)), .val (.int (1 : Int32)), .val (.int (1 : Int32)), .val (.int (3 : Int32)), .val (.ref f3), .val (.int (1 : Int32)), .val (.ref f3)] [])) P
          refine Go.st (fun t_ k_ => XS.iload X48.here hx rfl (hb hby at_193) rfl k_) ?_
          show Go pg.tables ev below (T48.setTop (mkF mi 195 #[.val (.int a), .val (.int b), .val (.int (1 : Int32)), .val (.int (1 : Int32)), .val (.int (1 : Int32)), .val (.int (1 : Int32)), .val (.int (3 : Int32)), .val (.ref f3), .val (.int (1 : Int32)), .val (.ref f3)] [(.int (1 : Int32))])) P
          refine Go.st (fun t_ k_ => XS.ifNo X48.here hx rfl (hb hby at_195) rfl ((if0 _ _).trans (feq (by decide)).1) k_) ?_
          show Go pg.tables ev below (T48.setTop (mkF mi 198 #[.val (.int a), .val (.int b), .val (.int (1 : Int32)), .val (.int (1 : Int32)), .val (.int (1 : Int32)), .val (.int (1 : Int32)), .val (.int (3 : Int32)), .val (.ref f3), .val (.int (1 : Int32)), .val (.ref f3)] [])) P
          refine Go.st (fun t_ k_ => XS.aload X48.here hx rfl (hb hby at_198) rfl rfl k_) ?_
          show Go pg.tables ev below (T48.setTop (mkF mi 200 #[.val (.int a), .val (.int b), .val (.int (1 : Int32)), .val (.int (1 : Int32)), .val (.int (1 : Int32)), .val (.int (1 : Int32)), .val (.int (3 : Int32)), .val (.ref f3), .val (.int (1 : Int32)), .val (.ref f3)] [(.ref f3)])) P
          refine Go.st (fun t_ k_ => XS.aload X48.here hx rfl (hb hby at_200) rfl rfl k_) ?_
          show Go pg.tables ev below (T48.setTop (mkF mi 202 #[.val (.int a), .val (.int b), .val (.int (1 : Int32)), .val (.int (1 : Int32)), .val (.int (1 : Int32)), .val (.int (1 : Int32)), .val (.int (3 : Int32)), .val (.ref f3), .val (.int (1 : Int32)), .val (.ref f3)] [(.ref f3), (.ref f3)])) P
          refine Go.st (fun t_ k_ => Jvm.RoadKit.acmp (g := (mkF mi 202 #[.val (.int a), .val (.int b), .val (.int (1 : Int32)), .val (.int (1 : Int32)), .val (.int (1 : Int32)), .val (.int (1 : Int32)), .val (.int (3 : Int32)), .val (.ref f3), .val (.int (1 : Int32)), .val (.ref f3)] [(.ref f3), (.ref f3)])) X48 hx rfl rfl rfl (pc0 := 202) (pc' := 205) (same := true) rfl (hb hby at_202) rfl (decide_eq_true rfl) (by decide) (by decide) k_) ?_
          show Go pg.tables ev below (T48.setTop (mkF mi 205 #[.val (.int a), .val (.int b), .val (.int (1 : Int32)), .val (.int (1 : Int32)), .val (.int (1 : Int32)), .val (.int (1 : Int32)), .val (.int (3 : Int32)), .val (.ref f3), .val (.int (1 : Int32)), .val (.ref f3)] [])) P
          refine Go.st (fun t_ k_ => XS.iconst X48.here hx rfl (hb hby at_205) k_) ?_
          show Go pg.tables ev below (T48.setTop (mkF mi 206 #[.val (.int a), .val (.int b), .val (.int (1 : Int32)), .val (.int (1 : Int32)), .val (.int (1 : Int32)), .val (.int (1 : Int32)), .val (.int (3 : Int32)), .val (.ref f3), .val (.int (1 : Int32)), .val (.ref f3)] [(.int (1 : Int32))])) P
          refine Go.st (fun t_ k_ => XS.goto X48.here hx rfl (pc0 := 206) (pc' := 210) rfl (hb hby at_206) (by decide) (by decide) k_) ?_
          show Go pg.tables ev below (T48.setTop (mkF mi 210 #[.val (.int a), .val (.int b), .val (.int (1 : Int32)), .val (.int (1 : Int32)), .val (.int (1 : Int32)), .val (.int (1 : Int32)), .val (.int (3 : Int32)), .val (.ref f3), .val (.int (1 : Int32)), .val (.ref f3)] [(.int (1 : Int32))])) P
          refine Go.st (fun t_ k_ => XS.iloadN X48.here hx rfl (hb hby at_210) rfl k_) ?_
          show Go pg.tables ev below (T48.setTop (mkF mi 211 #[.val (.int a), .val (.int b), .val (.int (1 : Int32)), .val (.int (1 : Int32)), .val (.int (1 : Int32)), .val (.int (1 : Int32)), .val (.int (3 : Int32)), .val (.ref f3), .val (.int (1 : Int32)), .val (.ref f3)] [(.int (1 : Int32)), (.int (1 : Int32))])) P
          refine Go.st (fun t_ k_ => XS.iload X48.here hx rfl (hb hby at_211) rfl k_) ?_
          show Go pg.tables ev below (T48.setTop (mkF mi 213 #[.val (.int a), .val (.int b), .val (.int (1 : Int32)), .val (.int (1 : Int32)), .val (.int (1 : Int32)), .val (.int (1 : Int32)), .val (.int (3 : Int32)), .val (.ref f3), .val (.int (1 : Int32)), .val (.ref f3)] [(.int (1 : Int32)), (.int (1 : Int32)), (.int (1 : Int32))])) P
          refine Go.st (fun t_ k_ => XS.icmpNo X48.here hx rfl (hb hby at_213) rfl (teq rfl).2 k_) ?_
          show Go pg.tables ev below (T48.setTop (mkF mi 216 #[.val (.int a), .val (.int b), .val (.int (1 : Int32)), .val (.int (1 : Int32)), .val (.int (1 : Int32)), .val (.int (1 : Int32)), .val (.int (3 : Int32)), .val (.ref f3), .val (.int (1 : Int32)), .val (.ref f3)] [(.int (1 : Int32))])) P
          refine Go.st (fun t_ k_ => XS.iloadN X48.here hx rfl (hb hby at_216) rfl k_) ?_
          show Go pg.tables ev below (T48.setTop (mkF mi 217 #[.val (.int a), .val (.int b), .val (.int (1 : Int32)), .val (.int (1 : Int32)), .val (.int (1 : Int32)), .val (.int (1 : Int32)), .val (.int (3 : Int32)), .val (.ref f3), .val (.int (1 : Int32)), .val (.ref f3)] [(.int (1 : Int32)), (.int (1 : Int32))])) P
          refine Go.st (fun t_ k_ => XS.iload X48.here hx rfl (hb hby at_217) rfl k_) ?_
          show Go pg.tables ev below (T48.setTop (mkF mi 219 #[.val (.int a), .val (.int b), .val (.int (1 : Int32)), .val (.int (1 : Int32)), .val (.int (1 : Int32)), .val (.int (1 : Int32)), .val (.int (3 : Int32)), .val (.ref f3), .val (.int (1 : Int32)), .val (.ref f3)] [(.int (1 : Int32)), (.int (1 : Int32)), (.int (1 : Int32))])) P
          refine Go.st (fun t_ k_ => XS.icmpNo X48.here hx rfl (hb hby at_219) rfl (teq rfl).2 k_) ?_
          show Go pg.tables ev below (T48.setTop (mkF mi 222 #[.val (.int a), .val (.int b), .val (.int (1 : Int32)), .val (.int (1 : Int32)), .val (.int (1 : Int32)), .val (.int (1 : Int32)), .val (.int (3 : Int32)), .val (.ref f3), .val (.int (1 : Int32)), .val (.ref f3)] [(.int (1 : Int32))])) P
          refine Go.st (fun t_ k_ => XS.iconst X48.here hx rfl (hb hby at_222) k_) ?_
          show Go pg.tables ev below (T48.setTop (mkF mi 223 #[.val (.int a), .val (.int b), .val (.int (1 : Int32)), .val (.int (1 : Int32)), .val (.int (1 : Int32)), .val (.int (1 : Int32)), .val (.int (3 : Int32)), .val (.ref f3), .val (.int (1 : Int32)), .val (.ref f3)] [(.int (1 : Int32)), (.int (1 : Int32))])) P
          refine Go.st (fun t_ k_ => XS.goto X48.here hx rfl (pc0 := 223) (pc' := 227) rfl (hb hby at_223) (by decide) (by decide) k_) ?_
          show Go pg.tables ev below (T48.setTop (mkF mi 227 #[.val (.int a), .val (.int b), .val (.int (1 : Int32)), .val (.int (1 : Int32)), .val (.int (1 : Int32)), .val (.int (1 : Int32)), .val (.int (3 : Int32)), .val (.ref f3), .val (.int (1 : Int32)), .val (.ref f3)] [(.int (1 : Int32)), (.int (1 : Int32))])) P
          refine Go.st (fun t_ k_ => XS.icmpNo X48.here hx rfl (hb hby at_227) rfl (teq rfl).2 k_) ?_
          show Go pg.tables ev below (T48.setTop (mkF mi 230 #[.val (.int a), .val (.int b), .val (.int (1 : Int32)), .val (.int (1 : Int32)), .val (.int (1 : Int32)), .val (.int (1 : Int32)), .val (.int (3 : Int32)), .val (.ref f3), .val (.int (1 : Int32)), .val (.ref f3)] [])) P
          refine Go.st (fun t_ k_ => XS.iconst X48.here hx rfl (hb hby at_230) k_) ?_
          show Go pg.tables ev below (T48.setTop (mkF mi 231 #[.val (.int a), .val (.int b), .val (.int (1 : Int32)), .val (.int (1 : Int32)), .val (.int (1 : Int32)), .val (.int (1 : Int32)), .val (.int (3 : Int32)), .val (.ref f3), .val (.int (1 : Int32)), .val (.ref f3)] [(.int (1 : Int32))])) P
          refine Go.st (fun t_ k_ => XS.goto X48.here hx rfl (pc0 := 231) (pc' := 235) rfl (hb hby at_231) (by decide) (by decide) k_) ?_
          show Go pg.tables ev below (T48.setTop (mkF mi 235 #[.val (.int a), .val (.int b), .val (.int (1 : Int32)), .val (.int (1 : Int32)), .val (.int (1 : Int32)), .val (.int (1 : Int32)), .val (.int (3 : Int32)), .val (.ref f3), .val (.int (1 : Int32)), .val (.ref f3)] [(.int (1 : Int32))])) P
          refine Go.st (fun t_ k_ => XS.istore X48.here hx rfl (hb hby at_235) rfl (l' := #[.val (.int a), .val (.int b), .val (.int (1 : Int32)), .val (.int (1 : Int32)), .val (.int (1 : Int32)), .val (.int (1 : Int32)), .val (.int (3 : Int32)), .val (.ref f3), .val (.int (1 : Int32)), .val (.ref f3)]) rfl k_) ?_
          show Go pg.tables ev below (T48.setTop (mkF mi 237 #[.val (.int a), .val (.int b), .val (.int (1 : Int32)), .val (.int (1 : Int32)), .val (.int (1 : Int32)), .val (.int (1 : Int32)), .val (.int (3 : Int32)), .val (.ref f3), .val (.int (1 : Int32)), .val (.ref f3)] [])) P
          refine Go.st (fun t_ k_ => XS.iload X48.here hx rfl (hb hby at_237) rfl k_) ?_
          show Go pg.tables ev below (T48.setTop (mkF mi 239 #[.val (.int a), .val (.int b), .val (.int (1 : Int32)), .val (.int (1 : Int32)), .val (.int (1 : Int32)), .val (.int (1 : Int32)), .val (.int (3 : Int32)), .val (.ref f3), .val (.int (1 : Int32)), .val (.ref f3)] [(.int (1 : Int32))])) P
          obtain ⟨fs, hr, hrun, hended, hW, hsame⟩ := X48.leave (v := some (.int (1 : Int32))) (fun h => by rw [Bd.returns] at h; cases h) (BodyLoose.notSynchronized Bd)
          refine ⟨_, _, ?_, hP _ _ ⟨hrun, hended, _, _, rfl, ?_, ⟨_, rfl⟩, hW, hsame.mono (by decide) (by decide)⟩⟩
          · exact retN X48 hx (t := .boolean) Bd.returns (by simp) (hb hby at_239) hr
          · show (some (.int (1 : Int32)) : Option Value) = some (.int 1) ∧ Fr n0 _
            exact ⟨rfl, N48⟩
theorem own_len {args : Array Value} {first s : State} {o : Option Outcome} {idx : List Nat} {t : Term} {a : Addr} {cl : Cell} {z : Int32} (ht : t.eval args first o idx s = some (.ref a)) (hc : s.heap[a]? = some cl) (h : (Term.length t).eval args first o idx s = some (.int z)) : cl.slots.size < 2 ^ 31 ∧ cl.slots.size.toInt32 = z := by
  obtain ⟨a', cell, e1, e2, e3, e4⟩ := Jvm.Free.SB.Term.length_small h
  cases ht.symm.trans e1
  cases hc.symm.trans (State.arrayAt?_spec e2).1
  cases e3
  exact ⟨e4, rfl⟩
set_option maxRecDepth 65536 in
set_option maxHeartbeats 40000000 in
theorem comes_1 {Post : Tables → Env → Array Value → State → Outcome → State → Prop} (hpost : ∀ tb e args s v u, (limb_1_1.after args s (.returned v) u = true ∧ limb_1_2.after args s (.returned v) u = true ∧ True) → FrameEnd s (.returned v) u (Jvm.fieldLocs frame_1_writes args s ++ Jvm.arrayLocs frame_1_arrays args s ++ Jvm.staticLocs frame_1_statics s) 0 0 → Post tb e args s (.returned v) u) :
    ArmFor flags0 classFile x code maxLocals ret World_1 tables_1 room_1 Calls_1 rest_1 Pre_1 Post := by
  intro l hfl _ _ p e ha hc hk s m args below hf hA hF happ hP
  obtain ⟨hcalls, hrest, hpre⟩ := hP
  obtain ⟨-, -, -, hnamed, -, -, -, hat⟩ := (Spec.applies_iff hf).mp happ
  obtain ⟨hg, hn⟩ := and_e (Cond.before_iff.mp (show (Jvm.Cond.and given_1 narrow_1).before args s = true from hpre))
  obtain ⟨g1, g2⟩ := and_e hg
  obtain ⟨g3, g4⟩ := and_e g2
  obtain ⟨w0, w1, rfl⟩ : ∃ w0 w1 : Value, args = #[w0, w1] := by
    have hs : args.size = 2 := by simpa [Cond.value, given_1] using g1
    obtain ⟨L⟩ := args
    match L, hs with
    | [w0, w1], _ => exact ⟨w0, w1, rfl⟩
  have hw := fun d (hd : d ∈ tables_1) => atoms_spec (ws := Jvm.Cond.code x code maxLocals ret :: tables_1) hat d (List.mem_cons_of_mem _ hd)
  have hfit : Fit s := fun {y c} hc i hi => by
    obtain ⟨ha, rfl⟩ := Array.getElem?_eq_some_iff.mp hc
    have q := List.all_eq_true.mp ((Array.all_eq_true_iff_forall_mem.mp hF) _ (Array.getElem_mem ha)) i (List.mem_range.mpr hi)
    simpa [Array.getElem?_eq_getElem hi] using q
  obtain ⟨i0, ei0⟩ := is_v g3
  obtain rfl : w0 = (.int i0) := Option.some.inj ei0
  obtain ⟨i1, ei1⟩ := is_v g4
  obtain rfl : w1 = (.int i1) := Option.some.inj ei1
  obtain ⟨nn1, nn2⟩ := and_e hn
  obtain ⟨nn3, nn4⟩ := and_e nn2
  obtain ⟨nn5, nn6⟩ := and_e nn4
  obtain ⟨nn7, nn8⟩ := and_e nn6
  obtain ⟨nn9, nn10⟩ := and_e nn8
  obtain ⟨nn11, nn12⟩ := and_e nn10
  obtain ⟨nn13, nn14⟩ := and_e nn12
  obtain ⟨nn15, nn16⟩ := and_e nn14
  obtain ⟨nn17, nn18⟩ := and_e nn16
  obtain ⟨nn19, nn20⟩ := and_e nn18
  obtain ⟨nn21, nn22⟩ := and_e nn20
  obtain ⟨nn23, nn24⟩ := and_e nn22
  obtain ⟨nn25, nn26⟩ := and_e nn24
  obtain ⟨nn27, nn28⟩ := and_e nn26
  obtain ⟨nn29, nn30⟩ := and_e nn28
  obtain ⟨nn31, nn32⟩ := and_e nn30
  obtain ⟨nn33, nn34⟩ := and_e nn32
  obtain ⟨nn35, nn36⟩ := and_e nn34
  obtain ⟨nn37, nn38⟩ := and_e nn36
  obtain ⟨nn39, nn40⟩ := and_e nn38
  obtain ⟨nn41, nn42⟩ := and_e nn40
  obtain ⟨nn43, nn44⟩ := and_e nn42
  obtain ⟨nn45, nn46⟩ := and_e nn44
  obtain ⟨nn47, nn48⟩ := and_e nn46
  obtain ⟨nn49, nn50⟩ := and_e nn48
  obtain ⟨nn51, nn52⟩ := and_e nn50
  have ha0 := nn1
  obtain ⟨ar, ear⟩ := arr_v ha0
  obtain ⟨cA, AA⟩ := Arr.start ear ha0
  obtain ⟨f0, ef0⟩ := exa_v nn5
  have sl0 := (elem_in ef0 ear rfl AA.1).2
  obtain ⟨f1, ef1⟩ := exa_v nn17
  have sl1 := (elem_in ef1 ear rfl AA.1).2
  obtain ⟨f2, ef2⟩ := exa_v nn13
  have sl2 := (elem_in ef2 ear rfl AA.1).2
  obtain ⟨f3, ef3⟩ := exa_v nn9
  have sl3 := (elem_in ef3 ear rfl AA.1).2
  have ef4 := null_v nn33
  have sl4 := (elem_in ef4 ear rfl AA.1).2
  obtain ⟨f5, ef5⟩ := exa_v nn35
  have sl5 := (elem_in ef5 ear rfl AA.1).2
  have ef6 := null_v nn37
  have sl6 := (elem_in ef6 ear rfl AA.1).2
  obtain ⟨f7, ef7⟩ := exa_v nn39
  have sl7 := (elem_in ef7 ear rfl AA.1).2
  obtain ⟨f8, ef8⟩ := exa_v nn41
  have sl8 := (elem_in ef8 ear rfl AA.1).2
  have ef9 := null_v nn43
  have sl9 := (elem_in ef9 ear rfl AA.1).2
  obtain ⟨f10, ef10⟩ := exa_v nn45
  have sl10 := (elem_in ef10 ear rfl AA.1).2
  have hlen := own_eqI nn3
  obtain ⟨hsz, hsz2⟩ := own_len ear AA.1 hlen
  have AV : Arv s s.heap ar cA.cls (.object "com/example/baton/baton/TraceFlags") (11 : Int32) [(.ref f0), (.ref f1), (.ref f2), (.ref f3), .null, (.ref f5), .null, (.ref f7), (.ref f8), .null, (.ref f10)] .null := Arv.start hfit AA hsz hsz2 (by decide) rfl ⟨sl0, sl1, sl2, sl3, sl4, sl5, sl6, sl7, sl8, sl9, sl10, trivial⟩
  have fl0 := own_eqI nn7
  rw [fld_at ef0] at fl0
  have fl1 := own_eqI nn21
  rw [fld_at ef1] at fl1
  have fl2 := own_eqI nn15
  rw [fld_at ef2] at fl2
  have fl3 := own_eqI nn27
  rw [fld_at ef3] at fl3
  obtain ⟨n, o, h1, h2, h3, _, L, rfl, ⟨rfl, N⟩, hq⟩ := rm0 l s _ hw tables_1 i0 i1 ar cA.cls f0 f1 f2 f3 f5 f7 f8 f10 s.heap s.heap.size (Nat.le_refl _) (Sta.start ear (Or.inr ⟨(hw _ (List.mem_of_getElem? (i := 2) rfl)), (hw _ (List.mem_of_getElem? (i := 5) rfl))⟩)) AV (Exa.start ef0 nn5) (Exa.start ef1 nn17) (Exa.start ef2 nn13) (Exa.start ef3 nn9) (Fld.start fl0) (Fld.start fl1) (Fld.start fl2) (Fld.start fl3) (own_neR ef0 ef1 nn25) (own_neR ef0 ef2 nn23) (own_neR ef0 ef3 nn11) (own_neR ef1 ef2 nn19) (own_neR ef1 ef3 nn31) (own_neR ef2 ef3 nn29) p e ha hc hk s m _ below hf ((Spec.applies_iff_loose hf).mp happ).1 ⟨rfl, State.Warmed39.refl s, rfl⟩ trivial
  refine ⟨n, _, h1, h2, h3, hpost _ _ _ _ _ _ ⟨Cond.after_iff.mpr rfl, Cond.after_iff.mpr (eq_i res_at (Term.int_eval (1)) rfl), trivial⟩ ⟨hq.1, hq.2.1, (hq.2.2.sift fun y hy => Or.inr (N y hy)).mono (by decide) (by decide)⟩⟩
theorem main_1_1 : Claimed_1_1 := comes_1 fun _ _ _ _ _ _ h hF => ⟨h.1, hF⟩
theorem main_1_2 : Claimed_1_2 := comes_1 fun _ _ _ _ _ _ h hF => ⟨h.2.1, hF⟩
end Jvm.Pilot.@@N@@
namespace Jvm.Pilot.@@N@@
open Jvm Jvm.ClassFile Sem Op Lib Jvm.Free Jvm.Stand Jvm.Pilot.@@N@@.Jvm.D
/-! MADE BY PROGRAM (witnessworld.py) out of the Statement's table words and the real class files: 10 classes; the members and pool entries that the words name. The judged class is class 1, her method 1. -/
namespace start1
open Jvm.ClassFile
def u (s : String) : CpInfo := .utf8 (stringToUtf16 s)
/-- a pool by its gaps: so many unusable entries, then the entry; so many at the end -/
def gap : Nat → List CpInfo → List CpInfo
  | 0, r => r
  | n + 1, r => .unusable :: gap n r
def poolList (es : List (Nat × CpInfo)) (last : Nat) : List CpInfo := es.foldr (fun e r => gap e.1 (e.2 :: r)) (gap last [])
def pool (es : List (Nat × CpInfo)) (last : Nat) : Array CpInfo := ⟨poolList es last⟩
def fileOf (pool : Array CpInfo) (this : Nat) (attrs : Array Attribute := #[]) (ms : Array MethodInfo := #[]) (fl : Nat := 33) (sup : Nat := 0) (ifs : Array Nat := #[]) (fds : Array FieldInfo := #[]) : ClassFile where
  minorVersion := 0
  majorVersion := 65
  constantPool := pool
  accessFlags := fl
  thisClass := this
  superClass := sup
  interfaces := ifs
  fields := fds
  methods := ms
  attributes := attrs
def plain (name : String) (sup : Option ClassId) : Class where
  name := name
  kind := .ordinary
  loader := none
  accessFlags := 33
  super := sup
  interfaces := #[]
  cf := none
  fields := #[]
  methods := #[]
  instanceTypes := #[]
  staticTypes := #[]
  resolved := #[]
  callSites := []
  init := .initialized
  statics := none
  mirror := none

def pool0 : Array CpInfo := pool [(5, u "<init>"), (0, u "()V"), (1, .class_ 10), (1, u "java/lang/Object")] 113

def k0m0 : Method := { name := "<init>", desc := "()V", sig := { parameters := [], returnType := none }, accessFlags := 1, code := none }
/-- java/lang/Object -/
def k0 : Class := { plain "java/lang/Object" none with
  accessFlags := 33
  interfaces := #[]
  cf := some (fileOf pool0 8 #[] #[{ accessFlags := 1, nameIndex := 5, descriptorIndex := 6, attributes := #[] }] 33 0 #[] #[])
  fields := #[]
  methods := #[k0m0]
  instanceTypes := #[]
  staticTypes := #[]
  resolved := Array.replicate 124 none
  statics := none }

def pool1 : Array CpInfo := pool [(2, .class_ 4), (1, u "java/lang/Object"), (0, u "<init>"), (0, u "()V"), (0, .methodref 8 9), (0, .class_ 10), (0, .nameAndType 11 12), (0, u "com/example/baton/baton/TraceFlags"), (0, u "of"), (0, u "(ZZ)Lcom/example/baton/baton/TraceFlags;"), (0, .methodref 8 14), (0, .nameAndType 15 16), (0, u "sampled"), (0, u "()Z"), (0, .methodref 8 18), (0, .nameAndType 19 16), (0, u "randomTraceId"), (0, .methodref 8 21), (0, .nameAndType 22 16), (0, u "debug"), (0, .methodref 8 24), (0, .nameAndType 25 16), (0, u "deferred"), (0, .methodref 8 27), (0, .nameAndType 28 29), (0, u "bits"), (0, u "()I"), (0, .class_ 31), (0, u "com/example/baton/baton/TraceFlagsOfPinLaw"), (2, u "law"), (0, u "(II)Z")] 3

def k1m0 : Method := { name := "<init>", desc := "()V", sig := { parameters := [], returnType := none }, accessFlags := 1, code := none }
def k1c1 : Code := { maxStack := 3, maxLocals := 10, code := code, exceptionTable := #[], attributes := #[] }
def k1m1 : Method := { name := "law", desc := "(II)Z", sig := { parameters := [.int, .int], returnType := some .boolean }, accessFlags := 9, code := some k1c1 }
/-- com/example/baton/baton/TraceFlagsOfPinLaw -/
def k1 : Class := { plain "com/example/baton/baton/TraceFlagsOfPinLaw" (some 0) with
  accessFlags := 49
  interfaces := #[]
  cf := some (fileOf pool1 30 #[] #[{ accessFlags := 1, nameIndex := 5, descriptorIndex := 6, attributes := #[] }, { accessFlags := 9, nameIndex := 34, descriptorIndex := 35, attributes := #[] }] 49 2 #[] #[])
  fields := #[]
  methods := #[k1m0, k1m1]
  instanceTypes := #[]
  staticTypes := #[]
  resolved := Array.replicate 39 none
  statics := none }

def pool2 : Array CpInfo := pool [(1, .class_ 2), (0, u "com/example/baton/baton/TraceFlags"), (1, .class_ 6), (1, u "java/lang/Object"), (2, .fieldref 1 10), (0, .nameAndType 11 12), (0, u "bits"), (0, u "I"), (0, .fieldref 1 14), (0, .nameAndType 15 16), (0, u "BY_BITS"), (0, u "[Lcom/example/baton/baton/TraceFlags;"), (2, u "sampled"), (0, u "()Z"), (2, u "randomTraceId"), (2, u "debug"), (2, u "deferred"), (7, u "SAMPLED_BIT"), (2, u "RANDOM_TRACE_ID_BIT"), (1, u "DEBUG_BIT"), (1, u "DEFERRED_BIT"), (1, u "W3C_BITS"), (3, u "of"), (0, u "(ZZ)Lcom/example/baton/baton/TraceFlags;"), (5, u "()I")] 20

def k2c0 : Code := { maxStack := 3, maxLocals := 2, code := prog_25_method_2_code, exceptionTable := #[], attributes := #[] }
def k2m0 : Method := { name := "of", desc := "(ZZ)Lcom/example/baton/baton/TraceFlags;", sig := { parameters := [.boolean, .boolean], returnType := some (.object "com/example/baton/baton/TraceFlags") }, accessFlags := 9, code := some k2c0 }
def k2c1 : Code := { maxStack := 2, maxLocals := 1, code := prog_25_method_6_code, exceptionTable := #[], attributes := #[] }
def k2m1 : Method := { name := "sampled", desc := "()Z", sig := { parameters := [], returnType := some .boolean }, accessFlags := 1, code := some k2c1 }
def k2c2 : Code := { maxStack := 2, maxLocals := 1, code := prog_25_method_7_code, exceptionTable := #[], attributes := #[] }
def k2m2 : Method := { name := "randomTraceId", desc := "()Z", sig := { parameters := [], returnType := some .boolean }, accessFlags := 1, code := some k2c2 }
def k2c3 : Code := { maxStack := 2, maxLocals := 1, code := prog_25_method_8_code, exceptionTable := #[], attributes := #[] }
def k2m3 : Method := { name := "debug", desc := "()Z", sig := { parameters := [], returnType := some .boolean }, accessFlags := 1, code := some k2c3 }
def k2c4 : Code := { maxStack := 2, maxLocals := 1, code := prog_25_method_9_code, exceptionTable := #[], attributes := #[] }
def k2m4 : Method := { name := "deferred", desc := "()Z", sig := { parameters := [], returnType := some .boolean }, accessFlags := 1, code := some k2c4 }
def k2c5 : Code := { maxStack := 2, maxLocals := 1, code := prog_25_method_10_code, exceptionTable := #[], attributes := #[] }
def k2m5 : Method := { name := "bits", desc := "()I", sig := { parameters := [], returnType := some .int }, accessFlags := 0, code := some k2c5 }
/-- com/example/baton/baton/TraceFlags -/
def k2 : Class := { plain "com/example/baton/baton/TraceFlags" (some 0) with
  accessFlags := 49
  interfaces := #[]
  cf := some (fileOf pool2 1 #[] #[{ accessFlags := 9, nameIndex := 50, descriptorIndex := 51, attributes := #[] }, { accessFlags := 1, nameIndex := 19, descriptorIndex := 20, attributes := #[] }, { accessFlags := 1, nameIndex := 23, descriptorIndex := 20, attributes := #[] }, { accessFlags := 1, nameIndex := 26, descriptorIndex := 20, attributes := #[] }, { accessFlags := 1, nameIndex := 29, descriptorIndex := 20, attributes := #[] }, { accessFlags := 0, nameIndex := 11, descriptorIndex := 57, attributes := #[] }] 49 4 #[] #[{ accessFlags := 24, nameIndex := 37, descriptorIndex := 12, attributes := #[] }, { accessFlags := 24, nameIndex := 40, descriptorIndex := 12, attributes := #[] }, { accessFlags := 26, nameIndex := 42, descriptorIndex := 12, attributes := #[] }, { accessFlags := 26, nameIndex := 44, descriptorIndex := 12, attributes := #[] }, { accessFlags := 26, nameIndex := 46, descriptorIndex := 12, attributes := #[] }, { accessFlags := 26, nameIndex := 15, descriptorIndex := 16, attributes := #[] }, { accessFlags := 18, nameIndex := 11, descriptorIndex := 12, attributes := #[] }])
  fields := #[{ name := "SAMPLED_BIT", type := .int, accessFlags := 24, slot := 0, constantValue := 0 }, { name := "RANDOM_TRACE_ID_BIT", type := .int, accessFlags := 24, slot := 1, constantValue := 0 }, { name := "DEBUG_BIT", type := .int, accessFlags := 26, slot := 2, constantValue := 0 }, { name := "DEFERRED_BIT", type := .int, accessFlags := 26, slot := 3, constantValue := 0 }, { name := "W3C_BITS", type := .int, accessFlags := 26, slot := 4, constantValue := 0 }, { name := "BY_BITS", type := (.array (.object "com/example/baton/baton/TraceFlags")), accessFlags := 26, slot := 5, constantValue := 0 }, { name := "bits", type := .int, accessFlags := 18, slot := 0, constantValue := 0 }]
  methods := #[k2m0, k2m1, k2m2, k2m3, k2m4, k2m5]
  instanceTypes := #[.int]
  staticTypes := #[.int, .int, .int, .int, .int, (.array (.object "com/example/baton/baton/TraceFlags"))]
  resolved := Array.replicate 78 none
  statics := some 0 }

def pool3 : Array CpInfo := pool [(1, u "java/lang/Cloneable"), (0, .class_ 1), (0, u "java/lang/Object"), (0, .class_ 3)] 3

/-- java/lang/Cloneable -/
def k3 : Class := { plain "java/lang/Cloneable" (some 0) with
  accessFlags := 1537
  interfaces := #[]
  cf := some (fileOf pool3 2 #[] #[] 1537 4 #[] #[])
  fields := #[]
  methods := #[]
  instanceTypes := #[]
  staticTypes := #[]
  resolved := Array.replicate 8 none
  statics := none }

def pool4 : Array CpInfo := pool [(1, u "java/io/Serializable"), (0, .class_ 1), (0, u "java/lang/Object"), (0, .class_ 3)] 3

/-- java/io/Serializable -/
def k4 : Class := { plain "java/io/Serializable" (some 0) with
  accessFlags := 1537
  interfaces := #[]
  cf := some (fileOf pool4 2 #[] #[] 1537 4 #[] #[])
  fields := #[]
  methods := #[]
  instanceTypes := #[]
  staticTypes := #[]
  resolved := Array.replicate 8 none
  statics := none }

/-- the primitive byte -/
def k5 : Class := { plain "byte" none with kind := .primitive 'B', accessFlags := 0x411 }
/-- [B -/
def k6 : Class := { plain "[B" (some 0) with kind := .array 5 .byte, interfaces := #[3, 4], accessFlags := 1041 }

/-- the primitive int -/
def k7 : Class := { plain "int" none with kind := .primitive 'I', accessFlags := 0x411 }
/-- [I -/
def k8 : Class := { plain "[I" (some 0) with kind := .array 7 .int, interfaces := #[3, 4], accessFlags := 1041 }

/-- [Lcom/example/baton/baton/TraceFlags; -/
def k9 : Class := { plain "[Lcom/example/baton/baton/TraceFlags;" (some 0) with kind := .array 2 (.object "com/example/baton/baton/TraceFlags"), interfaces := #[3, 4], accessFlags := 1041 }

def heap : Heap := #[{ cls := 2, slots := #[.int 0, .int 0, .int 0, .int 0, .int 0, .ref 1], vm := .statics 2 },
  { cls := 9, slots := #[.ref 2, .ref 3, .ref 4, .ref 5, .null, .ref 6, .null, .ref 7, .ref 8, .null, .ref 9], vm := .none },
  { cls := 2, slots := #[.int 0], vm := .none },
  { cls := 2, slots := #[.int 1], vm := .none },
  { cls := 2, slots := #[.int 2], vm := .none },
  { cls := 2, slots := #[.int 3], vm := .none },
  { cls := 2, slots := #[.int 5], vm := .none },
  { cls := 2, slots := #[.int 7], vm := .none },
  { cls := 2, slots := #[.int 8], vm := .none },
  { cls := 2, slots := #[.int 10], vm := .none }]
def classes : Array Class := #[k0, k1, k2, k3, k4, k5, k6, k7, k8, k9]
def interned : List (Array UInt16 × Addr) := []
def slotsUsed : Nat := 25
def theMethod : MethodId := ⟨1, 1⟩
def args0 : Array Value := #[.int 5, .int 6]
def aboutOver (below : List Frame) : State where
  vm := { classes := classes, interned := interned.toArray }
  heap := heap
  slotsUsed := slotsUsed
  threads := #[{ frames := .invoking theMethod args0 :: below }]
def below0 : List Frame := [.native { method := ⟨0, 0⟩, args := #[] }]
def about1 : State := aboutOver below0
def p0 : Program := .bare "" "" ""
def e0 : Env := launch0.env 0 0 0
theorem w_frames : about1.frames = Frame.invoking theMethod args0 :: below0 := rfl
set_option maxRecDepth 65536 in
theorem w_args : argsFit about1.vm theMethod args0 = true := by decide +kernel
set_option maxRecDepth 65536 in
theorem w_heap : heapFits about1 = true := by decide +kernel
set_option maxRecDepth 65536 in
theorem w_runnable : about1.curStatus? = some .runnable := by decide +kernel
set_option maxRecDepth 65536 in
theorem w_alone : about1.alone = true := by decide +kernel
set_option maxRecDepth 65536 in
theorem w_named : about1.methodNamed? x = some theMethod := by decide +kernel
set_option maxRecDepth 65536 in
theorem w_hears : about1.hears theMethod below0 = true := by decide +kernel
set_option maxRecDepth 65536 in
theorem w_ripe : about1.ripe theMethod args0 below0 = true := by decide +kernel
theorem w_running : about1.status = .running := rfl
set_option maxRecDepth 65536 in
theorem w_room : about1.hasRoom e0.platform room_1 = true :=
  launch0.hasRoom_least _ room_1 (by decide +kernel) (by decide +kernel) (by decide +kernel) (by decide +kernel) (by decide +kernel) (by decide +kernel)
theorem allAtoms_all (ts : List Jvm.Cond) (a : Array Jvm.Value) (st : Jvm.State) : (allAtoms ts).before a st = ts.all (fun c => c.before a st) := by
  induction ts with
  | nil => rfl
  | cons c t ih =>
    show (Jvm.Cond.and c (allAtoms t)).before a st = _
    rw [Jvm.Cond.before_and, ih, List.all_cons]
def words1 : List Jvm.Cond := Jvm.Cond.code x code maxLocals ret :: tables_1
/-- a 'code' word, met by the world's own term for the bytes: nothing is compared byte by byte -/
theorem code_word {y : MethodName} {bytes : ByteArray} {mx : Nat} {rt : Option FieldType} {a : Array Value} {s : State} {m : MethodId} {meth : Method} {c : Code} (h1 : s.methodNamed? y = some m) (h2 : s.vm.method? m = some meth) (h3 : meth.code = some c) (h4 : c.code = bytes)
    (h5 : (c.maxLocals == mx && c.exceptionTable.isEmpty && decide (c.maxStack ≤ mostOperands) && decide (meth.sig.returnType = rt) && !meth.locks && decide (parseMethodDescriptor y.desc = some meth.sig)) = true) : (Jvm.Cond.code y bytes mx rt).before a s = true := by
  simp only [Bool.and_eq_true, beq_iff_eq, Bool.not_eq_true', decide_eq_true_eq] at h5
  obtain ⟨⟨⟨⟨⟨g1, g2⟩, g3⟩, g4⟩, g5⟩, g6⟩ := h5
  simp [Cond.before, Cond.holds, Cond.value, h1, h2, h3, h4, g1, g2, g3, g4, g5, g6]
def isCode : Jvm.Cond → Bool
  | .code _ _ _ _ => true
  | _ => false
theorem all_split {L : List Jvm.Cond} {P : Jvm.Cond → Bool} (h1 : L.all (fun c => isCode c || P c) = true) (h2 : ∀ c ∈ L.filter isCode, P c = true) : L.all P = true := by
  refine List.all_eq_true.mpr fun c hc => ?_
  have h := List.all_eq_true.mp h1 c hc
  rcases Bool.eq_false_or_eq_true (isCode c) with hi | hi
  · exact h2 c (List.mem_filter.mpr ⟨hc, hi⟩)
  · simpa [hi] using h
set_option maxRecDepth 65536 in
theorem w_c0 : (Jvm.Cond.code x code maxLocals ret).before args0 about1 = true := code_word (m := ⟨1, 1⟩) (meth := k1m1) (c := k1c1) (by decide +kernel) rfl rfl rfl (by decide +kernel)
set_option maxRecDepth 65536 in
theorem w_c1 : (Jvm.Cond.code ({ cls := "com/example/baton/baton/TraceFlags", name := "of", desc := "(ZZ)Lcom/example/baton/baton/TraceFlags;" } : Jvm.MethodName) prog_25_method_2_code (2 : Nat) (Option.some (Jvm.ClassFile.FieldType.object "com/example/baton/baton/TraceFlags"))).before args0 about1 = true := code_word (m := ⟨2, 0⟩) (meth := k2m0) (c := k2c0) (by decide +kernel) rfl rfl rfl (by decide +kernel)
set_option maxRecDepth 65536 in
theorem w_c2 : (Jvm.Cond.code ({ cls := "com/example/baton/baton/TraceFlags", name := "sampled", desc := "()Z" } : Jvm.MethodName) prog_25_method_6_code (1 : Nat) (Option.some Jvm.ClassFile.FieldType.boolean)).before args0 about1 = true := code_word (m := ⟨2, 1⟩) (meth := k2m1) (c := k2c1) (by decide +kernel) rfl rfl rfl (by decide +kernel)
set_option maxRecDepth 65536 in
theorem w_c3 : (Jvm.Cond.code ({ cls := "com/example/baton/baton/TraceFlags", name := "randomTraceId", desc := "()Z" } : Jvm.MethodName) prog_25_method_7_code (1 : Nat) (Option.some Jvm.ClassFile.FieldType.boolean)).before args0 about1 = true := code_word (m := ⟨2, 2⟩) (meth := k2m2) (c := k2c2) (by decide +kernel) rfl rfl rfl (by decide +kernel)
set_option maxRecDepth 65536 in
theorem w_c4 : (Jvm.Cond.code ({ cls := "com/example/baton/baton/TraceFlags", name := "debug", desc := "()Z" } : Jvm.MethodName) prog_25_method_8_code (1 : Nat) (Option.some Jvm.ClassFile.FieldType.boolean)).before args0 about1 = true := code_word (m := ⟨2, 3⟩) (meth := k2m3) (c := k2c3) (by decide +kernel) rfl rfl rfl (by decide +kernel)
set_option maxRecDepth 65536 in
theorem w_c5 : (Jvm.Cond.code ({ cls := "com/example/baton/baton/TraceFlags", name := "deferred", desc := "()Z" } : Jvm.MethodName) prog_25_method_9_code (1 : Nat) (Option.some Jvm.ClassFile.FieldType.boolean)).before args0 about1 = true := code_word (m := ⟨2, 4⟩) (meth := k2m4) (c := k2c4) (by decide +kernel) rfl rfl rfl (by decide +kernel)
set_option maxRecDepth 65536 in
theorem w_c6 : (Jvm.Cond.code ({ cls := "com/example/baton/baton/TraceFlags", name := "bits", desc := "()I" } : Jvm.MethodName) prog_25_method_10_code (1 : Nat) (Option.some Jvm.ClassFile.FieldType.int)).before args0 about1 = true := code_word (m := ⟨2, 5⟩) (meth := k2m5) (c := k2c5) (by decide +kernel) rfl rfl rfl (by decide +kernel)
def codes1 : List Jvm.Cond := [Jvm.Cond.code x code maxLocals ret, Jvm.Cond.code ({ cls := "com/example/baton/baton/TraceFlags", name := "of", desc := "(ZZ)Lcom/example/baton/baton/TraceFlags;" } : Jvm.MethodName) prog_25_method_2_code (2 : Nat) (Option.some (Jvm.ClassFile.FieldType.object "com/example/baton/baton/TraceFlags")), Jvm.Cond.code ({ cls := "com/example/baton/baton/TraceFlags", name := "sampled", desc := "()Z" } : Jvm.MethodName) prog_25_method_6_code (1 : Nat) (Option.some Jvm.ClassFile.FieldType.boolean), Jvm.Cond.code ({ cls := "com/example/baton/baton/TraceFlags", name := "randomTraceId", desc := "()Z" } : Jvm.MethodName) prog_25_method_7_code (1 : Nat) (Option.some Jvm.ClassFile.FieldType.boolean), Jvm.Cond.code ({ cls := "com/example/baton/baton/TraceFlags", name := "debug", desc := "()Z" } : Jvm.MethodName) prog_25_method_8_code (1 : Nat) (Option.some Jvm.ClassFile.FieldType.boolean), Jvm.Cond.code ({ cls := "com/example/baton/baton/TraceFlags", name := "deferred", desc := "()Z" } : Jvm.MethodName) prog_25_method_9_code (1 : Nat) (Option.some Jvm.ClassFile.FieldType.boolean), Jvm.Cond.code ({ cls := "com/example/baton/baton/TraceFlags", name := "bits", desc := "()I" } : Jvm.MethodName) prog_25_method_10_code (1 : Nat) (Option.some Jvm.ClassFile.FieldType.int)]
set_option maxRecDepth 65536 in
theorem codes_eq : words1.filter isCode = codes1 := rfl
theorem w_codes : ∀ c ∈ words1.filter isCode, c.before args0 about1 = true := by
  rw [codes_eq]
  intro c hc
  simp only [codes1, List.mem_cons, List.not_mem_nil, or_false] at hc
  rcases hc with rfl | rfl | rfl | rfl | rfl | rfl | rfl
  · exact w_c0
  · exact w_c1
  · exact w_c2
  · exact w_c3
  · exact w_c4
  · exact w_c5
  · exact w_c6
set_option maxRecDepth 65536 in
theorem w_t1 : (words1.take 24).all (fun c => isCode c || c.before args0 about1) = true := by decide +kernel
set_option maxRecDepth 65536 in
theorem w_t2 : (words1.drop 24).all (fun c => isCode c || c.before args0 about1) = true := by decide +kernel
theorem w_tables : (allAtoms (Jvm.Cond.code x code maxLocals ret :: tables_1)).before args0 about1 = true := by
  rw [allAtoms_all]
  show words1.all (fun c => c.before args0 about1) = true
  refine all_split ?_ w_codes
  rw [← List.take_append_drop 24 words1, List.all_append, w_t1, w_t2]
  rfl
set_option maxRecDepth 65536 in
theorem w_case : (Jvm.Cond.and given_1 narrow_1).before args0 about1 = true := by decide +kernel
theorem w_applies : (headSpec (Jvm.Cond.code x code maxLocals ret :: tables_1) room_1).applies x e0.platform about1 = true :=
  (Spec.applies_iff w_frames).mpr ⟨w_running, w_runnable, w_alone, w_named, w_hears, w_ripe, w_room, w_tables⟩
theorem atStart : AtStart classFile x code maxLocals ret World_1 tables_1 room_1 Calls_1 rest_1 Pre_1 launch0 p0 e0 about1 theMethod args0 below0 :=
  ⟨lists_1, trivial, launch0.admits_env _ _ _, launch0.least_env, fairChoices_fair.cas, fairChoices_fair.clock, w_frames, w_args, w_heap, w_applies, trivial, trivial, w_case⟩
end start1
theorem witness_1 : WitnessClaimed_1 := ⟨start1.p0, start1.e0, start1.about1, start1.theMethod, start1.args0, start1.below0, start1.atStart⟩
end Jvm.Pilot.@@N@@
